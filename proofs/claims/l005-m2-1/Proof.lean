import JvmDerived
import JvmDerived.Pilot.@@N@@Statement
import JvmDerived.Pilot.@@N@@Code
set_option linter.unusedVariables false
set_option linter.unusedSimpArgs false
namespace Jvm.Pilot.@@N@@
open Jvm Jvm.ClassFile Sem Op Lib Jvm.Free Jvm.Stand Jvm.LawKit Jvm.RoadKit Bundle Jvm.Pilot.@@N@@.Jvm.D
section OwnHead
variable {p : Program} {l : Launch} {e : Env} {R : Room} {s : State} {m : MethodId} {args : Array Value} {below : List Frame} {meth : Method} {c : Code} {T T' : State} {locs : List Loc} {cells slots : Nat} {Q : Option Value → Heap → List Loc → Prop} {k n : Nat} {g : JFrame}
/-- from here (the state T, the frame g on top) the call comes to its end, and the end is as Fin says -/
def own_E (p : Program) (e : Env) (below : List Frame) (Fin : Outcome → State → Prop) (T : State) (g : JFrame) : Prop :=
  ∃ s₂ o, Steps p.tables e below (T.setTop g) s₂ ∧ s₂.status = .running ∧ Ended s₂ below o ∧ Fin o s₂
/-- the end of a body that interns nothing: what it returns, the heap and the places written as Q says, within k cells and n slots -/
def own_Fin (s : State) (Q : Option Value → Heap → List Loc → Prop) (k n : Nat) (o : Outcome) (t : State) : Prop := ∃ v L, o = .returned v ∧ Q v t.heap L ∧ FrameEnd s o t L k n
theorem own_start {Fin : Outcome → State → Prop} (h : own_E p e below Fin T g) : ∃ s₂ o, Steps p.tables e below (T.setTop g) s₂ ∧ s₂.status = .running ∧ Ended s₂ below o ∧ Fin o s₂ := h
theorem own_from {Fin : Outcome → State → Prop} (g' : JFrame) (h : ∀ {t}, Steps p.tables e below (T.setTop g') t → Steps p.tables e below (T.setTop g) t) (w : own_E p e below Fin T g') : own_E p e below Fin T g := by
  obtain ⟨s₂, o, h1, r⟩ := w; exact ⟨s₂, o, h h1, r⟩
theorem own_to {Fin : Outcome → State → Prop} (g' : JFrame) (h : ∀ t, Steps p.tables e below (T'.setTop g') t → Steps p.tables e below (T.setTop g) t) (w : own_E p e below Fin T' g') : own_E p e below Fin T g := by
  obtain ⟨s₂, o, h1, r⟩ := w; exact ⟨s₂, o, h _ h1, r⟩
theorem own_via {Fin : Outcome → State → Prop} (g' : JFrame) (h : Steps p.tables e below (T.setTop g) (T'.setTop g')) (w : own_E p e below Fin T' g') : own_E p e below Fin T g := by
  obtain ⟨s₂, o, h1, r⟩ := w; exact ⟨s₂, o, h.trans h1, r⟩
theorem own_end {v : Option Value} {pc : Nat} {Ls : Array Slot} {st : List Value} (X : Stand p l e R s m args below meth c T locs cells slots) (hv : meth.sig.returnType = none → v = none) (hlk : meth.locks = false) (hk : cells ≤ k) (hn : slots ≤ n) (hQ : Q v T.heap locs)
    (hs : ∀ fs, (∀ (f : JFrame) (acts : List Action), f.method = m → f.locked = none → f.entered = [] → (doReturn e (T.setTop f) acts v).1 = T.setFrames fs) → Steps p.tables e below (T.setTop (mkF m pc Ls st)) (T.setFrames fs)) : own_E p e below (own_Fin s Q k n) T (mkF m pc Ls st) := by
  obtain ⟨fs, hr, hrun, hended, hW, hsame⟩ := X.leave (v := v) hv hlk
  exact ⟨_, _, hs fs hr, hrun, hended, _, _, rfl, hQ, ⟨_, rfl⟩, hW, hsame.mono hk hn⟩
theorem own_retN (X : Stand p l e R s m args below meth c T locs cells slots) (hx : p.tables.exec = Jvm.exec) {pc : Nat} {Ls : Array Slot} {z : Int32} {t : FieldType} {rest : List Value} (hret : meth.sig.returnType = some t) (ht : t = .boolean ∨ t = .byte ∨ t = .char ∨ t = .short) (hlk : meth.locks = false)
    (hd : decode c.code pc = .ok (.ireturn, 1)) (hk : cells ≤ k) (hn : slots ≤ n) (hQ : Q (some (.int (nar t z))) T.heap locs) : own_E p e below (own_Fin s Q k n) T (mkF m pc Ls (.int z :: rest)) :=
  own_end X (fun h => by rw [hret] at h; cases h) hlk hk hn hQ fun _ hr => retN X hx hret ht hd hr
theorem own_retI (X : Stand p l e R s m args below meth c T locs cells slots) (hx : p.tables.exec = Jvm.exec) {pc : Nat} {Ls : Array Slot} {z : Int32} {rest : List Value} (hret : meth.sig.returnType = some .int) (hlk : meth.locks = false)
    (hd : decode c.code pc = .ok (.ireturn, 1)) (hk : cells ≤ k) (hn : slots ≤ n) (hQ : Q (some (.int z)) T.heap locs) : own_E p e below (own_Fin s Q k n) T (mkF m pc Ls (.int z :: rest)) :=
  own_end X (fun h => by rw [hret] at h; cases h) hlk hk hn hQ fun _ hr => retOut X hx hret rfl (Or.inl ⟨rfl, Or.inl rfl, _, rfl⟩) hd hr
theorem own_retJ (X : Stand p l e R s m args below meth c T locs cells slots) (hx : p.tables.exec = Jvm.exec) {pc : Nat} {Ls : Array Slot} {z : Int64} {rest : List Value} (hret : meth.sig.returnType = some .long) (hlk : meth.locks = false)
    (hd : decode c.code pc = .ok (.lreturn, 1)) (hk : cells ≤ k) (hn : slots ≤ n) (hQ : Q (some (.long z)) T.heap locs) : own_E p e below (own_Fin s Q k n) T (mkF m pc Ls (.long z :: rest)) :=
  own_end X (fun h => by rw [hret] at h; cases h) hlk hk hn hQ fun _ hr => retOut X hx hret rfl (Or.inr (Or.inl ⟨rfl, rfl, _, rfl⟩)) hd hr
theorem own_retA (X : Stand p l e R s m args below meth c T locs cells slots) (hx : p.tables.exec = Jvm.exec) {pc : Nat} {Ls : Array Slot} {w : Value} {t : FieldType} {rest : List Value} (hret : meth.sig.returnType = some t) (ht : t.isReference = true) (hlk : meth.locks = false)
    (hd : decode c.code pc = .ok (.areturn, 1)) (hw : w.isRef = true) (hk : cells ≤ k) (hn : slots ≤ n) (hQ : Q (some w) T.heap locs) : own_E p e below (own_Fin s Q k n) T (mkF m pc Ls (w :: rest)) :=
  own_end X (fun h => by rw [hret] at h; cases h) hlk hk hn hQ fun _ hr => retOut X hx hret (by cases t <;> first | rfl | cases ht) (Or.inr (Or.inr (Or.inr (Or.inr ⟨rfl, ht, hw⟩)))) hd hr
theorem own_ret0 (X : Stand p l e R s m args below meth c T locs cells slots) (hx : p.tables.exec = Jvm.exec) {pc : Nat} {Ls : Array Slot} (hret : meth.sig.returnType = none) (hlk : meth.locks = false)
    (hd : decode c.code pc = .ok (.return_, 1)) (hk : cells ≤ k) (hn : slots ≤ n) (hQ : Q none T.heap locs) : own_E p e below (own_Fin s Q k n) T (mkF m pc Ls []) :=
  own_end X (fun _ => rfl) hlk hk hn hQ fun _ hr => X.returnOut hx hret hd hr
theorem own_b8 (y : Int32) : y.toInt8.toInt32.toInt8.toInt32 = y.toInt8.toInt32 := by
  have a := c_i2b y
  have b := c_i2b y.toInt8.toInt32
  rw [← Int32.toInt_inj]; omega
theorem own_01 {C : Prop} {d : Int32} (h1 : C → d = (0 : Int32)) (h2 : ¬ C → d = (1 : Int32)) : d = 0 ∨ d = 1 := (Classical.em C).elim (fun q => Or.inl (h1 q)) (fun q => Or.inr (h2 q))
theorem own_irr (x : Int32) : ¬ x < x := Int32.lt_irrefl
end OwnHead
section OwnWords
variable {args : Array Value} {s : State} {t : Term} {C n d : String} {a : Addr}
theorem own_fldI {k : Int32} (ht : t.eval args s none [] s = some (.ref a)) (h : (Jvm.Cond.eq (Term.field t C n d) (Term.int k)).value args s none s [] = some true) : Fld s s.heap a C n d (.int k) := by
  obtain ⟨x, y, e1, e2, -, k2⟩ := cmp_v (Or.inl h)
  have q : y = .int k := Option.some.inj (e2.symm.trans (Term.int_eval k))
  subst q
  obtain ⟨z, rfl⟩ := k2
  have q := gotT (Cond.eq_ints e1 (Term.int_eval k)) h
  subst q
  exact Fld.start ((fld_at ht).symm.trans e1)
theorem own_fldJ {k : Int64} (ht : t.eval args s none [] s = some (.ref a)) (h : (Jvm.Cond.eq (Term.field t C n d) (Term.long k)).value args s none s [] = some true) : Fld s s.heap a C n d (.long k) := by
  obtain ⟨x, y, e1, e2, -, k2⟩ := cmp_v (Or.inl h)
  have q : y = .long k := Option.some.inj (e2.symm.trans (long_at k))
  subst q
  obtain ⟨z, rfl⟩ := k2
  have q := gotT (eq_L e1 (long_at k)) h
  subst q
  exact Fld.start ((fld_at ht).symm.trans e1)
end OwnWords
section OwnWide
variable {p : Program} {l : Launch} {e : Env} {R : Room} {s : State} {m : MethodId} {args : Array Value} {below : List Frame} {meth : Method} {c : Code} {T T' : State} {locs : List Loc} {cells slots : Nat} {Q : Option Value → Heap → List Loc → Prop} {k n : Nat} {g : JFrame} {vm₁ : Vm} {k1 : Nat}
/-- the end of a law that may have interned a String constant -/
def own_FinW (s : State) (Q : Option Value → Heap → List Loc → Prop) (k n : Nat) (o : Outcome) (t : State) : Prop := ∃ v L, o = .returned v ∧ Q v t.heap L ∧ ReturnedEndW s o t L k n
theorem own_endW {v : Option Value} {pc : Nat} {Ls : Array Slot} {st : List Value} (X : Stand p l e R (s.setVm vm₁) m args below meth c T locs cells slots) (hS : s.Since vm₁ k1) (hk1 : k1 ≤ T.heap.size) (hv : meth.sig.returnType = none → v = none) (hlk : meth.locks = false) (hk : cells ≤ k) (hn : slots ≤ n) (hQ : Q v T.heap locs)
    (hs : ∀ fs, (∀ (f : JFrame) (acts : List Action), f.method = m → f.locked = none → f.entered = [] → (doReturn e (T.setTop f) acts v).1 = T.setFrames fs) → Steps p.tables e below (T.setTop (mkF m pc Ls st)) (T.setFrames fs)) : own_E p e below (own_FinW s Q k n) T (mkF m pc Ls st) := by
  obtain ⟨fs, hr, hrun, hended, h1, h2, h3, h4⟩ := X.leaveW hS hk1 (v := v) hv hlk
  exact ⟨_, _, hs fs hr, hrun, hended, _, _, rfl, hQ, h1, h2, h3, h4.mono hk hn⟩
theorem own_retNW (X : Stand p l e R (s.setVm vm₁) m args below meth c T locs cells slots) (hS : s.Since vm₁ k1) (hk1 : k1 ≤ T.heap.size) (hx : p.tables.exec = Jvm.exec) {pc : Nat} {Ls : Array Slot} {z : Int32} {t : FieldType} {rest : List Value} (hret : meth.sig.returnType = some t) (ht : t = .boolean ∨ t = .byte ∨ t = .char ∨ t = .short) (hlk : meth.locks = false)
    (hd : decode c.code pc = .ok (.ireturn, 1)) (hk : cells ≤ k) (hn : slots ≤ n) (hQ : Q (some (.int (nar t z))) T.heap locs) : own_E p e below (own_FinW s Q k n) T (mkF m pc Ls (.int z :: rest)) :=
  own_endW X hS hk1 (fun h => by rw [hret] at h; cases h) hlk hk hn hQ fun _ hr => retN X hx hret ht hd hr
end OwnWide
section OwnUtf
variable {Z : State} {h h' : Heap} {x t a : Addr} {kb : ClassId} {sl : Nat} {v : Value} {ws : List Addr} {cd N : Int32} {vs : List Value}
/-- a char: 0 to 65535 -/
def own_C16 (c : Int32) : Prop := 0 ≤ c.toInt ∧ c.toInt ≤ 65535
theorem own_i2c16 (y : Int32) : own_C16 y.toUInt32.toUInt16.toUInt32.toInt32 := by
  have q := c_i2c y
  unfold own_C16; omega
theorem own_id16 {c : Int32} (h : own_C16 c) : c.toUInt32.toUInt16.toUInt32.toInt32 = c := by
  have r := c_i2c c
  have q := h.1; have q' := h.2
  rw [← Int32.toInt_inj]; omega
theorem own_nar16 {c : Int32} (h : own_C16 c) : nar .char c = c := own_id16 h
theorem own_C16.nn {c : Int32} (h : own_C16 c) : ¬ c < 0 := fun q => by
  rw [Int32.lt_iff_toInt_lt] at q
  have e : (0 : Int32).toInt = 0 := rfl
  have := h.1; omega
theorem own_hi {c : Int32} (h : own_C16 c) : ((((((c >>> ((0 : Int32) &&& 31)).toInt8.toInt32) &&& (255 : Int32)) <<< ((0 : Int32) &&& 31)) ||| ((((c >>> ((8 : Int32) &&& 31)).toInt8.toInt32) &&& (255 : Int32)) <<< ((8 : Int32) &&& 31))).toUInt32.toUInt16.toUInt32.toInt32) = c := by
  have q1 := h.1; have q2 := h.2
  have a0 := c_ishr c (0 : Int32) 0 (by decide)
  have a8 := c_ishr c (8 : Int32) 8 (by decide)
  have b0 := c_i2b (c >>> ((0 : Int32) &&& 31))
  have b8 := c_i2b (c >>> ((8 : Int32) &&& 31))
  have m0 := c_mask ((c >>> ((0 : Int32) &&& 31)).toInt8.toInt32) 255 8 (by decide) (by decide)
  have m8 := c_mask ((c >>> ((8 : Int32) &&& 31)).toInt8.toInt32) 255 8 (by decide) (by decide)
  have s0 := c_ishl (((c >>> ((0 : Int32) &&& 31)).toInt8.toInt32) &&& (255 : Int32)) (0 : Int32) 0 (by decide)
  have s8 := c_ishl (((c >>> ((8 : Int32) &&& 31)).toInt8.toInt32) &&& (255 : Int32)) (8 : Int32) 8 (by decide)
  generalize ((c >>> ((0 : Int32) &&& 31)).toInt8.toInt32) = u0 at *
  generalize ((c >>> ((8 : Int32) &&& 31)).toInt8.toInt32) = u8 at *
  generalize (u0 &&& (255 : Int32)) = w0 at *
  generalize (u8 &&& (255 : Int32)) = w8 at *
  generalize hx0 : (w0 <<< ((0 : Int32) &&& 31)) = x0 at *
  generalize hx8 : (w8 <<< ((8 : Int32) &&& 31)) = x8 at *
  have r0 := rng32 x0
  have r8 := rng32 x8
  have e0 : x0.toInt = c.toInt % 256 := by omega
  have e8 : x8.toInt = (c.toInt / 256) * 256 := by omega
  have o := c_or' x0 x8 8 (by decide) 256 (by decide) (by omega) (by omega) (by omega)
  have ro := rng32 (x0 ||| x8)
  have i := c_i2c (x0 ||| x8)
  rw [← Int32.toInt_inj]; omega
/-- a String whose bytes lie at t: its coder and its bytes -/
def own_StrG (Z : State) (h : Heap) (x t : Addr) (kb : ClassId) (cd N : Int32) (vs : List Value) : Prop :=
  Exa Z h x "java/lang/String" ∧ Fld Z h x "java/lang/String" "value" "[B" (.ref t) ∧ Fld Z h x "java/lang/String" "coder" "B" (.int cd) ∧ Arv Z h t kb .byte N vs (.int 0)
theorem own_StrG.lt (S : own_StrG Z h x t kb cd N vs) : x < h.size := S.1.lt
theorem own_StrG.ltT (S : own_StrG Z h x t kb cd N vs) : t < h.size := S.2.2.2.lt
theorem own_StrG.ext (S : own_StrG Z h x t kb cd N vs) (E : Ext h h') : own_StrG Z h' x t kb cd N vs := ⟨S.1.ext E, S.2.1.ext E, S.2.2.1.ext E, S.2.2.2.ext E⟩
theorem own_StrG.wr (S : own_StrG Z h x t kb cd N vs) (W : Wr h h' a sl v) (n1 : x ≠ a) (n2 : t ≠ a) : own_StrG Z h' x t kb cd N vs := ⟨S.1.wr W, S.2.1.other W (Or.inl n1), S.2.2.1.other W (Or.inl n1), S.2.2.2.other W n2⟩
theorem own_StrG.keep (S : own_StrG Z h x t kb cd N vs) (K : Keep h h' ws) (n1 : x ∉ ws) (n2 : t ∉ ws) : own_StrG Z h' x t kb cd N vs := ⟨S.1.keep K, S.2.1.keep K n1, S.2.2.1.keep K n1, S.2.2.2.keep K n2⟩
/-- a String of n chars: its bytes are n (coder 0) or twice as many (coder 1) -/
def own_StrL (Z : State) (h : Heap) (x t : Addr) (n n2 : Int32) : Prop := ∃ (kb : ClassId) (cd N : Int32) (vs : List Value), own_StrG Z h x t kb cd N vs ∧ ((cd = 0 ∧ N = n) ∨ (cd = 1 ∧ N = n2))
variable {n n2 : Int32}
theorem own_StrL.lt (S : own_StrL Z h x t n n2) : x < h.size := by obtain ⟨_, _, _, _, g, -⟩ := S; exact g.lt
theorem own_StrL.ltT (S : own_StrL Z h x t n n2) : t < h.size := by obtain ⟨_, _, _, _, g, -⟩ := S; exact g.ltT
theorem own_StrL.exa (S : own_StrL Z h x t n n2) : Exa Z h x "java/lang/String" := by obtain ⟨_, _, _, _, g, -⟩ := S; exact g.1
theorem own_StrL.ext (S : own_StrL Z h x t n n2) (E : Ext h h') : own_StrL Z h' x t n n2 := by obtain ⟨a, b, c, d, g, r⟩ := S; exact ⟨a, b, c, d, g.ext E, r⟩
theorem own_StrL.wr (S : own_StrL Z h x t n n2) (W : Wr h h' a sl v) (n1 : x ≠ a) (m2 : t ≠ a) : own_StrL Z h' x t n n2 := by obtain ⟨a, b, c, d, g, r⟩ := S; exact ⟨a, b, c, d, g.wr W n1 m2, r⟩
theorem own_StrL.keep (S : own_StrL Z h x t n n2) (K : Keep h h' ws) (n1 : x ∉ ws) (m2 : t ∉ ws) : own_StrL Z h' x t n n2 := by obtain ⟨a, b, c, d, g, r⟩ := S; exact ⟨a, b, c, d, g.keep K n1 m2, r⟩
end OwnUtf
theorem own_eqI {args : Array Value} {s : State} {t : Term} {k : Int32} (h : (Jvm.Cond.eq t (Term.int k)).value args s none s [] = some true) : t.eval args s none [] s = some (.int k) := by
  obtain ⟨x, y, e1, e2, -, k2⟩ := cmp_v (Or.inl h)
  have q : y = .int k := Option.some.inj (e2.symm.trans (Term.int_eval k))
  subst q
  obtain ⟨z, rfl⟩ := k2
  have q := gotT (Cond.eq_ints e1 (Term.int_eval k)) h
  subst q
  exact e1
theorem own_wS : ∀ d ∈ Bundle.stringAtoms, d ∈ tables_1 := by decide +kernel
theorem own_n4 (x : Int32) {n : Int32} (h : ((x &&& (3 : Int32)) + (1 : Int32)) = n) : n = 1 ∨ n = 2 ∨ n = 3 ∨ n = 4 := by
  subst h
  have e1 : (x &&& 3).toInt = x.toInt % (2 ^ 2 : Nat) := c_mask x 3 2 (by decide) (by decide)
  have e3 := c_iadd (x &&& 3) 1
  have e4 : (1 : Int32).toInt = 1 := rfl
  have e5 := rng32 ((x &&& 3) + 1)
  rw [← Int32.toInt_inj, ← Int32.toInt_inj, ← Int32.toInt_inj, ← Int32.toInt_inj]
  show _ = 1 ∨ _ = 2 ∨ _ = 3 ∨ _ = 4
  omega
theorem own_d_jdk_52_method_21_0 : decode jdk_52_method_21_code 0 = .ok (.iconst 0, 1) := by decide +kernel
theorem own_d_jdk_52_method_21_1 : decode jdk_52_method_21_code 1 = .ok (.istore 5, 2) := by decide +kernel
theorem own_d_jdk_52_method_21_3 : decode jdk_52_method_21_code 3 = .ok (.iload 5, 2) := by decide +kernel
theorem own_d_jdk_52_method_21_5 : decode jdk_52_method_21_code 5 = .ok (.iload 4, 2) := by decide +kernel
theorem own_d_jdk_52_method_21_7 : decode jdk_52_method_21_code 7 = .ok (.if_icmp .ge 37, 3) := by decide +kernel
theorem own_d_jdk_52_method_21_10 : decode jdk_52_method_21_code 10 = .ok (.aload_n 0, 1) := by decide +kernel
theorem own_d_jdk_52_method_21_11 : decode jdk_52_method_21_code 11 = .ok (.iload_n 1, 1) := by decide +kernel
theorem own_d_jdk_52_method_21_12 : decode jdk_52_method_21_code 12 = .ok (.caload, 1) := by decide +kernel
theorem own_d_jdk_52_method_21_13 : decode jdk_52_method_21_code 13 = .ok (.istore 6, 2) := by decide +kernel
theorem own_d_jdk_52_method_21_15 : decode jdk_52_method_21_code 15 = .ok (.iload 6, 2) := by decide +kernel
theorem own_d_jdk_52_method_21_17 : decode jdk_52_method_21_code 17 = .ok (.sipush 255, 3) := by decide +kernel
theorem own_d_jdk_52_method_21_20 : decode jdk_52_method_21_code 20 = .ok (.if_icmp .le 6, 3) := by decide +kernel
theorem own_d_jdk_52_method_21_23 : decode jdk_52_method_21_code 23 = .ok (.iload 5, 2) := by decide +kernel
theorem own_d_jdk_52_method_21_25 : decode jdk_52_method_21_code 25 = .ok (.ireturn, 1) := by decide +kernel
theorem own_d_jdk_52_method_21_26 : decode jdk_52_method_21_code 26 = .ok (.aload_n 2, 1) := by decide +kernel
theorem own_d_jdk_52_method_21_27 : decode jdk_52_method_21_code 27 = .ok (.iload_n 3, 1) := by decide +kernel
theorem own_d_jdk_52_method_21_28 : decode jdk_52_method_21_code 28 = .ok (.iload 6, 2) := by decide +kernel
theorem own_d_jdk_52_method_21_30 : decode jdk_52_method_21_code 30 = .ok (.i2b, 1) := by decide +kernel
theorem own_d_jdk_52_method_21_31 : decode jdk_52_method_21_code 31 = .ok (.bastore, 1) := by decide +kernel
theorem own_d_jdk_52_method_21_32 : decode jdk_52_method_21_code 32 = .ok (.iinc 1 1, 3) := by decide +kernel
theorem own_d_jdk_52_method_21_35 : decode jdk_52_method_21_code 35 = .ok (.iinc 3 1, 3) := by decide +kernel
theorem own_d_jdk_52_method_21_38 : decode jdk_52_method_21_code 38 = .ok (.iinc 5 1, 3) := by decide +kernel
theorem own_d_jdk_52_method_21_41 : decode jdk_52_method_21_code 41 = .ok (.goto (-38), 3) := by decide +kernel
theorem own_d_jdk_52_method_21_44 : decode jdk_52_method_21_code 44 = .ok (.iload 4, 2) := by decide +kernel
theorem own_d_jdk_52_method_21_46 : decode jdk_52_method_21_code 46 = .ok (.ireturn, 1) := by decide +kernel
theorem own_d_jdk_52_method_3_0 : decode jdk_52_method_3_code 0 = .ok (.iload_n 0, 1) := by decide +kernel
theorem own_d_jdk_52_method_3_1 : decode jdk_52_method_3_code 1 = .ok (.ifCond .ge 11, 3) := by decide +kernel
theorem own_d_jdk_52_method_3_12 : decode jdk_52_method_3_code 12 = .ok (.iload_n 0, 1) := by decide +kernel
theorem own_d_jdk_52_method_3_13 : decode jdk_52_method_3_code 13 = .ok (.ldc 20, 2) := by decide +kernel
theorem own_d_jdk_52_method_3_15 : decode jdk_52_method_3_code 15 = .ok (.if_icmp .lt 40, 3) := by decide +kernel
theorem own_d_jdk_52_method_3_55 : decode jdk_52_method_3_code 55 = .ok (.iload_n 0, 1) := by decide +kernel
theorem own_d_jdk_52_method_3_56 : decode jdk_52_method_3_code 56 = .ok (.iconst 1, 1) := by decide +kernel
theorem own_d_jdk_52_method_3_57 : decode jdk_52_method_3_code 57 = .ok (.ishl, 1) := by decide +kernel
theorem own_d_jdk_52_method_3_58 : decode jdk_52_method_3_code 58 = .ok (.ireturn, 1) := by decide +kernel
theorem own_d_jdk_52_method_2_0 : decode jdk_52_method_2_code 0 = .ok (.iload_n 0, 1) := by decide +kernel
theorem own_d_jdk_52_method_2_1 : decode jdk_52_method_2_code 1 = .ok (.invokestatic 11, 3) := by decide +kernel
theorem own_d_jdk_52_method_2_4 : decode jdk_52_method_2_code 4 = .ok (.newarray .byte, 2) := by decide +kernel
theorem own_d_jdk_52_method_2_6 : decode jdk_52_method_2_code 6 = .ok (.areturn, 1) := by decide +kernel
theorem own_d_jdk_52_method_4_0 : decode jdk_52_method_4_code 0 = .ok (.getstatic 44, 3) := by decide +kernel
theorem own_d_jdk_52_method_4_3 : decode jdk_52_method_4_code 3 = .ok (.ifCond .ne 25, 3) := by decide +kernel
theorem own_d_jdk_52_method_4_28 : decode jdk_52_method_4_code 28 = .ok (.iload_n 1, 1) := by decide +kernel
theorem own_d_jdk_52_method_4_29 : decode jdk_52_method_4_code 29 = .ok (.iconst 1, 1) := by decide +kernel
theorem own_d_jdk_52_method_4_30 : decode jdk_52_method_4_code 30 = .ok (.ishl, 1) := by decide +kernel
theorem own_d_jdk_52_method_4_31 : decode jdk_52_method_4_code 31 = .ok (.istore_n 1, 1) := by decide +kernel
theorem own_d_jdk_52_method_4_32 : decode jdk_52_method_4_code 32 = .ok (.aload_n 0, 1) := by decide +kernel
theorem own_d_jdk_52_method_4_33 : decode jdk_52_method_4_code 33 = .ok (.iload_n 1, 1) := by decide +kernel
theorem own_d_jdk_52_method_4_34 : decode jdk_52_method_4_code 34 = .ok (.iinc 1 1, 3) := by decide +kernel
theorem own_d_jdk_52_method_4_37 : decode jdk_52_method_4_code 37 = .ok (.iload_n 2, 1) := by decide +kernel
theorem own_d_jdk_52_method_4_38 : decode jdk_52_method_4_code 38 = .ok (.getstatic 59, 3) := by decide +kernel
theorem own_d_jdk_52_method_4_41 : decode jdk_52_method_4_code 41 = .ok (.ishr, 1) := by decide +kernel
theorem own_d_jdk_52_method_4_42 : decode jdk_52_method_4_code 42 = .ok (.i2b, 1) := by decide +kernel
theorem own_d_jdk_52_method_4_43 : decode jdk_52_method_4_code 43 = .ok (.bastore, 1) := by decide +kernel
theorem own_d_jdk_52_method_4_44 : decode jdk_52_method_4_code 44 = .ok (.aload_n 0, 1) := by decide +kernel
theorem own_d_jdk_52_method_4_45 : decode jdk_52_method_4_code 45 = .ok (.iload_n 1, 1) := by decide +kernel
theorem own_d_jdk_52_method_4_46 : decode jdk_52_method_4_code 46 = .ok (.iload_n 2, 1) := by decide +kernel
theorem own_d_jdk_52_method_4_47 : decode jdk_52_method_4_code 47 = .ok (.getstatic 63, 3) := by decide +kernel
theorem own_d_jdk_52_method_4_50 : decode jdk_52_method_4_code 50 = .ok (.ishr, 1) := by decide +kernel
theorem own_d_jdk_52_method_4_51 : decode jdk_52_method_4_code 51 = .ok (.i2b, 1) := by decide +kernel
theorem own_d_jdk_52_method_4_52 : decode jdk_52_method_4_code 52 = .ok (.bastore, 1) := by decide +kernel
theorem own_d_jdk_52_method_4_53 : decode jdk_52_method_4_code 53 = .ok (.return_, 1) := by decide +kernel
theorem own_d_jdk_52_method_14_0 : decode jdk_52_method_14_code 0 = .ok (.iload_n 2, 1) := by decide +kernel
theorem own_d_jdk_52_method_14_1 : decode jdk_52_method_14_code 1 = .ok (.invokestatic 107, 3) := by decide +kernel
theorem own_d_jdk_52_method_14_4 : decode jdk_52_method_14_code 4 = .ok (.astore_n 3, 1) := by decide +kernel
theorem own_d_jdk_52_method_14_5 : decode jdk_52_method_14_code 5 = .ok (.iconst 0, 1) := by decide +kernel
theorem own_d_jdk_52_method_14_6 : decode jdk_52_method_14_code 6 = .ok (.istore 4, 2) := by decide +kernel
theorem own_d_jdk_52_method_14_8 : decode jdk_52_method_14_code 8 = .ok (.iload 4, 2) := by decide +kernel
theorem own_d_jdk_52_method_14_10 : decode jdk_52_method_14_code 10 = .ok (.iload_n 2, 1) := by decide +kernel
theorem own_d_jdk_52_method_14_11 : decode jdk_52_method_14_code 11 = .ok (.if_icmp .ge 21, 3) := by decide +kernel
theorem own_d_jdk_52_method_14_14 : decode jdk_52_method_14_code 14 = .ok (.aload_n 3, 1) := by decide +kernel
theorem own_d_jdk_52_method_14_15 : decode jdk_52_method_14_code 15 = .ok (.iload 4, 2) := by decide +kernel
theorem own_d_jdk_52_method_14_17 : decode jdk_52_method_14_code 17 = .ok (.aload_n 0, 1) := by decide +kernel
theorem own_d_jdk_52_method_14_18 : decode jdk_52_method_14_code 18 = .ok (.iload_n 1, 1) := by decide +kernel
theorem own_d_jdk_52_method_14_19 : decode jdk_52_method_14_code 19 = .ok (.caload, 1) := by decide +kernel
theorem own_d_jdk_52_method_14_20 : decode jdk_52_method_14_code 20 = .ok (.invokestatic 111, 3) := by decide +kernel
theorem own_d_jdk_52_method_14_23 : decode jdk_52_method_14_code 23 = .ok (.iinc 1 1, 3) := by decide +kernel
theorem own_d_jdk_52_method_14_26 : decode jdk_52_method_14_code 26 = .ok (.iinc 4 1, 3) := by decide +kernel
theorem own_d_jdk_52_method_14_29 : decode jdk_52_method_14_code 29 = .ok (.goto (-21), 3) := by decide +kernel
theorem own_d_jdk_52_method_14_32 : decode jdk_52_method_14_code 32 = .ok (.aload_n 3, 1) := by decide +kernel
theorem own_d_jdk_52_method_14_33 : decode jdk_52_method_14_code 33 = .ok (.areturn, 1) := by decide +kernel
theorem own_d_jdk_52_method_5_0 : decode jdk_52_method_5_code 0 = .ok (.getstatic 44, 3) := by decide +kernel
theorem own_d_jdk_52_method_5_3 : decode jdk_52_method_5_code 3 = .ok (.ifCond .ne 25, 3) := by decide +kernel
theorem own_d_jdk_52_method_5_28 : decode jdk_52_method_5_code 28 = .ok (.iload_n 1, 1) := by decide +kernel
theorem own_d_jdk_52_method_5_29 : decode jdk_52_method_5_code 29 = .ok (.iconst 1, 1) := by decide +kernel
theorem own_d_jdk_52_method_5_30 : decode jdk_52_method_5_code 30 = .ok (.ishl, 1) := by decide +kernel
theorem own_d_jdk_52_method_5_31 : decode jdk_52_method_5_code 31 = .ok (.istore_n 1, 1) := by decide +kernel
theorem own_d_jdk_52_method_5_32 : decode jdk_52_method_5_code 32 = .ok (.aload_n 0, 1) := by decide +kernel
theorem own_d_jdk_52_method_5_33 : decode jdk_52_method_5_code 33 = .ok (.iload_n 1, 1) := by decide +kernel
theorem own_d_jdk_52_method_5_34 : decode jdk_52_method_5_code 34 = .ok (.iinc 1 1, 3) := by decide +kernel
theorem own_d_jdk_52_method_5_37 : decode jdk_52_method_5_code 37 = .ok (.baload, 1) := by decide +kernel
theorem own_d_jdk_52_method_5_38 : decode jdk_52_method_5_code 38 = .ok (.sipush 255, 3) := by decide +kernel
theorem own_d_jdk_52_method_5_41 : decode jdk_52_method_5_code 41 = .ok (.iand, 1) := by decide +kernel
theorem own_d_jdk_52_method_5_42 : decode jdk_52_method_5_code 42 = .ok (.getstatic 59, 3) := by decide +kernel
theorem own_d_jdk_52_method_5_45 : decode jdk_52_method_5_code 45 = .ok (.ishl, 1) := by decide +kernel
theorem own_d_jdk_52_method_5_46 : decode jdk_52_method_5_code 46 = .ok (.aload_n 0, 1) := by decide +kernel
theorem own_d_jdk_52_method_5_47 : decode jdk_52_method_5_code 47 = .ok (.iload_n 1, 1) := by decide +kernel
theorem own_d_jdk_52_method_5_48 : decode jdk_52_method_5_code 48 = .ok (.baload, 1) := by decide +kernel
theorem own_d_jdk_52_method_5_49 : decode jdk_52_method_5_code 49 = .ok (.sipush 255, 3) := by decide +kernel
theorem own_d_jdk_52_method_5_52 : decode jdk_52_method_5_code 52 = .ok (.iand, 1) := by decide +kernel
theorem own_d_jdk_52_method_5_53 : decode jdk_52_method_5_code 53 = .ok (.getstatic 63, 3) := by decide +kernel
theorem own_d_jdk_52_method_5_56 : decode jdk_52_method_5_code 56 = .ok (.ishl, 1) := by decide +kernel
theorem own_d_jdk_52_method_5_57 : decode jdk_52_method_5_code 57 = .ok (.ior, 1) := by decide +kernel
theorem own_d_jdk_52_method_5_58 : decode jdk_52_method_5_code 58 = .ok (.i2c, 1) := by decide +kernel
theorem own_d_jdk_52_method_5_59 : decode jdk_52_method_5_code 59 = .ok (.ireturn, 1) := by decide +kernel
theorem own_d_jdk_52_method_16_0 : decode jdk_52_method_16_code 0 = .ok (.iload_n 2, 1) := by decide +kernel
theorem own_d_jdk_52_method_16_1 : decode jdk_52_method_16_code 1 = .ok (.newarray .byte, 2) := by decide +kernel
theorem own_d_jdk_52_method_16_3 : decode jdk_52_method_16_code 3 = .ok (.astore_n 3, 1) := by decide +kernel
theorem own_d_jdk_52_method_16_4 : decode jdk_52_method_16_code 4 = .ok (.aload_n 0, 1) := by decide +kernel
theorem own_d_jdk_52_method_16_5 : decode jdk_52_method_16_code 5 = .ok (.iload_n 1, 1) := by decide +kernel
theorem own_d_jdk_52_method_16_6 : decode jdk_52_method_16_code 6 = .ok (.aload_n 3, 1) := by decide +kernel
theorem own_d_jdk_52_method_16_7 : decode jdk_52_method_16_code 7 = .ok (.iconst 0, 1) := by decide +kernel
theorem own_d_jdk_52_method_16_8 : decode jdk_52_method_16_code 8 = .ok (.iload_n 2, 1) := by decide +kernel
theorem own_d_jdk_52_method_16_9 : decode jdk_52_method_16_code 9 = .ok (.invokestatic 115, 3) := by decide +kernel
theorem own_d_jdk_52_method_16_12 : decode jdk_52_method_16_code 12 = .ok (.istore 4, 2) := by decide +kernel
theorem own_d_jdk_52_method_16_14 : decode jdk_52_method_16_code 14 = .ok (.iload 4, 2) := by decide +kernel
theorem own_d_jdk_52_method_16_16 : decode jdk_52_method_16_code 16 = .ok (.iload_n 2, 1) := by decide +kernel
theorem own_d_jdk_52_method_16_17 : decode jdk_52_method_16_code 17 = .ok (.if_icmp .eq 40, 3) := by decide +kernel
theorem own_d_jdk_52_method_16_57 : decode jdk_52_method_16_code 57 = .ok (.aload_n 3, 1) := by decide +kernel
theorem own_d_jdk_52_method_16_58 : decode jdk_52_method_16_code 58 = .ok (.areturn, 1) := by decide +kernel
theorem own_d_jdk_52_method_16_20 : decode jdk_52_method_16_code 20 = .ok (.aload_n 0, 1) := by decide +kernel
theorem own_d_jdk_52_method_16_21 : decode jdk_52_method_16_code 21 = .ok (.iload_n 1, 1) := by decide +kernel
theorem own_d_jdk_52_method_16_22 : decode jdk_52_method_16_code 22 = .ok (.iload_n 2, 1) := by decide +kernel
theorem own_d_jdk_52_method_16_23 : decode jdk_52_method_16_code 23 = .ok (.invokestatic 119, 3) := by decide +kernel
theorem own_d_jdk_52_method_16_26 : decode jdk_52_method_16_code 26 = .ok (.astore 5, 2) := by decide +kernel
theorem own_d_jdk_52_method_16_28 : decode jdk_52_method_16_code 28 = .ok (.aload 5, 2) := by decide +kernel
theorem own_d_jdk_52_method_16_30 : decode jdk_52_method_16_code 30 = .ok (.iload 4, 2) := by decide +kernel
theorem own_d_jdk_52_method_16_32 : decode jdk_52_method_16_code 32 = .ok (.invokestatic 71, 3) := by decide +kernel
theorem own_d_jdk_52_method_16_35 : decode jdk_52_method_16_code 35 = .ok (.sipush 255, 3) := by decide +kernel
theorem own_d_jdk_52_method_16_38 : decode jdk_52_method_16_code 38 = .ok (.if_icmp .gt 16, 3) := by decide +kernel
theorem own_d_jdk_52_method_16_54 : decode jdk_52_method_16_code 54 = .ok (.aload 5, 2) := by decide +kernel
theorem own_d_jdk_52_method_16_56 : decode jdk_52_method_16_code 56 = .ok (.areturn, 1) := by decide +kernel
theorem own_d_jdk_52_method_15_0 : decode jdk_52_method_15_code 0 = .ok (.iload_n 1, 1) := by decide +kernel
theorem own_d_jdk_52_method_15_1 : decode jdk_52_method_15_code 1 = .ok (.aload_n 0, 1) := by decide +kernel
theorem own_d_jdk_52_method_15_2 : decode jdk_52_method_15_code 2 = .ok (.arraylength, 1) := by decide +kernel
theorem own_d_jdk_52_method_15_3 : decode jdk_52_method_15_code 3 = .ok (.isub, 1) := by decide +kernel
theorem own_d_jdk_52_method_15_4 : decode jdk_52_method_15_code 4 = .ok (.bipush 31, 2) := by decide +kernel
theorem own_d_jdk_52_method_15_6 : decode jdk_52_method_15_code 6 = .ok (.iushr, 1) := by decide +kernel
theorem own_d_jdk_52_method_15_7 : decode jdk_52_method_15_code 7 = .ok (.i2b, 1) := by decide +kernel
theorem own_d_jdk_52_method_15_8 : decode jdk_52_method_15_code 8 = .ok (.ireturn, 1) := by decide +kernel
theorem own_d_jdk_42_method_149_0 : decode jdk_42_method_149_code 0 = .ok (.aload_n 0, 1) := by decide +kernel
theorem own_d_jdk_42_method_149_1 : decode jdk_42_method_149_code 1 = .ok (.invokespecial 1, 3) := by decide +kernel
theorem own_d_jdk_42_method_149_4 : decode jdk_42_method_149_code 4 = .ok (.iload_n 3, 1) := by decide +kernel
theorem own_d_jdk_42_method_149_5 : decode jdk_42_method_149_code 5 = .ok (.ifCond .ne 22, 3) := by decide +kernel
theorem own_d_jdk_42_method_149_27 : decode jdk_42_method_149_code 27 = .ok (.getstatic 38, 3) := by decide +kernel
theorem own_d_jdk_42_method_149_30 : decode jdk_42_method_149_code 30 = .ok (.ifCond .eq 28, 3) := by decide +kernel
theorem own_d_jdk_42_method_149_33 : decode jdk_42_method_149_code 33 = .ok (.aload_n 1, 1) := by decide +kernel
theorem own_d_jdk_42_method_149_34 : decode jdk_42_method_149_code 34 = .ok (.iload_n 2, 1) := by decide +kernel
theorem own_d_jdk_42_method_149_35 : decode jdk_42_method_149_code 35 = .ok (.iload_n 3, 1) := by decide +kernel
theorem own_d_jdk_42_method_149_36 : decode jdk_42_method_149_code 36 = .ok (.invokestatic 177, 3) := by decide +kernel
theorem own_d_jdk_42_method_149_39 : decode jdk_42_method_149_code 39 = .ok (.astore 5, 2) := by decide +kernel
theorem own_d_jdk_42_method_149_41 : decode jdk_42_method_149_code 41 = .ok (.aload_n 0, 1) := by decide +kernel
theorem own_d_jdk_42_method_149_42 : decode jdk_42_method_149_code 42 = .ok (.aload 5, 2) := by decide +kernel
theorem own_d_jdk_42_method_149_44 : decode jdk_42_method_149_code 44 = .ok (.iload_n 3, 1) := by decide +kernel
theorem own_d_jdk_42_method_149_45 : decode jdk_42_method_149_code 45 = .ok (.invokestatic 47, 3) := by decide +kernel
theorem own_d_jdk_42_method_149_48 : decode jdk_42_method_149_code 48 = .ok (.putfield 15, 3) := by decide +kernel
theorem own_d_jdk_42_method_149_51 : decode jdk_42_method_149_code 51 = .ok (.aload_n 0, 1) := by decide +kernel
theorem own_d_jdk_42_method_149_52 : decode jdk_42_method_149_code 52 = .ok (.aload 5, 2) := by decide +kernel
theorem own_d_jdk_42_method_149_54 : decode jdk_42_method_149_code 54 = .ok (.putfield 9, 3) := by decide +kernel
theorem own_d_jdk_42_method_149_57 : decode jdk_42_method_149_code 57 = .ok (.return_, 1) := by decide +kernel
theorem own_d_jdk_42_method_3_0 : decode jdk_42_method_3_code 0 = .ok (.aload_n 0, 1) := by decide +kernel
theorem own_d_jdk_42_method_3_1 : decode jdk_42_method_3_code 1 = .ok (.aload_n 1, 1) := by decide +kernel
theorem own_d_jdk_42_method_3_2 : decode jdk_42_method_3_code 2 = .ok (.iconst 0, 1) := by decide +kernel
theorem own_d_jdk_42_method_3_3 : decode jdk_42_method_3_code 3 = .ok (.aload_n 1, 1) := by decide +kernel
theorem own_d_jdk_42_method_3_4 : decode jdk_42_method_3_code 4 = .ok (.arraylength, 1) := by decide +kernel
theorem own_d_jdk_42_method_3_5 : decode jdk_42_method_3_code 5 = .ok (.aconst_null, 1) := by decide +kernel
theorem own_d_jdk_42_method_3_6 : decode jdk_42_method_3_code 6 = .ok (.invokespecial 27, 3) := by decide +kernel
theorem own_d_jdk_42_method_3_9 : decode jdk_42_method_3_code 9 = .ok (.return_, 1) := by decide +kernel
theorem own_d_jdk_42_method_152_0 : decode jdk_42_method_152_code 0 = .ok (.getstatic 38, 3) := by decide +kernel
theorem own_d_jdk_42_method_152_3 : decode jdk_42_method_152_code 3 = .ok (.ifCond .eq 10, 3) := by decide +kernel
theorem own_d_jdk_42_method_152_6 : decode jdk_42_method_152_code 6 = .ok (.aload_n 0, 1) := by decide +kernel
theorem own_d_jdk_42_method_152_7 : decode jdk_42_method_152_code 7 = .ok (.getfield 15, 3) := by decide +kernel
theorem own_d_jdk_42_method_152_10 : decode jdk_42_method_152_code 10 = .ok (.goto 4, 3) := by decide +kernel
theorem own_d_jdk_42_method_152_14 : decode jdk_42_method_152_code 14 = .ok (.ireturn, 1) := by decide +kernel
theorem own_d_jdk_42_method_54_0 : decode jdk_42_method_54_code 0 = .ok (.aload_n 0, 1) := by decide +kernel
theorem own_d_jdk_42_method_54_1 : decode jdk_42_method_54_code 1 = .ok (.getfield 9, 3) := by decide +kernel
theorem own_d_jdk_42_method_54_4 : decode jdk_42_method_54_code 4 = .ok (.arraylength, 1) := by decide +kernel
theorem own_d_jdk_42_method_54_5 : decode jdk_42_method_54_code 5 = .ok (.aload_n 0, 1) := by decide +kernel
theorem own_d_jdk_42_method_54_6 : decode jdk_42_method_54_code 6 = .ok (.invokevirtual 335, 3) := by decide +kernel
theorem own_d_jdk_42_method_54_9 : decode jdk_42_method_54_code 9 = .ok (.ishr, 1) := by decide +kernel
theorem own_d_jdk_42_method_54_10 : decode jdk_42_method_54_code 10 = .ok (.ireturn, 1) := by decide +kernel
theorem own_d_jdk_42_method_55_0 : decode jdk_42_method_55_code 0 = .ok (.aload_n 0, 1) := by decide +kernel
theorem own_d_jdk_42_method_55_1 : decode jdk_42_method_55_code 1 = .ok (.getfield 9, 3) := by decide +kernel
theorem own_d_jdk_42_method_55_4 : decode jdk_42_method_55_code 4 = .ok (.arraylength, 1) := by decide +kernel
theorem own_d_jdk_42_method_55_5 : decode jdk_42_method_55_code 5 = .ok (.ifCond .ne 7, 3) := by decide +kernel
theorem own_d_jdk_42_method_55_12 : decode jdk_42_method_55_code 12 = .ok (.iconst 0, 1) := by decide +kernel
theorem own_d_jdk_42_method_55_13 : decode jdk_42_method_55_code 13 = .ok (.ireturn, 1) := by decide +kernel
theorem own_d_jdk_43_method_3_0 : decode jdk_43_method_3_code 0 = .ok (.iload_n 0, 1) := by decide +kernel
theorem own_d_jdk_43_method_3_1 : decode jdk_43_method_3_code 1 = .ok (.sipush 255, 3) := by decide +kernel
theorem own_d_jdk_43_method_3_4 : decode jdk_43_method_3_code 4 = .ok (.if_icmp .gt 7, 3) := by decide +kernel
theorem own_d_jdk_43_method_3_7 : decode jdk_43_method_3_code 7 = .ok (.iconst 1, 1) := by decide +kernel
theorem own_d_jdk_43_method_3_8 : decode jdk_43_method_3_code 8 = .ok (.goto 4, 3) := by decide +kernel
theorem own_d_jdk_43_method_3_12 : decode jdk_43_method_3_code 12 = .ok (.ireturn, 1) := by decide +kernel
theorem own_d_jdk_43_method_3_11 : decode jdk_43_method_3_code 11 = .ok (.iconst 0, 1) := by decide +kernel
theorem own_d_jdk_43_method_46_0 : decode jdk_43_method_46_code 0 = .ok (.iconst 1, 1) := by decide +kernel
theorem own_d_jdk_43_method_46_1 : decode jdk_43_method_46_code 1 = .ok (.newarray .byte, 2) := by decide +kernel
theorem own_d_jdk_43_method_46_3 : decode jdk_43_method_46_code 3 = .ok (.dup, 1) := by decide +kernel
theorem own_d_jdk_43_method_46_4 : decode jdk_43_method_46_code 4 = .ok (.iconst 0, 1) := by decide +kernel
theorem own_d_jdk_43_method_46_5 : decode jdk_43_method_46_code 5 = .ok (.iload_n 0, 1) := by decide +kernel
theorem own_d_jdk_43_method_46_6 : decode jdk_43_method_46_code 6 = .ok (.i2b, 1) := by decide +kernel
theorem own_d_jdk_43_method_46_7 : decode jdk_43_method_46_code 7 = .ok (.bastore, 1) := by decide +kernel
theorem own_d_jdk_43_method_46_8 : decode jdk_43_method_46_code 8 = .ok (.areturn, 1) := by decide +kernel
theorem own_d_jdk_52_method_24_0 : decode jdk_52_method_24_code 0 = .ok (.iconst 2, 1) := by decide +kernel
theorem own_d_jdk_52_method_24_1 : decode jdk_52_method_24_code 1 = .ok (.newarray .byte, 2) := by decide +kernel
theorem own_d_jdk_52_method_24_3 : decode jdk_52_method_24_code 3 = .ok (.astore_n 1, 1) := by decide +kernel
theorem own_d_jdk_52_method_24_4 : decode jdk_52_method_24_code 4 = .ok (.aload_n 1, 1) := by decide +kernel
theorem own_d_jdk_52_method_24_5 : decode jdk_52_method_24_code 5 = .ok (.iconst 0, 1) := by decide +kernel
theorem own_d_jdk_52_method_24_6 : decode jdk_52_method_24_code 6 = .ok (.iload_n 0, 1) := by decide +kernel
theorem own_d_jdk_52_method_24_7 : decode jdk_52_method_24_code 7 = .ok (.invokestatic 111, 3) := by decide +kernel
theorem own_d_jdk_52_method_24_10 : decode jdk_52_method_24_code 10 = .ok (.aload_n 1, 1) := by decide +kernel
theorem own_d_jdk_52_method_24_11 : decode jdk_52_method_24_code 11 = .ok (.areturn, 1) := by decide +kernel
theorem own_d_jdk_42_method_151_0 : decode jdk_42_method_151_code 0 = .ok (.aload_n 0, 1) := by decide +kernel
theorem own_d_jdk_42_method_151_1 : decode jdk_42_method_151_code 1 = .ok (.invokespecial 1, 3) := by decide +kernel
theorem own_d_jdk_42_method_151_4 : decode jdk_42_method_151_code 4 = .ok (.aload_n 0, 1) := by decide +kernel
theorem own_d_jdk_42_method_151_5 : decode jdk_42_method_151_code 5 = .ok (.aload_n 1, 1) := by decide +kernel
theorem own_d_jdk_42_method_151_6 : decode jdk_42_method_151_code 6 = .ok (.putfield 9, 3) := by decide +kernel
theorem own_d_jdk_42_method_151_9 : decode jdk_42_method_151_code 9 = .ok (.aload_n 0, 1) := by decide +kernel
theorem own_d_jdk_42_method_151_10 : decode jdk_42_method_151_code 10 = .ok (.iload_n 2, 1) := by decide +kernel
theorem own_d_jdk_42_method_151_11 : decode jdk_42_method_151_code 11 = .ok (.putfield 15, 3) := by decide +kernel
theorem own_d_jdk_42_method_151_14 : decode jdk_42_method_151_code 14 = .ok (.return_, 1) := by decide +kernel
theorem own_d_jdk_42_method_139_0 : decode jdk_42_method_139_code 0 = .ok (.getstatic 38, 3) := by decide +kernel
theorem own_d_jdk_42_method_139_3 : decode jdk_42_method_139_code 3 = .ok (.ifCond .eq 23, 3) := by decide +kernel
theorem own_d_jdk_42_method_139_6 : decode jdk_42_method_139_code 6 = .ok (.iload_n 0, 1) := by decide +kernel
theorem own_d_jdk_42_method_139_7 : decode jdk_42_method_139_code 7 = .ok (.invokestatic 1015, 3) := by decide +kernel
theorem own_d_jdk_42_method_139_10 : decode jdk_42_method_139_code 10 = .ok (.ifCond .eq 16, 3) := by decide +kernel
theorem own_d_jdk_42_method_139_26 : decode jdk_42_method_139_code 26 = .ok (.new 10, 3) := by decide +kernel
theorem own_d_jdk_42_method_139_29 : decode jdk_42_method_139_code 29 = .ok (.dup, 1) := by decide +kernel
theorem own_d_jdk_42_method_139_30 : decode jdk_42_method_139_code 30 = .ok (.iload_n 0, 1) := by decide +kernel
theorem own_d_jdk_42_method_139_31 : decode jdk_42_method_139_code 31 = .ok (.invokestatic 1021, 3) := by decide +kernel
theorem own_d_jdk_42_method_139_34 : decode jdk_42_method_139_code 34 = .ok (.iconst 1, 1) := by decide +kernel
theorem own_d_jdk_42_method_139_35 : decode jdk_42_method_139_code 35 = .ok (.invokespecial 209, 3) := by decide +kernel
theorem own_d_jdk_42_method_139_38 : decode jdk_42_method_139_code 38 = .ok (.areturn, 1) := by decide +kernel
theorem own_d_jdk_42_method_139_13 : decode jdk_42_method_139_code 13 = .ok (.new 10, 3) := by decide +kernel
theorem own_d_jdk_42_method_139_16 : decode jdk_42_method_139_code 16 = .ok (.dup, 1) := by decide +kernel
theorem own_d_jdk_42_method_139_17 : decode jdk_42_method_139_code 17 = .ok (.iload_n 0, 1) := by decide +kernel
theorem own_d_jdk_42_method_139_18 : decode jdk_42_method_139_code 18 = .ok (.invokestatic 1018, 3) := by decide +kernel
theorem own_d_jdk_42_method_139_21 : decode jdk_42_method_139_code 21 = .ok (.iconst 0, 1) := by decide +kernel
theorem own_d_jdk_42_method_139_22 : decode jdk_42_method_139_code 22 = .ok (.invokespecial 209, 3) := by decide +kernel
theorem own_d_jdk_42_method_139_25 : decode jdk_42_method_139_code 25 = .ok (.areturn, 1) := by decide +kernel
theorem own_d_jdk_31_method_11_0 : decode jdk_31_method_11_code 0 = .ok (.aload_n 0, 1) := by decide +kernel
theorem own_d_jdk_31_method_11_1 : decode jdk_31_method_11_code 1 = .ok (.ifnonnull 12, 3) := by decide +kernel
theorem own_d_jdk_31_method_11_13 : decode jdk_31_method_11_code 13 = .ok (.aload_n 0, 1) := by decide +kernel
theorem own_d_jdk_31_method_11_14 : decode jdk_31_method_11_code 14 = .ok (.areturn, 1) := by decide +kernel
theorem own_d_prog_1_method_2_0 : decode prog_1_method_2_code 0 = .ok (.aload_n 1, 1) := by decide +kernel
theorem own_d_prog_1_method_2_1 : decode prog_1_method_2_code 1 = .ok (.aload_n 0, 1) := by decide +kernel
theorem own_d_prog_1_method_2_2 : decode prog_1_method_2_code 2 = .ok (.invokestatic 7, 3) := by decide +kernel
theorem own_d_prog_1_method_2_5 : decode prog_1_method_2_code 5 = .ok (.pop, 1) := by decide +kernel
theorem own_d_prog_1_method_2_6 : decode prog_1_method_2_code 6 = .ok (.aload_n 1, 1) := by decide +kernel
theorem own_d_prog_1_method_2_7 : decode prog_1_method_2_code 7 = .ok (.invokevirtual 13, 3) := by decide +kernel
theorem own_d_prog_1_method_2_10 : decode prog_1_method_2_code 10 = .ok (.ifCond .eq 17, 3) := by decide +kernel
theorem own_d_prog_1_method_2_27 : decode prog_1_method_2_code 27 = .ok (.aload_n 1, 1) := by decide +kernel
theorem own_d_prog_1_method_2_28 : decode prog_1_method_2_code 28 = .ok (.areturn, 1) := by decide +kernel
theorem own_pd0 : parseMethodDescriptor "(I)I" = some ⟨[.int], some .int⟩ := by decide +kernel
theorem own_pd1 : parseMethodDescriptor "(I)[B" = some ⟨[.int], some (.array .byte)⟩ := by decide +kernel
theorem own_pd2 : parseMethodDescriptor "([BII)V" = some ⟨[(.array .byte), .int, .int], none⟩ := by decide +kernel
theorem own_pd3 : parseMethodDescriptor "([CI[BII)I" = some ⟨[(.array .char), .int, (.array .byte), .int, .int], some .int⟩ := by decide +kernel
theorem own_pd4 : parseMethodDescriptor "([CII)[B" = some ⟨[(.array .char), .int, .int], some (.array .byte)⟩ := by decide +kernel
theorem own_pd5 : parseMethodDescriptor "([BI)C" = some ⟨[(.array .byte), .int], some .char⟩ := by decide +kernel
theorem own_pd6 : parseMethodDescriptor "([BI)B" = some ⟨[(.array .byte), .int], some .byte⟩ := by decide +kernel
theorem own_pd7 : parseMethodDescriptor "([CIILjava/lang/Void;)V" = some ⟨[(.array .char), .int, .int, (.object "java/lang/Void")], none⟩ := by decide +kernel
theorem own_pd8 : parseMethodDescriptor "()B" = some ⟨[], some .byte⟩ := by decide +kernel
theorem own_pd9 : parseMethodDescriptor "(C)Z" = some ⟨[.char], some .boolean⟩ := by decide +kernel
theorem own_pd10 : parseMethodDescriptor "(C)[B" = some ⟨[.char], some (.array .byte)⟩ := by decide +kernel
theorem own_pd11 : parseMethodDescriptor "([BB)V" = some ⟨[(.array .byte), .byte], none⟩ := by decide +kernel
theorem own_pd12 : parseMethodDescriptor "(Ljava/lang/Object;Ljava/lang/String;)Ljava/lang/Object;" = some ⟨[(.object "java/lang/Object"), (.object "java/lang/String")], some (.object "java/lang/Object")⟩ := by decide +kernel
theorem own_pd13 : parseMethodDescriptor "()Z" = some ⟨[], some .boolean⟩ := by decide +kernel
theorem own_pd14 : parseMethodDescriptor "([C)V" = some ⟨[(.array .char)], none⟩ := by decide +kernel
theorem own_pd15 : parseMethodDescriptor "(C)Ljava/lang/String;" = some ⟨[.char], some (.object "java/lang/String")⟩ := by decide +kernel
theorem own_pd16 : parseMethodDescriptor "(Ljava/lang/String;Ljava/lang/String;)Ljava/lang/String;" = some ⟨[(.object "java/lang/String"), (.object "java/lang/String")], some (.object "java/lang/String")⟩ := by decide +kernel
theorem own_pd17 : parseMethodDescriptor "()I" = some ⟨[], some .int⟩ := by decide +kernel
theorem own_pn0 : plainName "java/lang/StringUTF16" = true := by first | (simp [plainName, overriddenIn]; done) | decide +kernel
theorem own_pn1 : plainName "java/lang/String" = true := by first | (simp [plainName, overriddenIn]; done) | decide +kernel
theorem own_pn2 : plainName "java/lang/StringLatin1" = true := by first | (simp [plainName, overriddenIn]; done) | decide +kernel
theorem own_pn3 : plainName "java/util/Objects" = true := by first | (simp [plainName, overriddenIn]; done) | decide +kernel
theorem own_pn4 : plainName "com/example/nuthatch/nuthatch/Arguments" = true := by first | (simp [plainName, overriddenIn]; done) | decide +kernel
theorem own_pn5 : plainName "com/example/nuthatch/nuthatch/ArgumentsRequireNonEmptyPinLaw" = true := by first | (simp [plainName, overriddenIn]; done) | decide +kernel
theorem own_ef_C5_1 (m : MethodId) (x0 : Addr) (x1 : Int32) (x2 : Addr) (x3 : Int32) (x4 : Int32) : entryFrame m #[(.ref x0), (.int x1), (.ref x2), (.int x3), (.int x4)] 7 = mkF m 0 #[.val (.ref x0), .val (.int x1), .val (.ref x2), .val (.int x3), .val (.int x4), .unset, .unset] [] := by first | (simp [entryFrame, mkF, argsToLocals, Value.category]; done) | rfl
theorem own_ef_NL_1 (m : MethodId) (x0 : Int32) : entryFrame m #[(.int x0)] 1 = mkF m 0 #[.val (.int x0)] [] := by first | (simp [entryFrame, mkF, argsToLocals, Value.category]; done) | rfl
theorem own_ef_NF_1 (m : MethodId) (x0 : Int32) : entryFrame m #[(.int x0)] 1 = mkF m 0 #[.val (.int x0)] [] := by first | (simp [entryFrame, mkF, argsToLocals, Value.category]; done) | rfl
theorem own_ef_PC_1_0 (m : MethodId) (x0 : Addr) (x1 : Int32) (x2 : Int32) : entryFrame m #[(.ref x0), (.int x1), (.int x2)] 3 = mkF m 0 #[.val (.ref x0), .val (.int x1), .val (.int x2)] [] := by first | (simp [entryFrame, mkF, argsToLocals, Value.category]; done) | rfl
theorem own_ef_TS_1 (m : MethodId) (x0 : Addr) (x1 : Int32) (x2 : Int32) : entryFrame m #[(.ref x0), (.int x1), (.int x2)] 5 = mkF m 0 #[.val (.ref x0), .val (.int x1), .val (.int x2), .unset, .unset] [] := by first | (simp [entryFrame, mkF, argsToLocals, Value.category]; done) | rfl
theorem own_ef_GC_1_0 (m : MethodId) (x0 : Addr) (x1 : Int32) : entryFrame m #[(.ref x0), (.int x1)] 2 = mkF m 0 #[.val (.ref x0), .val (.int x1)] [] := by first | (simp [entryFrame, mkF, argsToLocals, Value.category]; done) | rfl
theorem own_ef_C3_1 (m : MethodId) (x0 : Addr) (x1 : Int32) (x2 : Int32) : entryFrame m #[(.ref x0), (.int x1), (.int x2)] 6 = mkF m 0 #[.val (.ref x0), .val (.int x1), .val (.int x2), .unset, .unset, .unset] [] := by first | (simp [entryFrame, mkF, argsToLocals, Value.category]; done) | rfl
theorem own_ef_CF_1_0 (m : MethodId) (x0 : Addr) (x1 : Int32) : entryFrame m #[(.ref x0), (.int x1)] 2 = mkF m 0 #[.val (.ref x0), .val (.int x1)] [] := by first | (simp [entryFrame, mkF, argsToLocals, Value.category]; done) | rfl
theorem own_ef_CF_1_1 (m : MethodId) (x0 : Addr) (x1 : Int32) : entryFrame m #[(.ref x0), (.int x1)] 2 = mkF m 0 #[.val (.ref x0), .val (.int x1)] [] := by first | (simp [entryFrame, mkF, argsToLocals, Value.category]; done) | rfl
theorem own_ef_I4_1 (m : MethodId) (x0 : Addr) (x1 : Addr) (x2 : Int32) (x3 : Int32) : entryFrame m #[(.ref x0), (.ref x1), (.int x2), (.int x3), .null] 6 = mkF m 0 #[.val (.ref x0), .val (.ref x1), .val (.int x2), .val (.int x3), .val .null, .unset] [] := by first | (simp [entryFrame, mkF, argsToLocals, Value.category]; done) | rfl
theorem own_ef_I1_1 (m : MethodId) (x0 : Addr) (x1 : Addr) : entryFrame m #[(.ref x0), (.ref x1)] 2 = mkF m 0 #[.val (.ref x0), .val (.ref x1)] [] := by first | (simp [entryFrame, mkF, argsToLocals, Value.category]; done) | rfl
theorem own_ef_C5_2 (m : MethodId) (x0 : Addr) (x1 : Int32) (x2 : Addr) (x3 : Int32) (x4 : Int32) : entryFrame m #[(.ref x0), (.int x1), (.ref x2), (.int x3), (.int x4)] 7 = mkF m 0 #[.val (.ref x0), .val (.int x1), .val (.ref x2), .val (.int x3), .val (.int x4), .unset, .unset] [] := by first | (simp [entryFrame, mkF, argsToLocals, Value.category]; done) | rfl
theorem own_ef_NL_2 (m : MethodId) (x0 : Int32) : entryFrame m #[(.int x0)] 1 = mkF m 0 #[.val (.int x0)] [] := by first | (simp [entryFrame, mkF, argsToLocals, Value.category]; done) | rfl
theorem own_ef_NF_2 (m : MethodId) (x0 : Int32) : entryFrame m #[(.int x0)] 1 = mkF m 0 #[.val (.int x0)] [] := by first | (simp [entryFrame, mkF, argsToLocals, Value.category]; done) | rfl
theorem own_ef_PC_2_0 (m : MethodId) (x0 : Addr) (x1 : Int32) (x2 : Int32) : entryFrame m #[(.ref x0), (.int x1), (.int x2)] 3 = mkF m 0 #[.val (.ref x0), .val (.int x1), .val (.int x2)] [] := by first | (simp [entryFrame, mkF, argsToLocals, Value.category]; done) | rfl
theorem own_ef_PC_2_1 (m : MethodId) (x0 : Addr) (x1 : Int32) (x2 : Int32) : entryFrame m #[(.ref x0), (.int x1), (.int x2)] 3 = mkF m 0 #[.val (.ref x0), .val (.int x1), .val (.int x2)] [] := by first | (simp [entryFrame, mkF, argsToLocals, Value.category]; done) | rfl
theorem own_ef_TS_2 (m : MethodId) (x0 : Addr) (x1 : Int32) (x2 : Int32) : entryFrame m #[(.ref x0), (.int x1), (.int x2)] 5 = mkF m 0 #[.val (.ref x0), .val (.int x1), .val (.int x2), .unset, .unset] [] := by first | (simp [entryFrame, mkF, argsToLocals, Value.category]; done) | rfl
theorem own_ef_GC_2_0 (m : MethodId) (x0 : Addr) (x1 : Int32) : entryFrame m #[(.ref x0), (.int x1)] 2 = mkF m 0 #[.val (.ref x0), .val (.int x1)] [] := by first | (simp [entryFrame, mkF, argsToLocals, Value.category]; done) | rfl
theorem own_ef_GC_2_1 (m : MethodId) (x0 : Addr) (x1 : Int32) : entryFrame m #[(.ref x0), (.int x1)] 2 = mkF m 0 #[.val (.ref x0), .val (.int x1)] [] := by first | (simp [entryFrame, mkF, argsToLocals, Value.category]; done) | rfl
theorem own_ef_C3_2 (m : MethodId) (x0 : Addr) (x1 : Int32) (x2 : Int32) : entryFrame m #[(.ref x0), (.int x1), (.int x2)] 6 = mkF m 0 #[.val (.ref x0), .val (.int x1), .val (.int x2), .unset, .unset, .unset] [] := by first | (simp [entryFrame, mkF, argsToLocals, Value.category]; done) | rfl
theorem own_ef_CF_2_0 (m : MethodId) (x0 : Addr) (x1 : Int32) : entryFrame m #[(.ref x0), (.int x1)] 2 = mkF m 0 #[.val (.ref x0), .val (.int x1)] [] := by first | (simp [entryFrame, mkF, argsToLocals, Value.category]; done) | rfl
theorem own_ef_CF_2_1 (m : MethodId) (x0 : Addr) (x1 : Int32) : entryFrame m #[(.ref x0), (.int x1)] 2 = mkF m 0 #[.val (.ref x0), .val (.int x1)] [] := by first | (simp [entryFrame, mkF, argsToLocals, Value.category]; done) | rfl
theorem own_ef_I4_2 (m : MethodId) (x0 : Addr) (x1 : Addr) (x2 : Int32) (x3 : Int32) : entryFrame m #[(.ref x0), (.ref x1), (.int x2), (.int x3), .null] 6 = mkF m 0 #[.val (.ref x0), .val (.ref x1), .val (.int x2), .val (.int x3), .val .null, .unset] [] := by first | (simp [entryFrame, mkF, argsToLocals, Value.category]; done) | rfl
theorem own_ef_I1_2 (m : MethodId) (x0 : Addr) (x1 : Addr) : entryFrame m #[(.ref x0), (.ref x1)] 2 = mkF m 0 #[.val (.ref x0), .val (.ref x1)] [] := by first | (simp [entryFrame, mkF, argsToLocals, Value.category]; done) | rfl
theorem own_ef_C5_3 (m : MethodId) (x0 : Addr) (x1 : Int32) (x2 : Addr) (x3 : Int32) (x4 : Int32) : entryFrame m #[(.ref x0), (.int x1), (.ref x2), (.int x3), (.int x4)] 7 = mkF m 0 #[.val (.ref x0), .val (.int x1), .val (.ref x2), .val (.int x3), .val (.int x4), .unset, .unset] [] := by first | (simp [entryFrame, mkF, argsToLocals, Value.category]; done) | rfl
theorem own_ef_NL_3 (m : MethodId) (x0 : Int32) : entryFrame m #[(.int x0)] 1 = mkF m 0 #[.val (.int x0)] [] := by first | (simp [entryFrame, mkF, argsToLocals, Value.category]; done) | rfl
theorem own_ef_NF_3 (m : MethodId) (x0 : Int32) : entryFrame m #[(.int x0)] 1 = mkF m 0 #[.val (.int x0)] [] := by first | (simp [entryFrame, mkF, argsToLocals, Value.category]; done) | rfl
theorem own_ef_PC_3_0 (m : MethodId) (x0 : Addr) (x1 : Int32) (x2 : Int32) : entryFrame m #[(.ref x0), (.int x1), (.int x2)] 3 = mkF m 0 #[.val (.ref x0), .val (.int x1), .val (.int x2)] [] := by first | (simp [entryFrame, mkF, argsToLocals, Value.category]; done) | rfl
theorem own_ef_PC_3_1 (m : MethodId) (x0 : Addr) (x1 : Int32) (x2 : Int32) : entryFrame m #[(.ref x0), (.int x1), (.int x2)] 3 = mkF m 0 #[.val (.ref x0), .val (.int x1), .val (.int x2)] [] := by first | (simp [entryFrame, mkF, argsToLocals, Value.category]; done) | rfl
theorem own_ef_PC_3_2 (m : MethodId) (x0 : Addr) (x1 : Int32) (x2 : Int32) : entryFrame m #[(.ref x0), (.int x1), (.int x2)] 3 = mkF m 0 #[.val (.ref x0), .val (.int x1), .val (.int x2)] [] := by first | (simp [entryFrame, mkF, argsToLocals, Value.category]; done) | rfl
theorem own_ef_TS_3 (m : MethodId) (x0 : Addr) (x1 : Int32) (x2 : Int32) : entryFrame m #[(.ref x0), (.int x1), (.int x2)] 5 = mkF m 0 #[.val (.ref x0), .val (.int x1), .val (.int x2), .unset, .unset] [] := by first | (simp [entryFrame, mkF, argsToLocals, Value.category]; done) | rfl
theorem own_ef_GC_3_0 (m : MethodId) (x0 : Addr) (x1 : Int32) : entryFrame m #[(.ref x0), (.int x1)] 2 = mkF m 0 #[.val (.ref x0), .val (.int x1)] [] := by first | (simp [entryFrame, mkF, argsToLocals, Value.category]; done) | rfl
theorem own_ef_GC_3_1 (m : MethodId) (x0 : Addr) (x1 : Int32) : entryFrame m #[(.ref x0), (.int x1)] 2 = mkF m 0 #[.val (.ref x0), .val (.int x1)] [] := by first | (simp [entryFrame, mkF, argsToLocals, Value.category]; done) | rfl
theorem own_ef_GC_3_2 (m : MethodId) (x0 : Addr) (x1 : Int32) : entryFrame m #[(.ref x0), (.int x1)] 2 = mkF m 0 #[.val (.ref x0), .val (.int x1)] [] := by first | (simp [entryFrame, mkF, argsToLocals, Value.category]; done) | rfl
theorem own_ef_C3_3 (m : MethodId) (x0 : Addr) (x1 : Int32) (x2 : Int32) : entryFrame m #[(.ref x0), (.int x1), (.int x2)] 6 = mkF m 0 #[.val (.ref x0), .val (.int x1), .val (.int x2), .unset, .unset, .unset] [] := by first | (simp [entryFrame, mkF, argsToLocals, Value.category]; done) | rfl
theorem own_ef_CF_3_0 (m : MethodId) (x0 : Addr) (x1 : Int32) : entryFrame m #[(.ref x0), (.int x1)] 2 = mkF m 0 #[.val (.ref x0), .val (.int x1)] [] := by first | (simp [entryFrame, mkF, argsToLocals, Value.category]; done) | rfl
theorem own_ef_CF_3_1 (m : MethodId) (x0 : Addr) (x1 : Int32) : entryFrame m #[(.ref x0), (.int x1)] 2 = mkF m 0 #[.val (.ref x0), .val (.int x1)] [] := by first | (simp [entryFrame, mkF, argsToLocals, Value.category]; done) | rfl
theorem own_ef_I4_3 (m : MethodId) (x0 : Addr) (x1 : Addr) (x2 : Int32) (x3 : Int32) : entryFrame m #[(.ref x0), (.ref x1), (.int x2), (.int x3), .null] 6 = mkF m 0 #[.val (.ref x0), .val (.ref x1), .val (.int x2), .val (.int x3), .val .null, .unset] [] := by first | (simp [entryFrame, mkF, argsToLocals, Value.category]; done) | rfl
theorem own_ef_I1_3 (m : MethodId) (x0 : Addr) (x1 : Addr) : entryFrame m #[(.ref x0), (.ref x1)] 2 = mkF m 0 #[.val (.ref x0), .val (.ref x1)] [] := by first | (simp [entryFrame, mkF, argsToLocals, Value.category]; done) | rfl
theorem own_ef_C5_4 (m : MethodId) (x0 : Addr) (x1 : Int32) (x2 : Addr) (x3 : Int32) (x4 : Int32) : entryFrame m #[(.ref x0), (.int x1), (.ref x2), (.int x3), (.int x4)] 7 = mkF m 0 #[.val (.ref x0), .val (.int x1), .val (.ref x2), .val (.int x3), .val (.int x4), .unset, .unset] [] := by first | (simp [entryFrame, mkF, argsToLocals, Value.category]; done) | rfl
theorem own_ef_NL_4 (m : MethodId) (x0 : Int32) : entryFrame m #[(.int x0)] 1 = mkF m 0 #[.val (.int x0)] [] := by first | (simp [entryFrame, mkF, argsToLocals, Value.category]; done) | rfl
theorem own_ef_NF_4 (m : MethodId) (x0 : Int32) : entryFrame m #[(.int x0)] 1 = mkF m 0 #[.val (.int x0)] [] := by first | (simp [entryFrame, mkF, argsToLocals, Value.category]; done) | rfl
theorem own_ef_PC_4_0 (m : MethodId) (x0 : Addr) (x1 : Int32) (x2 : Int32) : entryFrame m #[(.ref x0), (.int x1), (.int x2)] 3 = mkF m 0 #[.val (.ref x0), .val (.int x1), .val (.int x2)] [] := by first | (simp [entryFrame, mkF, argsToLocals, Value.category]; done) | rfl
theorem own_ef_PC_4_1 (m : MethodId) (x0 : Addr) (x1 : Int32) (x2 : Int32) : entryFrame m #[(.ref x0), (.int x1), (.int x2)] 3 = mkF m 0 #[.val (.ref x0), .val (.int x1), .val (.int x2)] [] := by first | (simp [entryFrame, mkF, argsToLocals, Value.category]; done) | rfl
theorem own_ef_PC_4_2 (m : MethodId) (x0 : Addr) (x1 : Int32) (x2 : Int32) : entryFrame m #[(.ref x0), (.int x1), (.int x2)] 3 = mkF m 0 #[.val (.ref x0), .val (.int x1), .val (.int x2)] [] := by first | (simp [entryFrame, mkF, argsToLocals, Value.category]; done) | rfl
theorem own_ef_PC_4_3 (m : MethodId) (x0 : Addr) (x1 : Int32) (x2 : Int32) : entryFrame m #[(.ref x0), (.int x1), (.int x2)] 3 = mkF m 0 #[.val (.ref x0), .val (.int x1), .val (.int x2)] [] := by first | (simp [entryFrame, mkF, argsToLocals, Value.category]; done) | rfl
theorem own_ef_TS_4 (m : MethodId) (x0 : Addr) (x1 : Int32) (x2 : Int32) : entryFrame m #[(.ref x0), (.int x1), (.int x2)] 5 = mkF m 0 #[.val (.ref x0), .val (.int x1), .val (.int x2), .unset, .unset] [] := by first | (simp [entryFrame, mkF, argsToLocals, Value.category]; done) | rfl
theorem own_ef_GC_4_0 (m : MethodId) (x0 : Addr) (x1 : Int32) : entryFrame m #[(.ref x0), (.int x1)] 2 = mkF m 0 #[.val (.ref x0), .val (.int x1)] [] := by first | (simp [entryFrame, mkF, argsToLocals, Value.category]; done) | rfl
theorem own_ef_GC_4_1 (m : MethodId) (x0 : Addr) (x1 : Int32) : entryFrame m #[(.ref x0), (.int x1)] 2 = mkF m 0 #[.val (.ref x0), .val (.int x1)] [] := by first | (simp [entryFrame, mkF, argsToLocals, Value.category]; done) | rfl
theorem own_ef_GC_4_2 (m : MethodId) (x0 : Addr) (x1 : Int32) : entryFrame m #[(.ref x0), (.int x1)] 2 = mkF m 0 #[.val (.ref x0), .val (.int x1)] [] := by first | (simp [entryFrame, mkF, argsToLocals, Value.category]; done) | rfl
theorem own_ef_GC_4_3 (m : MethodId) (x0 : Addr) (x1 : Int32) : entryFrame m #[(.ref x0), (.int x1)] 2 = mkF m 0 #[.val (.ref x0), .val (.int x1)] [] := by first | (simp [entryFrame, mkF, argsToLocals, Value.category]; done) | rfl
theorem own_ef_C3_4 (m : MethodId) (x0 : Addr) (x1 : Int32) (x2 : Int32) : entryFrame m #[(.ref x0), (.int x1), (.int x2)] 6 = mkF m 0 #[.val (.ref x0), .val (.int x1), .val (.int x2), .unset, .unset, .unset] [] := by first | (simp [entryFrame, mkF, argsToLocals, Value.category]; done) | rfl
theorem own_ef_CF_4_0 (m : MethodId) (x0 : Addr) (x1 : Int32) : entryFrame m #[(.ref x0), (.int x1)] 2 = mkF m 0 #[.val (.ref x0), .val (.int x1)] [] := by first | (simp [entryFrame, mkF, argsToLocals, Value.category]; done) | rfl
theorem own_ef_CF_4_1 (m : MethodId) (x0 : Addr) (x1 : Int32) : entryFrame m #[(.ref x0), (.int x1)] 2 = mkF m 0 #[.val (.ref x0), .val (.int x1)] [] := by first | (simp [entryFrame, mkF, argsToLocals, Value.category]; done) | rfl
theorem own_ef_I4_4 (m : MethodId) (x0 : Addr) (x1 : Addr) (x2 : Int32) (x3 : Int32) : entryFrame m #[(.ref x0), (.ref x1), (.int x2), (.int x3), .null] 6 = mkF m 0 #[.val (.ref x0), .val (.ref x1), .val (.int x2), .val (.int x3), .val .null, .unset] [] := by first | (simp [entryFrame, mkF, argsToLocals, Value.category]; done) | rfl
theorem own_ef_I1_4 (m : MethodId) (x0 : Addr) (x1 : Addr) : entryFrame m #[(.ref x0), (.ref x1)] 2 = mkF m 0 #[.val (.ref x0), .val (.ref x1)] [] := by first | (simp [entryFrame, mkF, argsToLocals, Value.category]; done) | rfl
theorem own_ef_CD_0 (m : MethodId) (x0 : Addr) : entryFrame m #[(.ref x0)] 1 = mkF m 0 #[.val (.ref x0)] [] := by first | (simp [entryFrame, mkF, argsToLocals, Value.category]; done) | rfl
theorem own_ef_CD_1 (m : MethodId) (x0 : Addr) : entryFrame m #[(.ref x0)] 1 = mkF m 0 #[.val (.ref x0)] [] := by first | (simp [entryFrame, mkF, argsToLocals, Value.category]; done) | rfl
theorem own_ef_LN_1 (m : MethodId) (x0 : Addr) : entryFrame m #[(.ref x0)] 1 = mkF m 0 #[.val (.ref x0)] [] := by first | (simp [entryFrame, mkF, argsToLocals, Value.category]; done) | rfl
theorem own_ef_EM_1 (m : MethodId) (x0 : Addr) : entryFrame m #[(.ref x0)] 1 = mkF m 0 #[.val (.ref x0)] [] := by first | (simp [entryFrame, mkF, argsToLocals, Value.category]; done) | rfl
theorem own_ef_LN_2 (m : MethodId) (x0 : Addr) : entryFrame m #[(.ref x0)] 1 = mkF m 0 #[.val (.ref x0)] [] := by first | (simp [entryFrame, mkF, argsToLocals, Value.category]; done) | rfl
theorem own_ef_EM_2 (m : MethodId) (x0 : Addr) : entryFrame m #[(.ref x0)] 1 = mkF m 0 #[.val (.ref x0)] [] := by first | (simp [entryFrame, mkF, argsToLocals, Value.category]; done) | rfl
theorem own_ef_LN_3 (m : MethodId) (x0 : Addr) : entryFrame m #[(.ref x0)] 1 = mkF m 0 #[.val (.ref x0)] [] := by first | (simp [entryFrame, mkF, argsToLocals, Value.category]; done) | rfl
theorem own_ef_EM_3 (m : MethodId) (x0 : Addr) : entryFrame m #[(.ref x0)] 1 = mkF m 0 #[.val (.ref x0)] [] := by first | (simp [entryFrame, mkF, argsToLocals, Value.category]; done) | rfl
theorem own_ef_LN_4 (m : MethodId) (x0 : Addr) : entryFrame m #[(.ref x0)] 1 = mkF m 0 #[.val (.ref x0)] [] := by first | (simp [entryFrame, mkF, argsToLocals, Value.category]; done) | rfl
theorem own_ef_EM_4 (m : MethodId) (x0 : Addr) : entryFrame m #[(.ref x0)] 1 = mkF m 0 #[.val (.ref x0)] [] := by first | (simp [entryFrame, mkF, argsToLocals, Value.category]; done) | rfl
theorem own_ef_CE1 (m : MethodId) (x0 : Int32) : entryFrame m #[(.int x0)] 1 = mkF m 0 #[.val (.int x0)] [] := by first | (simp [entryFrame, mkF, argsToLocals, Value.category]; done) | rfl
theorem own_ef_CE0 (m : MethodId) (x0 : Int32) : entryFrame m #[(.int x0)] 1 = mkF m 0 #[.val (.int x0)] [] := by first | (simp [entryFrame, mkF, argsToLocals, Value.category]; done) | rfl
theorem own_ef_TB1 (m : MethodId) (x0 : Int32) : entryFrame m #[(.int x0)] 1 = mkF m 0 #[.val (.int x0)] [] := by first | (simp [entryFrame, mkF, argsToLocals, Value.category]; done) | rfl
theorem own_ef_TBU (m : MethodId) (x0 : Int32) : entryFrame m #[(.int x0)] 2 = mkF m 0 #[.val (.int x0), .unset] [] := by first | (simp [entryFrame, mkF, argsToLocals, Value.category]; done) | rfl
theorem own_ef_IB0 (m : MethodId) (x0 : Addr) (x1 : Addr) (x2 : Int32) : entryFrame m #[(.ref x0), (.ref x1), (.int x2)] 3 = mkF m 0 #[.val (.ref x0), .val (.ref x1), .val (.int x2)] [] := by first | (simp [entryFrame, mkF, argsToLocals, Value.category]; done) | rfl
theorem own_ef_IB1 (m : MethodId) (x0 : Addr) (x1 : Addr) (x2 : Int32) : entryFrame m #[(.ref x0), (.ref x1), (.int x2)] 3 = mkF m 0 #[.val (.ref x0), .val (.ref x1), .val (.int x2)] [] := by first | (simp [entryFrame, mkF, argsToLocals, Value.category]; done) | rfl
theorem own_ef_VO (m : MethodId) (x0 : Int32) : entryFrame m #[(.int x0)] 1 = mkF m 0 #[.val (.int x0)] [] := by first | (simp [entryFrame, mkF, argsToLocals, Value.category]; done) | rfl
theorem own_ef_RN (m : MethodId) (x0 : Addr) (x1 : Addr) : entryFrame m #[(.ref x0), (.ref x1)] 2 = mkF m 0 #[.val (.ref x0), .val (.ref x1)] [] := by first | (simp [entryFrame, mkF, argsToLocals, Value.category]; done) | rfl
theorem own_ef_RE_1 (m : MethodId) (x0 : Addr) (x1 : Addr) : entryFrame m #[(.ref x0), (.ref x1)] 2 = mkF m 0 #[.val (.ref x0), .val (.ref x1)] [] := by first | (simp [entryFrame, mkF, argsToLocals, Value.category]; done) | rfl
theorem own_ef_RE_2 (m : MethodId) (x0 : Addr) (x1 : Addr) : entryFrame m #[(.ref x0), (.ref x1)] 2 = mkF m 0 #[.val (.ref x0), .val (.ref x1)] [] := by first | (simp [entryFrame, mkF, argsToLocals, Value.category]; done) | rfl
theorem own_ef_RE_3 (m : MethodId) (x0 : Addr) (x1 : Addr) : entryFrame m #[(.ref x0), (.ref x1)] 2 = mkF m 0 #[.val (.ref x0), .val (.ref x1)] [] := by first | (simp [entryFrame, mkF, argsToLocals, Value.category]; done) | rfl
theorem own_ef_RE_4 (m : MethodId) (x0 : Addr) (x1 : Addr) : entryFrame m #[(.ref x0), (.ref x1)] 2 = mkF m 0 #[.val (.ref x0), .val (.ref x1)] [] := by first | (simp [entryFrame, mkF, argsToLocals, Value.category]; done) | rfl
theorem own_ef_0 (m : MethodId) (x0 : Int32) (x1 : Int32) (x2 : Int32) (x3 : Int32) : entryFrame m #[(.int x0), (.int x1), (.int x2), (.int x3)] maxLocals = mkF m 0 #[.val (.int x0), .val (.int x1), .val (.int x2), .val (.int x3), .unset, .unset, .unset, .unset, .unset, .unset, .unset, .unset] [] := by first | (simp [entryFrame, mkF, argsToLocals, Value.category, maxLocals]; done) | rfl
def own_QC5_1 (Z : State) (x0 : Int32) (a : Addr) (ka : ClassId) (b : Addr) (kb : ClassId) (h0 : Heap) (n0 : Nat) (v : Option Value) (h : Heap) (L : List Loc) : Prop := Fr n0 L ∧ Keep h0 h [b] ∧ ((v = some (.int (1 : Int32)) ∧ ¬ ((255 : Int32) < x0) ∧ Arv Z h b kb .byte (1 : Int32) [(.int (x0.toInt8.toInt32))] (.int (0 : Int32))) ∨ (v = some (.int (0 : Int32)) ∧ (255 : Int32) < x0))
set_option maxRecDepth 65536 in
set_option maxHeartbeats 40000000 in
theorem own_rmC5_1 (l : Launch) (Z : State) (a0 : Array Value) (hw : ∀ d ∈ tables_1, d.before a0 Z = true) (ws : List Jvm.Cond) (x0 : Int32) (a : Addr) (ka : ClassId) (b : Addr) (kb : ClassId) (h0 : Heap) (n0 : Nat) (Z0 : n0 ≤ h0.size) (OL : Old Z n0 h0) (ne_a_b : a ≠ b) (ge_b : n0 ≤ b) (Va : Arv Z h0 a ka .char (1 : Int32) [(.int x0)] (.int (0 : Int32))) (Vb : Arv Z h0 b kb .byte (1 : Int32) [(.int (0 : Int32))] (.int (0 : Int32))) :
    MetFree l (⟨"java/lang/StringUTF16", "compress", "([CI[BII)I"⟩ : MethodName) (head1 (Jvm.Cond.code (⟨"java/lang/StringUTF16", "compress", "([CI[BII)I"⟩ : MethodName) jdk_52_method_21_code 7 (some .int) :: ws) ({ frames := 0, cells := 0, slots := 0, locals := 0 } : Room)) (fun aa_ U => aa_ = #[(.ref a), (.int (0 : Int32)), (.ref b), (.int (0 : Int32)), (.int (1 : Int32))] ∧ Z.Warmed39 U.vm ∧ U.heap = h0) (fun _ _ _ _ _ => True) (fun _ U o U' => ∃ v L, o = .returned v ∧ own_QC5_1 Z x0 a ka b kb h0 n0 v U'.heap L ∧ FrameEnd U o U' L ({ frames := 0, cells := 0, slots := 0, locals := 0 } : Room).cells ({ frames := 0, cells := 0, slots := 0, locals := 0 } : Room).slots) := by
  refine MetFree.of_bodySF (plainFor_of_name own_pn0) hisR ?_
  intro p e s m args below meth c s₁ Bd hml0 hP hK
  obtain ⟨rfl, hZ, hh⟩ := hP
  have hx := Bd.exec
  have hby := Bd.bytes
  have hlk : meth.locks = false := BodyLoose.notSynchronized Bd
  have hml : c.maxLocals = 7 := hml0
  have hown : s.vm.findClass "java/lang/StringUTF16" = some m.cls := findClass_of_methodNamed Bd.named
  have hnm := (name_of_methodNamed Bd.named Bd.method).1
  have X0 : Stand p l e ({ frames := 0, cells := 0, slots := 0, locals := 0 } : Room) s m #[(.ref a), (.int (0 : Int32)), (.ref b), (.int (0 : Int32)), (.int (1 : Int32))] below meth c s₁ [] 0 0 := Stand.of_body Bd
  have e0 : s₁.heap = h0 := by rw [← hh, Bd.state]; rfl
  have N0 := Fr.nil n0
  have KP : Keep h0 h0 [b] := Keep.refl _ _
  refine own_start (Fin := (own_Fin s (own_QC5_1 Z x0 a ka b kb h0 n0) ({ frames := 0, cells := 0, slots := 0, locals := 0 } : Room).cells ({ frames := 0, cells := 0, slots := 0, locals := 0 } : Room).slots)) (own_from (mkF m 0 #[rv a, iv 0, rv b, iv 0, iv 1, .unset, .unset] []) (castTop (own_ef_C5_1 m a (0 : Int32) b (0 : Int32) (1 : Int32))) ?_)
  refine own_to (T' := s₁) (mkF m 1 #[rv a, iv 0, rv b, iv 0, iv 1, .unset, .unset] [(.int (0 : Int32))]) (fun _ k => XS.iconst X0.here hx rfl (hb hby own_d_jdk_52_method_21_0) k) ?_
  refine own_to (T' := s₁) (mkF m 3 #[rv a, iv 0, rv b, iv 0, iv 1, iv 0, .unset] []) (fun _ k => XS.istore X0.here hx rfl (hb hby own_d_jdk_52_method_21_1) rfl (l' := #[rv a, iv 0, rv b, iv 0, iv 1, iv 0, .unset]) rfl k) ?_
  refine own_to (T' := s₁) (mkF m 5 #[rv a, iv 0, rv b, iv 0, iv 1, iv 0, .unset] [(.int (0 : Int32))]) (fun _ k => XS.iload X0.here hx rfl (hb hby own_d_jdk_52_method_21_3) rfl k) ?_
  refine own_to (T' := s₁) (mkF m 7 #[rv a, iv 0, rv b, iv 0, iv 1, iv 0, .unset] [(.int (1 : Int32)), (.int (0 : Int32))]) (fun _ k => XS.iload X0.here hx rfl (hb hby own_d_jdk_52_method_21_5) rfl k) ?_
  refine own_to (T' := s₁) (mkF m 10 #[rv a, iv 0, rv b, iv 0, iv 1, iv 0, .unset] []) (fun _ k => XS.icmpNo X0.here hx rfl (hb hby own_d_jdk_52_method_21_7) rfl (tlt (by decide : (0 : Int32) < (1 : Int32))).2.1 k) ?_
  refine own_to (T' := s₁) (mkF m 11 #[rv a, iv 0, rv b, iv 0, iv 1, iv 0, .unset] [(.ref a)]) (fun _ k => XS.aloadN X0.here hx rfl (hb hby own_d_jdk_52_method_21_10) rfl rfl k) ?_
  refine own_to (T' := s₁) (mkF m 12 #[rv a, iv 0, rv b, iv 0, iv 1, iv 0, .unset] [(.int (0 : Int32)), (.ref a)]) (fun _ k => XS.iloadN X0.here hx rfl (hb hby own_d_jdk_52_method_21_11) rfl k) ?_
  obtain ⟨cl1, Ar1, -, S1, -, H1, -⟩ := id Va
  refine own_to (mkF m 13 #[rv a, iv 0, rv b, iv 0, iv 1, iv 0, .unset] [(.int x0)]) (X0.caload hx (j := (0 : Int32)) (v := (.int x0)) (by rw [e0]; exact Ar1.1) (State.isArrayOf_alike hZ.alike Ar1.2.1) Ar1.2.2 (inb_of S1 ⟨by decide, by decide⟩) (H1.at (inb_of S1 ⟨by decide, by decide⟩) rfl) (g := (mkF m 12 #[rv a, iv 0, rv b, iv 0, iv 1, iv 0, .unset] [(.int (0 : Int32)), (.ref a)])) rfl rfl (hb hby own_d_jdk_52_method_21_12)) ?_
  refine own_to (T' := s₁) (mkF m 15 #[rv a, iv 0, rv b, iv 0, iv 1, iv 0, iv x0] []) (fun _ k => XS.istore X0.here hx rfl (hb hby own_d_jdk_52_method_21_13) rfl (l' := #[rv a, iv 0, rv b, iv 0, iv 1, iv 0, iv x0]) rfl k) ?_
  refine own_to (T' := s₁) (mkF m 17 #[rv a, iv 0, rv b, iv 0, iv 1, iv 0, iv x0] [(.int x0)]) (fun _ k => XS.iload X0.here hx rfl (hb hby own_d_jdk_52_method_21_15) rfl k) ?_
  refine own_to (T' := s₁) (mkF m 20 #[rv a, iv 0, rv b, iv 0, iv 1, iv 0, iv x0] [(.int (255 : Int32)), (.int x0)]) (fun _ k => XS.sipush X0.here hx rfl (hb hby own_d_jdk_52_method_21_17) k) ?_
  by_cases hb0 : (255 : Int32) < x0
  · refine own_to (T' := s₁) (mkF m 23 #[rv a, iv 0, rv b, iv 0, iv 1, iv 0, iv x0] []) (fun _ k => XS.icmpNo X0.here hx rfl (hb hby own_d_jdk_52_method_21_20) rfl (tlt hb0).2.2.2 k) ?_
    refine own_to (T' := s₁) (mkF m 25 #[rv a, iv 0, rv b, iv 0, iv 1, iv 0, iv x0] [(.int (0 : Int32))]) (fun _ k => XS.iload X0.here hx rfl (hb hby own_d_jdk_52_method_21_23) rfl k) ?_
    exact own_retI X0 hx Bd.returns hlk (hb hby own_d_jdk_52_method_21_25) (by decide) (by decide) (by rw [e0]; exact ⟨N0, KP, (Or.inr ⟨rfl, hb0⟩)⟩)
  · refine own_to (T' := s₁) (mkF m 26 #[rv a, iv 0, rv b, iv 0, iv 1, iv 0, iv x0] []) (fun _ k => XS.icmpYes X0.here hx rfl (pc0 := 20) (pc' := 26) rfl (hb hby own_d_jdk_52_method_21_20) rfl (flt hb0).2.2.2 (by decide) (by decide) k) ?_
    refine own_to (T' := s₁) (mkF m 27 #[rv a, iv 0, rv b, iv 0, iv 1, iv 0, iv x0] [(.ref b)]) (fun _ k => XS.aloadN X0.here hx rfl (hb hby own_d_jdk_52_method_21_26) rfl rfl k) ?_
    refine own_to (T' := s₁) (mkF m 28 #[rv a, iv 0, rv b, iv 0, iv 1, iv 0, iv x0] [(.int (0 : Int32)), (.ref b)]) (fun _ k => XS.iloadN X0.here hx rfl (hb hby own_d_jdk_52_method_21_27) rfl k) ?_
    refine own_to (T' := s₁) (mkF m 30 #[rv a, iv 0, rv b, iv 0, iv 1, iv 0, iv x0] [(.int x0), (.int (0 : Int32)), (.ref b)]) (fun _ k => XS.iload X0.here hx rfl (hb hby own_d_jdk_52_method_21_28) rfl k) ?_
    refine own_to (T' := s₁) (mkF m 31 #[rv a, iv 0, rv b, iv 0, iv 1, iv 0, iv x0] [(.int (x0.toInt8.toInt32)), (.int (0 : Int32)), (.ref b)]) (fun _ k => XS.i2b X0.here hx rfl (hb hby own_d_jdk_52_method_21_30) rfl k) ?_
    obtain ⟨cl2, Ar2, q2, S2, M2, H2, G2⟩ := id Vb
    obtain ⟨T2, h2, X2, e2, W2, st2⟩ := stB X0 hx hZ e0 Ar2 (j := (0 : Int32)) (inb_of S2 ⟨by decide, by decide⟩) (g := (mkF m 31 #[rv a, iv 0, rv b, iv 0, iv 1, iv 0, iv x0] [(.int (x0.toInt8.toInt32)), (.int (0 : Int32)), (.ref b)])) rfl rfl (hb hby own_d_jdk_52_method_21_31)
    refine own_to (mkF m 32 #[rv a, iv 0, rv b, iv 0, iv 1, iv 0, iv x0] []) st2 ?_
    have N2 := Fr.snoc X2 N0 ge_b
    have tmp2 : Arv Z h2 b kb .byte (1 : Int32) [(.int ((x0.toInt8.toInt32).toInt8.toInt32))] (.int (0 : Int32)) := Arv.set Ar2 q2 S2 M2 H2 G2 (fits_nar_byte _) W2 0 rfl (Nat.le_of_ble_eq_true rfl)
    rw [own_b8] at tmp2
    have OL := OL.wr W2 ge_b
    have KP := KP.wr W2 (Or.inl (List.mem_of_getElem? (i := 0) rfl))
    have Va := Va.other W2 ne_a_b
    have Vb := tmp2
    refine own_to (T' := T2) (mkF m 35 #[rv a, iv 1, rv b, iv 0, iv 1, iv 0, iv x0] []) (fun _ k => XS.iinc X2.here hx rfl (hb hby own_d_jdk_52_method_21_32) rfl (l' := #[rv a, iv 1, rv b, iv 0, iv 1, iv 0, iv x0]) rfl k) ?_
    refine own_to (T' := T2) (mkF m 38 #[rv a, iv 1, rv b, iv 1, iv 1, iv 0, iv x0] []) (fun _ k => XS.iinc X2.here hx rfl (hb hby own_d_jdk_52_method_21_35) rfl (l' := #[rv a, iv 1, rv b, iv 1, iv 1, iv 0, iv x0]) rfl k) ?_
    refine own_to (T' := T2) (mkF m 41 #[rv a, iv 1, rv b, iv 1, iv 1, iv 1, iv x0] []) (fun _ k => XS.iinc X2.here hx rfl (hb hby own_d_jdk_52_method_21_38) rfl (l' := #[rv a, iv 1, rv b, iv 1, iv 1, iv 1, iv x0]) rfl k) ?_
    refine own_to (T' := T2) (mkF m 3 #[rv a, iv 1, rv b, iv 1, iv 1, iv 1, iv x0] []) (fun _ k => XS.goto X2.here hx rfl (pc0 := 41) (pc' := 3) rfl (hb hby own_d_jdk_52_method_21_41) (by decide) (by decide) k) ?_
    refine own_to (T' := T2) (mkF m 5 #[rv a, iv 1, rv b, iv 1, iv 1, iv 1, iv x0] [(.int (1 : Int32))]) (fun _ k => XS.iload X2.here hx rfl (hb hby own_d_jdk_52_method_21_3) rfl k) ?_
    refine own_to (T' := T2) (mkF m 7 #[rv a, iv 1, rv b, iv 1, iv 1, iv 1, iv x0] [(.int (1 : Int32)), (.int (1 : Int32))]) (fun _ k => XS.iload X2.here hx rfl (hb hby own_d_jdk_52_method_21_5) rfl k) ?_
    refine own_to (T' := T2) (mkF m 44 #[rv a, iv 1, rv b, iv 1, iv 1, iv 1, iv x0] []) (fun _ k => XS.icmpYes X2.here hx rfl (pc0 := 7) (pc' := 44) rfl (hb hby own_d_jdk_52_method_21_7) rfl (flt (by decide : ¬ ((1 : Int32) < (1 : Int32)))).2.1 (by decide) (by decide) k) ?_
    refine own_to (T' := T2) (mkF m 46 #[rv a, iv 1, rv b, iv 1, iv 1, iv 1, iv x0] [(.int (1 : Int32))]) (fun _ k => XS.iload X2.here hx rfl (hb hby own_d_jdk_52_method_21_44) rfl k) ?_
    exact own_retI X2 hx Bd.returns hlk (hb hby own_d_jdk_52_method_21_46) (by decide) (by decide) (by rw [e2]; exact ⟨N2, KP, Or.inl ⟨rfl, hb0, Vb⟩⟩)
def own_QNL_1 (Z : State)  (h0 : Heap) (n0 : Nat) (v : Option Value) (h : Heap) (L : List Loc) : Prop := v = some (.int (2 : Int32)) ∧ Fr n0 L ∧ h = h0
set_option maxRecDepth 65536 in
set_option maxHeartbeats 40000000 in
theorem own_rmNL_1 (l : Launch) (Z : State) (a0 : Array Value) (hw : ∀ d ∈ tables_1, d.before a0 Z = true) (ws : List Jvm.Cond)  (h0 : Heap) (n0 : Nat) (Z0 : n0 ≤ h0.size) (OL : Old Z n0 h0)  :
    MetFree l (⟨"java/lang/StringUTF16", "newBytesLength", "(I)I"⟩ : MethodName) (head1 (Jvm.Cond.code (⟨"java/lang/StringUTF16", "newBytesLength", "(I)I"⟩ : MethodName) jdk_52_method_3_code 1 (some .int) :: ws) ({ frames := 0, cells := 0, slots := 0, locals := 0 } : Room)) (fun aa_ U => aa_ = #[(.int (1 : Int32))] ∧ Z.Warmed39 U.vm ∧ U.heap = h0) (fun _ _ _ _ _ => True) (fun _ U o U' => ∃ v L, o = .returned v ∧ own_QNL_1 Z  h0 n0 v U'.heap L ∧ FrameEnd U o U' L ({ frames := 0, cells := 0, slots := 0, locals := 0 } : Room).cells ({ frames := 0, cells := 0, slots := 0, locals := 0 } : Room).slots) := by
  refine MetFree.of_bodySF (plainFor_of_name own_pn0) hisR ?_
  intro p e s m args below meth c s₁ Bd hml0 hP hK
  obtain ⟨rfl, hZ, hh⟩ := hP
  have hx := Bd.exec
  have hby := Bd.bytes
  have hlk : meth.locks = false := BodyLoose.notSynchronized Bd
  have hml : c.maxLocals = 1 := hml0
  have hown : s.vm.findClass "java/lang/StringUTF16" = some m.cls := findClass_of_methodNamed Bd.named
  have hnm := (name_of_methodNamed Bd.named Bd.method).1
  have X0 : Stand p l e ({ frames := 0, cells := 0, slots := 0, locals := 0 } : Room) s m #[(.int (1 : Int32))] below meth c s₁ [] 0 0 := Stand.of_body Bd
  have e0 : s₁.heap = h0 := by rw [← hh, Bd.state]; rfl
  have N0 := Fr.nil n0
  have KP : Keep h0 h0 [] := Keep.refl _ _
  refine own_start (Fin := (own_Fin s (own_QNL_1 Z  h0 n0) ({ frames := 0, cells := 0, slots := 0, locals := 0 } : Room).cells ({ frames := 0, cells := 0, slots := 0, locals := 0 } : Room).slots)) (own_from (mkF m 0 #[iv 1] []) (castTop (own_ef_NL_1 m (1 : Int32))) ?_)
  refine own_to (T' := s₁) (mkF m 1 #[iv 1] [(.int (1 : Int32))]) (fun _ k => XS.iloadN X0.here hx rfl (hb hby own_d_jdk_52_method_3_0) rfl k) ?_
  refine own_to (T' := s₁) (mkF m 12 #[iv 1] []) (fun _ k => XS.ifYes X0.here hx rfl (pc0 := 1) (pc' := 12) rfl (hb hby own_d_jdk_52_method_3_1) rfl ((if0 _ _).trans (flt (by decide : ¬ ((1 : Int32) < (0 : Int32)))).2.1) (by decide) (by decide) k) ?_
  refine own_to (T' := s₁) (mkF m 13 #[iv 1] [(.int (1 : Int32))]) (fun _ k => XS.iloadN X0.here hx rfl (hb hby own_d_jdk_52_method_3_12) rfl k) ?_
  refine own_to (mkF m 15 #[iv 1] [(.int (1073741823 : Int32)), (.int (1 : Int32))]) (X0.ldcInt hx hown (mvT hZ (hw _ (List.mem_of_getElem? (i := 78) rfl))) (g := (mkF m 13 #[iv 1] [(.int (1 : Int32))])) rfl (hb hby own_d_jdk_52_method_3_13)) ?_
  refine own_to (T' := s₁) (mkF m 55 #[iv 1] []) (fun _ k => XS.icmpYes X0.here hx rfl (pc0 := 15) (pc' := 55) rfl (hb hby own_d_jdk_52_method_3_15) rfl (tlt (by decide : (1 : Int32) < (1073741823 : Int32))).1 (by decide) (by decide) k) ?_
  refine own_to (T' := s₁) (mkF m 56 #[iv 1] [(.int (1 : Int32))]) (fun _ k => XS.iloadN X0.here hx rfl (hb hby own_d_jdk_52_method_3_55) rfl k) ?_
  refine own_to (T' := s₁) (mkF m 57 #[iv 1] [(.int (1 : Int32)), (.int (1 : Int32))]) (fun _ k => XS.iconst X0.here hx rfl (hb hby own_d_jdk_52_method_3_56) k) ?_
  refine own_to (T' := s₁) (mkF m 58 #[iv 1] [(.int (2 : Int32))]) (fun _ k => XS.ishl X0.here hx rfl (hb hby own_d_jdk_52_method_3_57) rfl k) ?_
  exact own_retI X0 hx Bd.returns hlk (hb hby own_d_jdk_52_method_3_58) (by decide) (by decide) (by rw [e0]; exact ⟨rfl, N0, rfl⟩)
def own_QNF_1 (Z : State)  (h0 : Heap) (n0 : Nat) (v : Option Value) (h : Heap) (L : List Loc) : Prop := ∃ (b : Addr) (kb : ClassId), v = some (.ref b) ∧ Fr n0 L ∧ Keep h0 h [] ∧ n0 ≤ b ∧ h0.size ≤ b ∧ Arv Z h b kb .byte (2 : Int32) [(.int (0 : Int32)), (.int (0 : Int32))] (.int (0 : Int32))
set_option maxRecDepth 65536 in
set_option maxHeartbeats 40000000 in
theorem own_rmNF_1 (l : Launch) (Z : State) (a0 : Array Value) (hw : ∀ d ∈ tables_1, d.before a0 Z = true) (ws : List Jvm.Cond)  (h0 : Heap) (n0 : Nat) (Z0 : n0 ≤ h0.size) (OL : Old Z n0 h0)  :
    MetFree l (⟨"java/lang/StringUTF16", "newBytesFor", "(I)[B"⟩ : MethodName) (head1 (Jvm.Cond.code (⟨"java/lang/StringUTF16", "newBytesFor", "(I)[B"⟩ : MethodName) jdk_52_method_2_code 1 (some (.array .byte)) :: ws) ({ frames := 1, cells := 1, slots := 2, locals := 20 } : Room)) (fun aa_ U => aa_ = #[(.int (1 : Int32))] ∧ Z.Warmed39 U.vm ∧ U.heap = h0) (fun _ _ _ _ _ => True) (fun _ U o U' => ∃ v L, o = .returned v ∧ own_QNF_1 Z  h0 n0 v U'.heap L ∧ FrameEnd U o U' L ({ frames := 1, cells := 1, slots := 2, locals := 20 } : Room).cells ({ frames := 1, cells := 1, slots := 2, locals := 20 } : Room).slots) := by
  refine MetFree.of_bodySF (plainFor_of_name own_pn0) hisR ?_
  intro p e s m args below meth c s₁ Bd hml0 hP hK
  obtain ⟨rfl, hZ, hh⟩ := hP
  have hx := Bd.exec
  have hby := Bd.bytes
  have hlk : meth.locks = false := BodyLoose.notSynchronized Bd
  have hml : c.maxLocals = 1 := hml0
  have hown : s.vm.findClass "java/lang/StringUTF16" = some m.cls := findClass_of_methodNamed Bd.named
  have hnm := (name_of_methodNamed Bd.named Bd.method).1
  have X0 : Stand p l e ({ frames := 1, cells := 1, slots := 2, locals := 20 } : Room) s m #[(.int (1 : Int32))] below meth c s₁ [] 0 0 := Stand.of_body Bd
  have e0 : s₁.heap = h0 := by rw [← hh, Bd.state]; rfl
  have N0 := Fr.nil n0
  have KP : Keep h0 h0 [] := Keep.refl _ _
  refine own_start (Fin := (own_Fin s (own_QNF_1 Z  h0 n0) ({ frames := 1, cells := 1, slots := 2, locals := 20 } : Room).cells ({ frames := 1, cells := 1, slots := 2, locals := 20 } : Room).slots)) (own_from (mkF m 0 #[iv 1] []) (castTop (own_ef_NF_1 m (1 : Int32))) ?_)
  refine own_to (T' := s₁) (mkF m 1 #[iv 1] [(.int (1 : Int32))]) (fun _ k => XS.iloadN X0.here hx rfl (hb hby own_d_jdk_52_method_2_0) rfl k) ?_
  obtain ⟨_, _, ⟨T3, L3, k3, n3⟩, -, X3, ⟨Lc3, hQ3, l3, y3, z3⟩, st3⟩ := Jvm.LawKit.callS X0 hx (y := (⟨"java/lang/StringUTF16", "newBytesLength", "(I)I"⟩ : MethodName)) hown (mvT hZ (hw _ (List.mem_of_getElem? (i := 75) rfl))) (mvT hZ (hw _ (List.mem_of_getElem? (i := 76) rfl))) (mvT hZ (hw _ (List.mem_of_getElem? (i := 18) rfl))) (mvT hZ (hw _ (List.mem_of_getElem? (i := 77) rfl))) (by decide) (backOf (W := 0) (own_rmNL_1 l Z a0 hw [] h0 n0 (Nat.le_trans Z0 KP.1) OL) hZ (hw _ (List.mem_of_getElem? (i := 77) rfl)) (hw _ (List.mem_of_getElem? (i := 18) rfl)) (by decide) (by decide)) (g := (mkF m 1 #[iv 1] [(.int (1 : Int32))])) rfl (by rw [hml]; rfl) (argsL := [(.int (1 : Int32))]) (rest := []) (lenOf own_pd0 rfl) rfl (by show 2 * 0 + _ ≤ _; exact Nat.le_of_eq rfl) (hb hby own_d_jdk_52_method_2_1) (fun _ _ => ⟨rfl, e0, (by decide : 0 + 0 ≤ _), (by decide : 0 + 0 ≤ _)⟩)
  dsimp only [Pt.U, Pt.locs, Pt.cells, Pt.slots] at X3 l3 y3 z3 st3 hQ3
  subst l3 y3 z3
  obtain ⟨rfl, N3q, e3⟩ := hQ3
  have N3 := Fr.app N0 N3q
  refine own_to (mkF m 4 #[iv 1] [(.int (2 : Int32))]) st3 ?_
  obtain ⟨T4, h4, k4, X4, e4, E4, A4, B4, st4⟩ := newPE X3 hx hZ (hw _ (List.mem_of_getElem? (i := 20) rfl)) e3 (g := (mkF m 4 #[iv 1] [(.int (2 : Int32))])) rfl (hb hby own_d_jdk_52_method_2_4) rfl (by decide) (cap := 2) (by decide) (by decide) (by decide) (by decide) (ad := "[B") (by decide)
  obtain ⟨b4, g4⟩ : ∃ z, z = h0.size := ⟨_, rfl⟩
  rw [← g4] at A4 B4 st4
  have sz_b4 : h0.size ≤ b4 := Nat.le_trans KP.1 (Nat.le_of_eq g4.symm)
  have ge_b4 : n0 ≤ b4 := Nat.le_trans Z0 sz_b4
  have OL := OL.ext E4
  have KP := KP.ext E4
  have V_b4 : Arv Z h4 b4 k4 .byte (2 : Int32) [(.int (0 : Int32)), (.int (0 : Int32))] (.int (0 : Int32)) := (Arv.new A4 (by decide)).pad (pad_rep [] (.int (0 : Int32)) 2)
  refine own_to (mkF m 6 #[iv 1] [(.ref b4)]) st4 ?_
  exact own_retA X4 hx Bd.returns rfl hlk (hb hby own_d_jdk_52_method_2_6) rfl (by decide) (by decide) (by rw [e4]; exact ⟨b4, k4, rfl, N3, KP, ge_b4, sz_b4, V_b4⟩)
def own_QPC_1_0 (Z : State) (u0 u1 cc : Int32) (G1 : Int32) (b : Addr) (kb : ClassId) (h0 : Heap) (n0 : Nat) (v : Option Value) (h : Heap) (L : List Loc) : Prop := v = none ∧ Fr n0 L ∧ Keep h0 h [b] ∧ Arv Z h b kb .byte (2 : Int32) [(.int ((cc >>> ((0 : Int32) &&& 31)).toInt8.toInt32)), (.int ((cc >>> ((8 : Int32) &&& 31)).toInt8.toInt32))] (.int (0 : Int32))
set_option maxRecDepth 65536 in
set_option maxHeartbeats 40000000 in
theorem own_rmPC_1_0 (l : Launch) (Z : State) (a0 : Array Value) (hw : ∀ d ∈ tables_1, d.before a0 Z = true) (ws : List Jvm.Cond) (u0 u1 cc : Int32) (G1 : Int32) (b : Addr) (kb : ClassId) (h0 : Heap) (n0 : Nat) (Z0 : n0 ≤ h0.size) (OL : Old Z n0 h0) (ge_b : n0 ≤ b) (Vb : Arv Z h0 b kb .byte (2 : Int32) [(.int u0), (.int u1)] (.int (0 : Int32))) (O2 : Sta Z Z.heap "java/lang/String" "COMPACT_STRINGS" "Z" (.int G1)) (P5 : ¬ (G1 = (0 : Int32))) (OAD : Sta Z Z.heap "java/lang/StringUTF16" "$assertionsDisabled" "Z" (.int (1 : Int32))) (OHI : Sta Z Z.heap "java/lang/StringUTF16" "HI_BYTE_SHIFT" "I" (.int (0 : Int32))) (OLO : Sta Z Z.heap "java/lang/StringUTF16" "LO_BYTE_SHIFT" "I" (.int (8 : Int32))) :
    MetFree l (⟨"java/lang/StringUTF16", "putChar", "([BII)V"⟩ : MethodName) (head1 (Jvm.Cond.code (⟨"java/lang/StringUTF16", "putChar", "([BII)V"⟩ : MethodName) jdk_52_method_4_code 3 none :: ws) ({ frames := 0, cells := 0, slots := 0, locals := 0 } : Room)) (fun aa_ U => aa_ = #[(.ref b), (.int (0 : Int32)), (.int cc)] ∧ Z.Warmed39 U.vm ∧ U.heap = h0) (fun _ _ _ _ _ => True) (fun _ U o U' => ∃ v L, o = .returned v ∧ own_QPC_1_0 Z u0 u1 cc G1 b kb h0 n0 v U'.heap L ∧ FrameEnd U o U' L ({ frames := 0, cells := 0, slots := 0, locals := 0 } : Room).cells ({ frames := 0, cells := 0, slots := 0, locals := 0 } : Room).slots) := by
  refine MetFree.of_bodySF (plainFor_of_name own_pn0) hisR ?_
  intro p e s m args below meth c s₁ Bd hml0 hP hK
  obtain ⟨rfl, hZ, hh⟩ := hP
  have hx := Bd.exec
  have hby := Bd.bytes
  have hlk : meth.locks = false := BodyLoose.notSynchronized Bd
  have hml : c.maxLocals = 3 := hml0
  have hown : s.vm.findClass "java/lang/StringUTF16" = some m.cls := findClass_of_methodNamed Bd.named
  have hnm := (name_of_methodNamed Bd.named Bd.method).1
  have X0 : Stand p l e ({ frames := 0, cells := 0, slots := 0, locals := 0 } : Room) s m #[(.ref b), (.int (0 : Int32)), (.int cc)] below meth c s₁ [] 0 0 := Stand.of_body Bd
  have e0 : s₁.heap = h0 := by rw [← hh, Bd.state]; rfl
  have N0 := Fr.nil n0
  have KP : Keep h0 h0 [b] := Keep.refl _ _
  refine own_start (Fin := (own_Fin s (own_QPC_1_0 Z u0 u1 cc G1 b kb h0 n0) ({ frames := 0, cells := 0, slots := 0, locals := 0 } : Room).cells ({ frames := 0, cells := 0, slots := 0, locals := 0 } : Room).slots)) (own_from (mkF m 0 #[rv b, iv 0, iv cc] []) (castTop (own_ef_PC_1_0 m b (0 : Int32) cc)) ?_)
  obtain ⟨T5, X5, e5, st5⟩ := getS2 X0 hx hZ hown (host := "") (Or.inl (hw _ (List.mem_of_getElem? (i := 82) rfl))) Via.refl e0 (OAD.ext OL.2) (g := (mkF m 0 #[rv b, iv 0, iv cc] [])) rfl (hb hby own_d_jdk_52_method_4_0)
  refine own_to (mkF m 3 #[rv b, iv 0, iv cc] [(.int (1 : Int32))]) st5 ?_
  refine own_to (T' := T5) (mkF m 28 #[rv b, iv 0, iv cc] []) (fun _ k => XS.ifYes X5.here hx rfl (pc0 := 3) (pc' := 28) rfl (hb hby own_d_jdk_52_method_4_3) rfl ((if0 _ _).trans (feq (by decide : ¬ ((1 : Int32) = (0 : Int32)))).2) (by decide) (by decide) k) ?_
  refine own_to (T' := T5) (mkF m 29 #[rv b, iv 0, iv cc] [(.int (0 : Int32))]) (fun _ k => XS.iloadN X5.here hx rfl (hb hby own_d_jdk_52_method_4_28) rfl k) ?_
  refine own_to (T' := T5) (mkF m 30 #[rv b, iv 0, iv cc] [(.int (1 : Int32)), (.int (0 : Int32))]) (fun _ k => XS.iconst X5.here hx rfl (hb hby own_d_jdk_52_method_4_29) k) ?_
  refine own_to (T' := T5) (mkF m 31 #[rv b, iv 0, iv cc] [(.int (0 : Int32))]) (fun _ k => XS.ishl X5.here hx rfl (hb hby own_d_jdk_52_method_4_30) rfl k) ?_
  refine own_to (T' := T5) (mkF m 32 #[rv b, iv 0, iv cc] []) (fun _ k => XS.istoreN X5.here hx rfl (hb hby own_d_jdk_52_method_4_31) rfl (l' := #[rv b, iv 0, iv cc]) rfl k) ?_
  refine own_to (T' := T5) (mkF m 33 #[rv b, iv 0, iv cc] [(.ref b)]) (fun _ k => XS.aloadN X5.here hx rfl (hb hby own_d_jdk_52_method_4_32) rfl rfl k) ?_
  refine own_to (T' := T5) (mkF m 34 #[rv b, iv 0, iv cc] [(.int (0 : Int32)), (.ref b)]) (fun _ k => XS.iloadN X5.here hx rfl (hb hby own_d_jdk_52_method_4_33) rfl k) ?_
  refine own_to (T' := T5) (mkF m 37 #[rv b, iv 1, iv cc] [(.int (0 : Int32)), (.ref b)]) (fun _ k => XS.iinc X5.here hx rfl (hb hby own_d_jdk_52_method_4_34) rfl (l' := #[rv b, iv 1, iv cc]) rfl k) ?_
  refine own_to (T' := T5) (mkF m 38 #[rv b, iv 1, iv cc] [(.int cc), (.int (0 : Int32)), (.ref b)]) (fun _ k => XS.iloadN X5.here hx rfl (hb hby own_d_jdk_52_method_4_37) rfl k) ?_
  obtain ⟨T6, X6, e6, st6⟩ := getS2 X5 hx hZ hown (host := "") (Or.inl (hw _ (List.mem_of_getElem? (i := 83) rfl))) Via.refl e5 (OHI.ext OL.2) (g := (mkF m 38 #[rv b, iv 1, iv cc] [(.int cc), (.int (0 : Int32)), (.ref b)])) rfl (hb hby own_d_jdk_52_method_4_38)
  refine own_to (mkF m 41 #[rv b, iv 1, iv cc] [(.int (0 : Int32)), (.int cc), (.int (0 : Int32)), (.ref b)]) st6 ?_
  refine own_to (T' := T6) (mkF m 42 #[rv b, iv 1, iv cc] [(.int (cc >>> ((0 : Int32) &&& 31))), (.int (0 : Int32)), (.ref b)]) (fun _ k => XS.ishr X6.here hx rfl (hb hby own_d_jdk_52_method_4_41) rfl k) ?_
  refine own_to (T' := T6) (mkF m 43 #[rv b, iv 1, iv cc] [(.int ((cc >>> ((0 : Int32) &&& 31)).toInt8.toInt32)), (.int (0 : Int32)), (.ref b)]) (fun _ k => XS.i2b X6.here hx rfl (hb hby own_d_jdk_52_method_4_42) rfl k) ?_
  obtain ⟨cl7, Ar7, q7, S7, M7, H7, G7⟩ := id Vb
  obtain ⟨T7, h7, X7, e7, W7, st7⟩ := stB X6 hx hZ e6 Ar7 (j := (0 : Int32)) (inb_of S7 ⟨by decide, by decide⟩) (g := (mkF m 43 #[rv b, iv 1, iv cc] [(.int ((cc >>> ((0 : Int32) &&& 31)).toInt8.toInt32)), (.int (0 : Int32)), (.ref b)])) rfl rfl (hb hby own_d_jdk_52_method_4_43)
  refine own_to (mkF m 44 #[rv b, iv 1, iv cc] []) st7 ?_
  have N7 := Fr.snoc X7 N0 ge_b
  have tmp7 : Arv Z h7 b kb .byte (2 : Int32) [(.int (((cc >>> ((0 : Int32) &&& 31)).toInt8.toInt32).toInt8.toInt32)), (.int u1)] (.int (0 : Int32)) := Arv.set Ar7 q7 S7 M7 H7 G7 (fits_nar_byte _) W7 0 rfl (Nat.le_of_ble_eq_true rfl)
  rw [own_b8] at tmp7
  have OL := OL.wr W7 ge_b
  have KP := KP.wr W7 (Or.inl (List.mem_of_getElem? (i := 0) rfl))
  have Vb := tmp7
  refine own_to (T' := T7) (mkF m 45 #[rv b, iv 1, iv cc] [(.ref b)]) (fun _ k => XS.aloadN X7.here hx rfl (hb hby own_d_jdk_52_method_4_44) rfl rfl k) ?_
  refine own_to (T' := T7) (mkF m 46 #[rv b, iv 1, iv cc] [(.int (1 : Int32)), (.ref b)]) (fun _ k => XS.iloadN X7.here hx rfl (hb hby own_d_jdk_52_method_4_45) rfl k) ?_
  refine own_to (T' := T7) (mkF m 47 #[rv b, iv 1, iv cc] [(.int cc), (.int (1 : Int32)), (.ref b)]) (fun _ k => XS.iloadN X7.here hx rfl (hb hby own_d_jdk_52_method_4_46) rfl k) ?_
  obtain ⟨T8, X8, e8, st8⟩ := getS2 X7 hx hZ hown (host := "") (Or.inl (hw _ (List.mem_of_getElem? (i := 84) rfl))) Via.refl e7 (OLO.ext OL.2) (g := (mkF m 47 #[rv b, iv 1, iv cc] [(.int cc), (.int (1 : Int32)), (.ref b)])) rfl (hb hby own_d_jdk_52_method_4_47)
  refine own_to (mkF m 50 #[rv b, iv 1, iv cc] [(.int (8 : Int32)), (.int cc), (.int (1 : Int32)), (.ref b)]) st8 ?_
  refine own_to (T' := T8) (mkF m 51 #[rv b, iv 1, iv cc] [(.int (cc >>> ((8 : Int32) &&& 31))), (.int (1 : Int32)), (.ref b)]) (fun _ k => XS.ishr X8.here hx rfl (hb hby own_d_jdk_52_method_4_50) rfl k) ?_
  refine own_to (T' := T8) (mkF m 52 #[rv b, iv 1, iv cc] [(.int ((cc >>> ((8 : Int32) &&& 31)).toInt8.toInt32)), (.int (1 : Int32)), (.ref b)]) (fun _ k => XS.i2b X8.here hx rfl (hb hby own_d_jdk_52_method_4_51) rfl k) ?_
  obtain ⟨cl9, Ar9, q9, S9, M9, H9, G9⟩ := id Vb
  obtain ⟨T9, h9, X9, e9, W9, st9⟩ := stB X8 hx hZ e8 Ar9 (j := (1 : Int32)) (inb_of S9 ⟨by decide, by decide⟩) (g := (mkF m 52 #[rv b, iv 1, iv cc] [(.int ((cc >>> ((8 : Int32) &&& 31)).toInt8.toInt32)), (.int (1 : Int32)), (.ref b)])) rfl rfl (hb hby own_d_jdk_52_method_4_52)
  refine own_to (mkF m 53 #[rv b, iv 1, iv cc] []) st9 ?_
  have N9 := Fr.snoc X9 N7 ge_b
  have tmp9 : Arv Z h9 b kb .byte (2 : Int32) [(.int ((cc >>> ((0 : Int32) &&& 31)).toInt8.toInt32)), (.int (((cc >>> ((8 : Int32) &&& 31)).toInt8.toInt32).toInt8.toInt32))] (.int (0 : Int32)) := Arv.set Ar9 q9 S9 M9 H9 G9 (fits_nar_byte _) W9 1 rfl (Nat.le_of_ble_eq_true rfl)
  rw [own_b8] at tmp9
  have OL := OL.wr W9 ge_b
  have KP := KP.wr W9 (Or.inl (List.mem_of_getElem? (i := 0) rfl))
  have Vb := tmp9
  exact own_ret0 X9 hx Bd.returns hlk (hb hby own_d_jdk_52_method_4_53) (by decide) (by decide) (by rw [e9]; exact ⟨rfl, N9, KP, Vb⟩)
def own_QTS_1 (Z : State) (x0 : Int32) (G1 : Int32) (a : Addr) (ka : ClassId) (h0 : Heap) (n0 : Nat) (v : Option Value) (h : Heap) (L : List Loc) : Prop := ∃ (b : Addr) (kb : ClassId), v = some (.ref b) ∧ Fr n0 L ∧ Keep h0 h [] ∧ n0 ≤ b ∧ h0.size ≤ b ∧ Arv Z h b kb .byte (2 : Int32) [(.int ((x0 >>> ((0 : Int32) &&& 31)).toInt8.toInt32)), (.int ((x0 >>> ((8 : Int32) &&& 31)).toInt8.toInt32))] (.int (0 : Int32))
set_option maxRecDepth 65536 in
set_option maxHeartbeats 40000000 in
theorem own_rmTS_1 (l : Launch) (Z : State) (a0 : Array Value) (hw : ∀ d ∈ tables_1, d.before a0 Z = true) (ws : List Jvm.Cond) (x0 : Int32) (G1 : Int32) (a : Addr) (ka : ClassId) (h0 : Heap) (n0 : Nat) (Z0 : n0 ≤ h0.size) (OL : Old Z n0 h0) (Va : Arv Z h0 a ka .char (1 : Int32) [(.int x0)] (.int (0 : Int32))) (O2 : Sta Z Z.heap "java/lang/String" "COMPACT_STRINGS" "Z" (.int G1)) (P5 : ¬ (G1 = (0 : Int32))) (OAD : Sta Z Z.heap "java/lang/StringUTF16" "$assertionsDisabled" "Z" (.int (1 : Int32))) (OHI : Sta Z Z.heap "java/lang/StringUTF16" "HI_BYTE_SHIFT" "I" (.int (0 : Int32))) (OLO : Sta Z Z.heap "java/lang/StringUTF16" "LO_BYTE_SHIFT" "I" (.int (8 : Int32))) :
    MetFree l (⟨"java/lang/StringUTF16", "toBytes", "([CII)[B"⟩ : MethodName) (head1 (Jvm.Cond.code (⟨"java/lang/StringUTF16", "toBytes", "([CII)[B"⟩ : MethodName) jdk_52_method_14_code 5 (some (.array .byte)) :: ws) ({ frames := 2, cells := 1, slots := 2, locals := 40 } : Room)) (fun aa_ U => aa_ = #[(.ref a), (.int (0 : Int32)), (.int (1 : Int32))] ∧ Z.Warmed39 U.vm ∧ U.heap = h0) (fun _ _ _ _ _ => True) (fun _ U o U' => ∃ v L, o = .returned v ∧ own_QTS_1 Z x0 G1 a ka h0 n0 v U'.heap L ∧ FrameEnd U o U' L ({ frames := 2, cells := 1, slots := 2, locals := 40 } : Room).cells ({ frames := 2, cells := 1, slots := 2, locals := 40 } : Room).slots) := by
  refine MetFree.of_bodySF (plainFor_of_name own_pn0) hisR ?_
  intro p e s m args below meth c s₁ Bd hml0 hP hK
  obtain ⟨rfl, hZ, hh⟩ := hP
  have hx := Bd.exec
  have hby := Bd.bytes
  have hlk : meth.locks = false := BodyLoose.notSynchronized Bd
  have hml : c.maxLocals = 5 := hml0
  have hown : s.vm.findClass "java/lang/StringUTF16" = some m.cls := findClass_of_methodNamed Bd.named
  have hnm := (name_of_methodNamed Bd.named Bd.method).1
  have X0 : Stand p l e ({ frames := 2, cells := 1, slots := 2, locals := 40 } : Room) s m #[(.ref a), (.int (0 : Int32)), (.int (1 : Int32))] below meth c s₁ [] 0 0 := Stand.of_body Bd
  have e0 : s₁.heap = h0 := by rw [← hh, Bd.state]; rfl
  have N0 := Fr.nil n0
  have KP : Keep h0 h0 [] := Keep.refl _ _
  refine own_start (Fin := (own_Fin s (own_QTS_1 Z x0 G1 a ka h0 n0) ({ frames := 2, cells := 1, slots := 2, locals := 40 } : Room).cells ({ frames := 2, cells := 1, slots := 2, locals := 40 } : Room).slots)) (own_from (mkF m 0 #[rv a, iv 0, iv 1, .unset, .unset] []) (castTop (own_ef_TS_1 m a (0 : Int32) (1 : Int32))) ?_)
  refine own_to (T' := s₁) (mkF m 1 #[rv a, iv 0, iv 1, .unset, .unset] [(.int (1 : Int32))]) (fun _ k => XS.iloadN X0.here hx rfl (hb hby own_d_jdk_52_method_14_0) rfl k) ?_
  have KP0 := KP
  have lt0_a := Va.lt
  obtain ⟨_, _, ⟨T10, L10, k10, n10⟩, -, X10, ⟨Lc10, hQ10, l10, y10, z10⟩, st10⟩ := Jvm.LawKit.callS X0 hx (y := (⟨"java/lang/StringUTF16", "newBytesFor", "(I)[B"⟩ : MethodName)) hown (mvT hZ (hw _ (List.mem_of_getElem? (i := 72) rfl))) (mvT hZ (hw _ (List.mem_of_getElem? (i := 73) rfl))) (mvT hZ (hw _ (List.mem_of_getElem? (i := 18) rfl))) (mvT hZ (hw _ (List.mem_of_getElem? (i := 74) rfl))) (by decide) (backOf (W := 0) (own_rmNF_1 l Z a0 hw [] h0 n0 (Nat.le_trans Z0 KP.1) OL) hZ (hw _ (List.mem_of_getElem? (i := 74) rfl)) (hw _ (List.mem_of_getElem? (i := 18) rfl)) (by decide) (by decide)) (g := (mkF m 1 #[rv a, iv 0, iv 1, .unset, .unset] [(.int (1 : Int32))])) rfl (by rw [hml]; rfl) (argsL := [(.int (1 : Int32))]) (rest := []) (lenOf own_pd1 rfl) rfl (by show 2 * 0 + _ ≤ _; exact Nat.le_of_eq rfl) (hb hby own_d_jdk_52_method_14_1) (fun _ _ => ⟨rfl, e0, (by decide : 0 + 1 ≤ _), (by decide : 0 + 2 ≤ _)⟩)
  dsimp only [Pt.U, Pt.locs, Pt.cells, Pt.slots] at X10 l10 y10 z10 st10 hQ10
  subst l10 y10 z10
  obtain ⟨bu, kbu, rfl, N10q, K10, ge_bu, sz0_bu, V0_bu⟩ := hQ10
  have N10 := Fr.app N0 N10q
  have OL := OL.keep K10 all0
  have KP := KP.trans K10 all0
  have Va := Va.keep K10 nin0
  refine own_to (mkF m 4 #[rv a, iv 0, iv 1, .unset, .unset] [(.ref bu)]) st10 ?_
  have sz_bu : h0.size ≤ bu := Nat.le_trans KP0.1 sz0_bu
  have ne_a_bu : a ≠ bu := Nat.ne_of_lt (Nat.lt_of_lt_of_le lt0_a sz0_bu)
  have Vu : Arv Z T10.heap bu kbu .byte (2 : Int32) [(.int (0 : Int32)), (.int (0 : Int32))] (.int (0 : Int32)) := V0_bu
  refine own_to (T' := T10) (mkF m 5 #[rv a, iv 0, iv 1, rv bu, .unset] []) (fun _ k => XS.astoreN X10.here hx rfl (hb hby own_d_jdk_52_method_14_4) rfl rfl (l' := #[rv a, iv 0, iv 1, rv bu, .unset]) rfl k) ?_
  refine own_to (T' := T10) (mkF m 6 #[rv a, iv 0, iv 1, rv bu, .unset] [(.int (0 : Int32))]) (fun _ k => XS.iconst X10.here hx rfl (hb hby own_d_jdk_52_method_14_5) k) ?_
  refine own_to (T' := T10) (mkF m 8 #[rv a, iv 0, iv 1, rv bu, iv 0] []) (fun _ k => XS.istore X10.here hx rfl (hb hby own_d_jdk_52_method_14_6) rfl (l' := #[rv a, iv 0, iv 1, rv bu, iv 0]) rfl k) ?_
  refine own_to (T' := T10) (mkF m 10 #[rv a, iv 0, iv 1, rv bu, iv 0] [(.int (0 : Int32))]) (fun _ k => XS.iload X10.here hx rfl (hb hby own_d_jdk_52_method_14_8) rfl k) ?_
  refine own_to (T' := T10) (mkF m 11 #[rv a, iv 0, iv 1, rv bu, iv 0] [(.int (1 : Int32)), (.int (0 : Int32))]) (fun _ k => XS.iloadN X10.here hx rfl (hb hby own_d_jdk_52_method_14_10) rfl k) ?_
  refine own_to (T' := T10) (mkF m 14 #[rv a, iv 0, iv 1, rv bu, iv 0] []) (fun _ k => XS.icmpNo X10.here hx rfl (hb hby own_d_jdk_52_method_14_11) rfl (tlt (by decide : (0 : Int32) < (1 : Int32))).2.1 k) ?_
  refine own_to (T' := T10) (mkF m 15 #[rv a, iv 0, iv 1, rv bu, iv 0] [(.ref bu)]) (fun _ k => XS.aloadN X10.here hx rfl (hb hby own_d_jdk_52_method_14_14) rfl rfl k) ?_
  refine own_to (T' := T10) (mkF m 17 #[rv a, iv 0, iv 1, rv bu, iv 0] [(.int (0 : Int32)), (.ref bu)]) (fun _ k => XS.iload X10.here hx rfl (hb hby own_d_jdk_52_method_14_15) rfl k) ?_
  refine own_to (T' := T10) (mkF m 18 #[rv a, iv 0, iv 1, rv bu, iv 0] [(.ref a), (.int (0 : Int32)), (.ref bu)]) (fun _ k => XS.aloadN X10.here hx rfl (hb hby own_d_jdk_52_method_14_17) rfl rfl k) ?_
  refine own_to (T' := T10) (mkF m 19 #[rv a, iv 0, iv 1, rv bu, iv 0] [(.int (0 : Int32)), (.ref a), (.int (0 : Int32)), (.ref bu)]) (fun _ k => XS.iloadN X10.here hx rfl (hb hby own_d_jdk_52_method_14_18) rfl k) ?_
  obtain ⟨cl11, Ar11, -, S11, -, H11, -⟩ := id Va
  refine own_to (mkF m 20 #[rv a, iv 0, iv 1, rv bu, iv 0] [(.int x0), (.int (0 : Int32)), (.ref bu)]) (X10.caload hx (j := (0 : Int32)) (v := (.int x0)) Ar11.1 (State.isArrayOf_alike hZ.alike Ar11.2.1) Ar11.2.2 (inb_of S11 ⟨by decide, by decide⟩) (H11.at (inb_of S11 ⟨by decide, by decide⟩) rfl) (g := (mkF m 19 #[rv a, iv 0, iv 1, rv bu, iv 0] [(.int (0 : Int32)), (.ref a), (.int (0 : Int32)), (.ref bu)])) rfl rfl (hb hby own_d_jdk_52_method_14_19)) ?_
  obtain ⟨_, _, ⟨T12, L12, k12, n12⟩, -, X12, ⟨Lc12, hQ12, l12, y12, z12⟩, st12⟩ := Jvm.LawKit.callS X10 hx (y := (⟨"java/lang/StringUTF16", "putChar", "([BII)V"⟩ : MethodName)) hown (mvT hZ (hw _ (List.mem_of_getElem? (i := 79) rfl))) (mvT hZ (hw _ (List.mem_of_getElem? (i := 80) rfl))) (mvT hZ (hw _ (List.mem_of_getElem? (i := 18) rfl))) (mvT hZ (hw _ (List.mem_of_getElem? (i := 81) rfl))) (by decide) (backOf (W := 0) (own_rmPC_1_0 l Z a0 hw [] (0 : Int32) (0 : Int32) x0 G1 bu kbu T10.heap n0 (Nat.le_trans Z0 KP.1) OL ge_bu Vu O2 P5 OAD OHI OLO) hZ (hw _ (List.mem_of_getElem? (i := 81) rfl)) (hw _ (List.mem_of_getElem? (i := 18) rfl)) (by decide) (by decide)) (g := (mkF m 20 #[rv a, iv 0, iv 1, rv bu, iv 0] [(.int x0), (.int (0 : Int32)), (.ref bu)])) rfl (by rw [hml]; rfl) (argsL := [(.ref bu), (.int (0 : Int32)), (.int x0)]) (rest := []) (lenOf own_pd2 rfl) rfl (by show 2 * 0 + _ ≤ _; exact Nat.le_of_eq rfl) (hb hby own_d_jdk_52_method_14_20) (fun _ _ => ⟨rfl, rfl, (by decide : 1 + 0 ≤ _), (by decide : 2 + 0 ≤ _)⟩)
  dsimp only [Pt.U, Pt.locs, Pt.cells, Pt.slots] at X12 l12 y12 z12 st12 hQ12
  subst l12 y12 z12
  obtain ⟨rfl, N12q, K12, Vq12⟩ := hQ12
  have N12 := Fr.app N10 N12q
  have OL := OL.keep K12 (allS ge_bu all0)
  have KP := KP.trans K12 (allS (Or.inr sz_bu) all0)
  have Va := Va.keep K12 (ninS ne_a_bu nin0)
  refine own_to (mkF m 23 #[rv a, iv 0, iv 1, rv bu, iv 0] []) st12 ?_
  have Vu : Arv Z T12.heap bu kbu .byte (2 : Int32) [(.int ((x0 >>> ((0 : Int32) &&& 31)).toInt8.toInt32)), (.int ((x0 >>> ((8 : Int32) &&& 31)).toInt8.toInt32))] (.int (0 : Int32)) := Vq12
  refine own_to (T' := T12) (mkF m 26 #[rv a, iv 1, iv 1, rv bu, iv 0] []) (fun _ k => XS.iinc X12.here hx rfl (hb hby own_d_jdk_52_method_14_23) rfl (l' := #[rv a, iv 1, iv 1, rv bu, iv 0]) rfl k) ?_
  refine own_to (T' := T12) (mkF m 29 #[rv a, iv 1, iv 1, rv bu, iv 1] []) (fun _ k => XS.iinc X12.here hx rfl (hb hby own_d_jdk_52_method_14_26) rfl (l' := #[rv a, iv 1, iv 1, rv bu, iv 1]) rfl k) ?_
  refine own_to (T' := T12) (mkF m 8 #[rv a, iv 1, iv 1, rv bu, iv 1] []) (fun _ k => XS.goto X12.here hx rfl (pc0 := 29) (pc' := 8) rfl (hb hby own_d_jdk_52_method_14_29) (by decide) (by decide) k) ?_
  refine own_to (T' := T12) (mkF m 10 #[rv a, iv 1, iv 1, rv bu, iv 1] [(.int (1 : Int32))]) (fun _ k => XS.iload X12.here hx rfl (hb hby own_d_jdk_52_method_14_8) rfl k) ?_
  refine own_to (T' := T12) (mkF m 11 #[rv a, iv 1, iv 1, rv bu, iv 1] [(.int (1 : Int32)), (.int (1 : Int32))]) (fun _ k => XS.iloadN X12.here hx rfl (hb hby own_d_jdk_52_method_14_10) rfl k) ?_
  refine own_to (T' := T12) (mkF m 32 #[rv a, iv 1, iv 1, rv bu, iv 1] []) (fun _ k => XS.icmpYes X12.here hx rfl (pc0 := 11) (pc' := 32) rfl (hb hby own_d_jdk_52_method_14_11) rfl (flt (by decide : ¬ ((1 : Int32) < (1 : Int32)))).2.1 (by decide) (by decide) k) ?_
  refine own_to (T' := T12) (mkF m 33 #[rv a, iv 1, iv 1, rv bu, iv 1] [(.ref bu)]) (fun _ k => XS.aloadN X12.here hx rfl (hb hby own_d_jdk_52_method_14_32) rfl rfl k) ?_
  exact own_retA X12 hx Bd.returns rfl hlk (hb hby own_d_jdk_52_method_14_33) rfl (by decide) (by decide) (by exact ⟨bu, kbu, rfl, N12, KP, ge_bu, sz_bu, Vu⟩)
def own_QGC_1_0 (Z : State) (x0 : Int32) (G1 : Int32) (b : Addr) (kb : ClassId) (h0 : Heap) (n0 : Nat) (v : Option Value) (h : Heap) (L : List Loc) : Prop := v = some (.int x0) ∧ Fr n0 L ∧ h = h0
set_option maxRecDepth 65536 in
set_option maxHeartbeats 40000000 in
theorem own_rmGC_1_0 (l : Launch) (Z : State) (a0 : Array Value) (hw : ∀ d ∈ tables_1, d.before a0 Z = true) (ws : List Jvm.Cond) (x0 : Int32) (G1 : Int32) (b : Addr) (kb : ClassId) (h0 : Heap) (n0 : Nat) (Z0 : n0 ≤ h0.size) (OL : Old Z n0 h0) (hx0 : own_C16 x0) (Vb : Arv Z h0 b kb .byte (2 : Int32) [(.int ((x0 >>> ((0 : Int32) &&& 31)).toInt8.toInt32)), (.int ((x0 >>> ((8 : Int32) &&& 31)).toInt8.toInt32))] (.int (0 : Int32))) (O2 : Sta Z Z.heap "java/lang/String" "COMPACT_STRINGS" "Z" (.int G1)) (P5 : ¬ (G1 = (0 : Int32))) (OAD : Sta Z Z.heap "java/lang/StringUTF16" "$assertionsDisabled" "Z" (.int (1 : Int32))) (OHI : Sta Z Z.heap "java/lang/StringUTF16" "HI_BYTE_SHIFT" "I" (.int (0 : Int32))) (OLO : Sta Z Z.heap "java/lang/StringUTF16" "LO_BYTE_SHIFT" "I" (.int (8 : Int32))) :
    MetFree l (⟨"java/lang/StringUTF16", "getChar", "([BI)C"⟩ : MethodName) (head1 (Jvm.Cond.code (⟨"java/lang/StringUTF16", "getChar", "([BI)C"⟩ : MethodName) jdk_52_method_5_code 2 (some .char) :: ws) ({ frames := 0, cells := 0, slots := 0, locals := 0 } : Room)) (fun aa_ U => aa_ = #[(.ref b), (.int (0 : Int32))] ∧ Z.Warmed39 U.vm ∧ U.heap = h0) (fun _ _ _ _ _ => True) (fun _ U o U' => ∃ v L, o = .returned v ∧ own_QGC_1_0 Z x0 G1 b kb h0 n0 v U'.heap L ∧ FrameEnd U o U' L ({ frames := 0, cells := 0, slots := 0, locals := 0 } : Room).cells ({ frames := 0, cells := 0, slots := 0, locals := 0 } : Room).slots) := by
  refine MetFree.of_bodySF (plainFor_of_name own_pn0) hisR ?_
  intro p e s m args below meth c s₁ Bd hml0 hP hK
  obtain ⟨rfl, hZ, hh⟩ := hP
  have hx := Bd.exec
  have hby := Bd.bytes
  have hlk : meth.locks = false := BodyLoose.notSynchronized Bd
  have hml : c.maxLocals = 2 := hml0
  have hown : s.vm.findClass "java/lang/StringUTF16" = some m.cls := findClass_of_methodNamed Bd.named
  have hnm := (name_of_methodNamed Bd.named Bd.method).1
  have X0 : Stand p l e ({ frames := 0, cells := 0, slots := 0, locals := 0 } : Room) s m #[(.ref b), (.int (0 : Int32))] below meth c s₁ [] 0 0 := Stand.of_body Bd
  have e0 : s₁.heap = h0 := by rw [← hh, Bd.state]; rfl
  have N0 := Fr.nil n0
  have KP : Keep h0 h0 [] := Keep.refl _ _
  refine own_start (Fin := (own_Fin s (own_QGC_1_0 Z x0 G1 b kb h0 n0) ({ frames := 0, cells := 0, slots := 0, locals := 0 } : Room).cells ({ frames := 0, cells := 0, slots := 0, locals := 0 } : Room).slots)) (own_from (mkF m 0 #[rv b, iv 0] []) (castTop (own_ef_GC_1_0 m b (0 : Int32))) ?_)
  obtain ⟨T13, X13, e13, st13⟩ := getS2 X0 hx hZ hown (host := "") (Or.inl (hw _ (List.mem_of_getElem? (i := 82) rfl))) Via.refl e0 (OAD.ext OL.2) (g := (mkF m 0 #[rv b, iv 0] [])) rfl (hb hby own_d_jdk_52_method_5_0)
  refine own_to (mkF m 3 #[rv b, iv 0] [(.int (1 : Int32))]) st13 ?_
  refine own_to (T' := T13) (mkF m 28 #[rv b, iv 0] []) (fun _ k => XS.ifYes X13.here hx rfl (pc0 := 3) (pc' := 28) rfl (hb hby own_d_jdk_52_method_5_3) rfl ((if0 _ _).trans (feq (by decide : ¬ ((1 : Int32) = (0 : Int32)))).2) (by decide) (by decide) k) ?_
  refine own_to (T' := T13) (mkF m 29 #[rv b, iv 0] [(.int (0 : Int32))]) (fun _ k => XS.iloadN X13.here hx rfl (hb hby own_d_jdk_52_method_5_28) rfl k) ?_
  refine own_to (T' := T13) (mkF m 30 #[rv b, iv 0] [(.int (1 : Int32)), (.int (0 : Int32))]) (fun _ k => XS.iconst X13.here hx rfl (hb hby own_d_jdk_52_method_5_29) k) ?_
  refine own_to (T' := T13) (mkF m 31 #[rv b, iv 0] [(.int (0 : Int32))]) (fun _ k => XS.ishl X13.here hx rfl (hb hby own_d_jdk_52_method_5_30) rfl k) ?_
  refine own_to (T' := T13) (mkF m 32 #[rv b, iv 0] []) (fun _ k => XS.istoreN X13.here hx rfl (hb hby own_d_jdk_52_method_5_31) rfl (l' := #[rv b, iv 0]) rfl k) ?_
  refine own_to (T' := T13) (mkF m 33 #[rv b, iv 0] [(.ref b)]) (fun _ k => XS.aloadN X13.here hx rfl (hb hby own_d_jdk_52_method_5_32) rfl rfl k) ?_
  refine own_to (T' := T13) (mkF m 34 #[rv b, iv 0] [(.int (0 : Int32)), (.ref b)]) (fun _ k => XS.iloadN X13.here hx rfl (hb hby own_d_jdk_52_method_5_33) rfl k) ?_
  refine own_to (T' := T13) (mkF m 37 #[rv b, iv 1] [(.int (0 : Int32)), (.ref b)]) (fun _ k => XS.iinc X13.here hx rfl (hb hby own_d_jdk_52_method_5_34) rfl (l' := #[rv b, iv 1]) rfl k) ?_
  obtain ⟨cl14, Ar14, -, S14, -, H14, -⟩ := id Vb
  refine own_to (mkF m 38 #[rv b, iv 1] [(.int ((x0 >>> ((0 : Int32) &&& 31)).toInt8.toInt32))]) (X13.baloadBytes hx (j := (0 : Int32)) (v := (.int ((x0 >>> ((0 : Int32) &&& 31)).toInt8.toInt32))) (by rw [e13]; exact Ar14.1) (State.isArrayOf_alike hZ.alike Ar14.2.1) Ar14.2.2 (inb_of S14 ⟨by decide, by decide⟩) (H14.at (inb_of S14 ⟨by decide, by decide⟩) rfl) (g := (mkF m 37 #[rv b, iv 1] [(.int (0 : Int32)), (.ref b)])) rfl rfl (hb hby own_d_jdk_52_method_5_37)) ?_
  refine own_to (T' := T13) (mkF m 41 #[rv b, iv 1] [(.int (255 : Int32)), (.int ((x0 >>> ((0 : Int32) &&& 31)).toInt8.toInt32))]) (fun _ k => XS.sipush X13.here hx rfl (hb hby own_d_jdk_52_method_5_38) k) ?_
  refine own_to (T' := T13) (mkF m 42 #[rv b, iv 1] [(.int (((x0 >>> ((0 : Int32) &&& 31)).toInt8.toInt32) &&& (255 : Int32)))]) (fun _ k => XS.iand X13.here hx rfl (hb hby own_d_jdk_52_method_5_41) rfl k) ?_
  obtain ⟨T15, X15, e15, st15⟩ := getS2 X13 hx hZ hown (host := "") (Or.inl (hw _ (List.mem_of_getElem? (i := 83) rfl))) Via.refl e13 (OHI.ext OL.2) (g := (mkF m 42 #[rv b, iv 1] [(.int (((x0 >>> ((0 : Int32) &&& 31)).toInt8.toInt32) &&& (255 : Int32)))])) rfl (hb hby own_d_jdk_52_method_5_42)
  refine own_to (mkF m 45 #[rv b, iv 1] [(.int (0 : Int32)), (.int (((x0 >>> ((0 : Int32) &&& 31)).toInt8.toInt32) &&& (255 : Int32)))]) st15 ?_
  refine own_to (T' := T15) (mkF m 46 #[rv b, iv 1] [(.int ((((x0 >>> ((0 : Int32) &&& 31)).toInt8.toInt32) &&& (255 : Int32)) <<< ((0 : Int32) &&& 31)))]) (fun _ k => XS.ishl X15.here hx rfl (hb hby own_d_jdk_52_method_5_45) rfl k) ?_
  refine own_to (T' := T15) (mkF m 47 #[rv b, iv 1] [(.ref b), (.int ((((x0 >>> ((0 : Int32) &&& 31)).toInt8.toInt32) &&& (255 : Int32)) <<< ((0 : Int32) &&& 31)))]) (fun _ k => XS.aloadN X15.here hx rfl (hb hby own_d_jdk_52_method_5_46) rfl rfl k) ?_
  refine own_to (T' := T15) (mkF m 48 #[rv b, iv 1] [(.int (1 : Int32)), (.ref b), (.int ((((x0 >>> ((0 : Int32) &&& 31)).toInt8.toInt32) &&& (255 : Int32)) <<< ((0 : Int32) &&& 31)))]) (fun _ k => XS.iloadN X15.here hx rfl (hb hby own_d_jdk_52_method_5_47) rfl k) ?_
  obtain ⟨cl16, Ar16, -, S16, -, H16, -⟩ := id Vb
  refine own_to (mkF m 49 #[rv b, iv 1] [(.int ((x0 >>> ((8 : Int32) &&& 31)).toInt8.toInt32)), (.int ((((x0 >>> ((0 : Int32) &&& 31)).toInt8.toInt32) &&& (255 : Int32)) <<< ((0 : Int32) &&& 31)))]) (X15.baloadBytes hx (j := (1 : Int32)) (v := (.int ((x0 >>> ((8 : Int32) &&& 31)).toInt8.toInt32))) (by rw [e15]; exact Ar16.1) (State.isArrayOf_alike hZ.alike Ar16.2.1) Ar16.2.2 (inb_of S16 ⟨by decide, by decide⟩) (H16.at (inb_of S16 ⟨by decide, by decide⟩) rfl) (g := (mkF m 48 #[rv b, iv 1] [(.int (1 : Int32)), (.ref b), (.int ((((x0 >>> ((0 : Int32) &&& 31)).toInt8.toInt32) &&& (255 : Int32)) <<< ((0 : Int32) &&& 31)))])) rfl rfl (hb hby own_d_jdk_52_method_5_48)) ?_
  refine own_to (T' := T15) (mkF m 52 #[rv b, iv 1] [(.int (255 : Int32)), (.int ((x0 >>> ((8 : Int32) &&& 31)).toInt8.toInt32)), (.int ((((x0 >>> ((0 : Int32) &&& 31)).toInt8.toInt32) &&& (255 : Int32)) <<< ((0 : Int32) &&& 31)))]) (fun _ k => XS.sipush X15.here hx rfl (hb hby own_d_jdk_52_method_5_49) k) ?_
  refine own_to (T' := T15) (mkF m 53 #[rv b, iv 1] [(.int (((x0 >>> ((8 : Int32) &&& 31)).toInt8.toInt32) &&& (255 : Int32))), (.int ((((x0 >>> ((0 : Int32) &&& 31)).toInt8.toInt32) &&& (255 : Int32)) <<< ((0 : Int32) &&& 31)))]) (fun _ k => XS.iand X15.here hx rfl (hb hby own_d_jdk_52_method_5_52) rfl k) ?_
  obtain ⟨T17, X17, e17, st17⟩ := getS2 X15 hx hZ hown (host := "") (Or.inl (hw _ (List.mem_of_getElem? (i := 84) rfl))) Via.refl e15 (OLO.ext OL.2) (g := (mkF m 53 #[rv b, iv 1] [(.int (((x0 >>> ((8 : Int32) &&& 31)).toInt8.toInt32) &&& (255 : Int32))), (.int ((((x0 >>> ((0 : Int32) &&& 31)).toInt8.toInt32) &&& (255 : Int32)) <<< ((0 : Int32) &&& 31)))])) rfl (hb hby own_d_jdk_52_method_5_53)
  refine own_to (mkF m 56 #[rv b, iv 1] [(.int (8 : Int32)), (.int (((x0 >>> ((8 : Int32) &&& 31)).toInt8.toInt32) &&& (255 : Int32))), (.int ((((x0 >>> ((0 : Int32) &&& 31)).toInt8.toInt32) &&& (255 : Int32)) <<< ((0 : Int32) &&& 31)))]) st17 ?_
  refine own_to (T' := T17) (mkF m 57 #[rv b, iv 1] [(.int ((((x0 >>> ((8 : Int32) &&& 31)).toInt8.toInt32) &&& (255 : Int32)) <<< ((8 : Int32) &&& 31))), (.int ((((x0 >>> ((0 : Int32) &&& 31)).toInt8.toInt32) &&& (255 : Int32)) <<< ((0 : Int32) &&& 31)))]) (fun _ k => XS.ishl X17.here hx rfl (hb hby own_d_jdk_52_method_5_56) rfl k) ?_
  refine own_to (T' := T17) (mkF m 58 #[rv b, iv 1] [(.int (((((x0 >>> ((0 : Int32) &&& 31)).toInt8.toInt32) &&& (255 : Int32)) <<< ((0 : Int32) &&& 31)) ||| ((((x0 >>> ((8 : Int32) &&& 31)).toInt8.toInt32) &&& (255 : Int32)) <<< ((8 : Int32) &&& 31))))]) (fun _ k => XS.ior X17.here hx rfl (hb hby own_d_jdk_52_method_5_57) rfl k) ?_
  refine own_to (T' := T17) (mkF m 59 #[rv b, iv 1] [(.int ((((((x0 >>> ((0 : Int32) &&& 31)).toInt8.toInt32) &&& (255 : Int32)) <<< ((0 : Int32) &&& 31)) ||| ((((x0 >>> ((8 : Int32) &&& 31)).toInt8.toInt32) &&& (255 : Int32)) <<< ((8 : Int32) &&& 31))).toUInt32.toUInt16.toUInt32.toInt32))]) (fun _ k => XS.i2c X17.here hx rfl (hb hby own_d_jdk_52_method_5_58) rfl k) ?_
  exact own_retN X17 hx (t := .char) Bd.returns (by simp) hlk (hb hby own_d_jdk_52_method_5_59) (by decide) (by decide) (by rw [e17]; exact ⟨by rw [own_hi hx0, own_nar16 hx0], N0, rfl⟩)
def own_QC3_1 (Z : State) (x0 : Int32) (G1 : Int32) (a : Addr) (ka : ClassId) (h0 : Heap) (n0 : Nat) (v : Option Value) (h : Heap) (L : List Loc) : Prop := ∃ (b : Addr) (kb : ClassId), v = some (.ref b) ∧ Fr n0 L ∧ Keep h0 h [] ∧ n0 ≤ b ∧ h0.size ≤ b ∧ ((¬ ((255 : Int32) < x0) ∧ Arv Z h b kb .byte (1 : Int32) [(.int (x0.toInt8.toInt32))] (.int (0 : Int32))) ∨ Arv Z h b kb .byte (2 : Int32) [(.int ((x0 >>> ((0 : Int32) &&& 31)).toInt8.toInt32)), (.int ((x0 >>> ((8 : Int32) &&& 31)).toInt8.toInt32))] (.int (0 : Int32)))
set_option maxRecDepth 65536 in
set_option maxHeartbeats 40000000 in
theorem own_rmC3_1 (l : Launch) (Z : State) (a0 : Array Value) (hw : ∀ d ∈ tables_1, d.before a0 Z = true) (ws : List Jvm.Cond) (x0 : Int32) (G1 : Int32) (a : Addr) (ka : ClassId) (h0 : Heap) (n0 : Nat) (Z0 : n0 ≤ h0.size) (OL : Old Z n0 h0) (hx0 : own_C16 x0) (Va : Arv Z h0 a ka .char (1 : Int32) [(.int x0)] (.int (0 : Int32))) (O2 : Sta Z Z.heap "java/lang/String" "COMPACT_STRINGS" "Z" (.int G1)) (P5 : ¬ (G1 = (0 : Int32))) (OAD : Sta Z Z.heap "java/lang/StringUTF16" "$assertionsDisabled" "Z" (.int (1 : Int32))) (OHI : Sta Z Z.heap "java/lang/StringUTF16" "HI_BYTE_SHIFT" "I" (.int (0 : Int32))) (OLO : Sta Z Z.heap "java/lang/StringUTF16" "LO_BYTE_SHIFT" "I" (.int (8 : Int32))) :
    MetFree l (⟨"java/lang/StringUTF16", "compress", "([CII)[B"⟩ : MethodName) (head1 (Jvm.Cond.code (⟨"java/lang/StringUTF16", "compress", "([CII)[B"⟩ : MethodName) jdk_52_method_16_code 6 (some (.array .byte)) :: ws) ({ frames := 3, cells := 2, slots := 3, locals := 70 } : Room)) (fun aa_ U => aa_ = #[(.ref a), (.int (0 : Int32)), (.int (1 : Int32))] ∧ Z.Warmed39 U.vm ∧ U.heap = h0) (fun _ _ _ _ _ => True) (fun _ U o U' => ∃ v L, o = .returned v ∧ own_QC3_1 Z x0 G1 a ka h0 n0 v U'.heap L ∧ FrameEnd U o U' L ({ frames := 3, cells := 2, slots := 3, locals := 70 } : Room).cells ({ frames := 3, cells := 2, slots := 3, locals := 70 } : Room).slots) := by
  refine MetFree.of_bodySF (plainFor_of_name own_pn0) hisR ?_
  intro p e s m args below meth c s₁ Bd hml0 hP hK
  obtain ⟨rfl, hZ, hh⟩ := hP
  have hx := Bd.exec
  have hby := Bd.bytes
  have hlk : meth.locks = false := BodyLoose.notSynchronized Bd
  have hml : c.maxLocals = 6 := hml0
  have hown : s.vm.findClass "java/lang/StringUTF16" = some m.cls := findClass_of_methodNamed Bd.named
  have hnm := (name_of_methodNamed Bd.named Bd.method).1
  have X0 : Stand p l e ({ frames := 3, cells := 2, slots := 3, locals := 70 } : Room) s m #[(.ref a), (.int (0 : Int32)), (.int (1 : Int32))] below meth c s₁ [] 0 0 := Stand.of_body Bd
  have e0 : s₁.heap = h0 := by rw [← hh, Bd.state]; rfl
  have N0 := Fr.nil n0
  have KP : Keep h0 h0 [] := Keep.refl _ _
  refine own_start (Fin := (own_Fin s (own_QC3_1 Z x0 G1 a ka h0 n0) ({ frames := 3, cells := 2, slots := 3, locals := 70 } : Room).cells ({ frames := 3, cells := 2, slots := 3, locals := 70 } : Room).slots)) (own_from (mkF m 0 #[rv a, iv 0, iv 1, .unset, .unset, .unset] []) (castTop (own_ef_C3_1 m a (0 : Int32) (1 : Int32))) ?_)
  refine own_to (T' := s₁) (mkF m 1 #[rv a, iv 0, iv 1, .unset, .unset, .unset] [(.int (1 : Int32))]) (fun _ k => XS.iloadN X0.here hx rfl (hb hby own_d_jdk_52_method_16_0) rfl k) ?_
  obtain ⟨T18, h18, k18, X18, e18, E18, A18, B18, st18⟩ := newPE X0 hx hZ (hw _ (List.mem_of_getElem? (i := 20) rfl)) e0 (g := (mkF m 1 #[rv a, iv 0, iv 1, .unset, .unset, .unset] [(.int (1 : Int32))])) rfl (hb hby own_d_jdk_52_method_16_1) rfl (by decide) (cap := 1) (by decide) (by decide) (by decide) (by decide) (ad := "[B") (by decide)
  obtain ⟨b18, g18⟩ : ∃ z, z = h0.size := ⟨_, rfl⟩
  rw [← g18] at A18 B18 st18
  have sz_b18 : h0.size ≤ b18 := Nat.le_trans KP.1 (Nat.le_of_eq g18.symm)
  have ge_b18 : n0 ≤ b18 := Nat.le_trans Z0 sz_b18
  have ne_a_b18 : a ≠ b18 := Nat.ne_of_lt (Nat.lt_of_lt_of_le Va.lt (Nat.le_of_eq g18.symm))
  have OL := OL.ext E18
  have KP := KP.ext E18
  have Va := Va.ext E18
  have V_b18 : Arv Z h18 b18 k18 .byte (1 : Int32) [(.int (0 : Int32))] (.int (0 : Int32)) := (Arv.new A18 (by decide)).pad (pad_rep [] (.int (0 : Int32)) 1)
  refine own_to (mkF m 3 #[rv a, iv 0, iv 1, .unset, .unset, .unset] [(.ref b18)]) st18 ?_
  refine own_to (T' := T18) (mkF m 4 #[rv a, iv 0, iv 1, rv b18, .unset, .unset] []) (fun _ k => XS.astoreN X18.here hx rfl (hb hby own_d_jdk_52_method_16_3) rfl rfl (l' := #[rv a, iv 0, iv 1, rv b18, .unset, .unset]) rfl k) ?_
  refine own_to (T' := T18) (mkF m 5 #[rv a, iv 0, iv 1, rv b18, .unset, .unset] [(.ref a)]) (fun _ k => XS.aloadN X18.here hx rfl (hb hby own_d_jdk_52_method_16_4) rfl rfl k) ?_
  refine own_to (T' := T18) (mkF m 6 #[rv a, iv 0, iv 1, rv b18, .unset, .unset] [(.int (0 : Int32)), (.ref a)]) (fun _ k => XS.iloadN X18.here hx rfl (hb hby own_d_jdk_52_method_16_5) rfl k) ?_
  refine own_to (T' := T18) (mkF m 7 #[rv a, iv 0, iv 1, rv b18, .unset, .unset] [(.ref b18), (.int (0 : Int32)), (.ref a)]) (fun _ k => XS.aloadN X18.here hx rfl (hb hby own_d_jdk_52_method_16_6) rfl rfl k) ?_
  refine own_to (T' := T18) (mkF m 8 #[rv a, iv 0, iv 1, rv b18, .unset, .unset] [(.int (0 : Int32)), (.ref b18), (.int (0 : Int32)), (.ref a)]) (fun _ k => XS.iconst X18.here hx rfl (hb hby own_d_jdk_52_method_16_7) k) ?_
  refine own_to (T' := T18) (mkF m 9 #[rv a, iv 0, iv 1, rv b18, .unset, .unset] [(.int (1 : Int32)), (.int (0 : Int32)), (.ref b18), (.int (0 : Int32)), (.ref a)]) (fun _ k => XS.iloadN X18.here hx rfl (hb hby own_d_jdk_52_method_16_8) rfl k) ?_
  obtain ⟨_, _, ⟨T19, L19, k19, n19⟩, -, X19, ⟨Lc19, hQ19, l19, y19, z19⟩, st19⟩ := Jvm.LawKit.callS X18 hx (y := (⟨"java/lang/StringUTF16", "compress", "([CI[BII)I"⟩ : MethodName)) hown (mvT hZ (hw _ (List.mem_of_getElem? (i := 21) rfl))) (mvT hZ (hw _ (List.mem_of_getElem? (i := 22) rfl))) (mvT hZ (hw _ (List.mem_of_getElem? (i := 18) rfl))) (mvT hZ (hw _ (List.mem_of_getElem? (i := 23) rfl))) (by decide) (backOf (W := 0) (own_rmC5_1 l Z a0 hw [] x0 a ka b18 k18 h18 n0 (Nat.le_trans Z0 KP.1) OL ne_a_b18 ge_b18 Va V_b18) hZ (hw _ (List.mem_of_getElem? (i := 23) rfl)) (hw _ (List.mem_of_getElem? (i := 18) rfl)) (by decide) (by decide)) (g := (mkF m 9 #[rv a, iv 0, iv 1, rv b18, .unset, .unset] [(.int (1 : Int32)), (.int (0 : Int32)), (.ref b18), (.int (0 : Int32)), (.ref a)])) rfl (by rw [hml]; rfl) (argsL := [(.ref a), (.int (0 : Int32)), (.ref b18), (.int (0 : Int32)), (.int (1 : Int32))]) (rest := []) (lenOf own_pd3 rfl) rfl (by show 2 * 0 + _ ≤ _; exact Nat.le_of_eq rfl) (hb hby own_d_jdk_52_method_16_9) (fun _ _ => ⟨rfl, e18, (by decide : 1 + 0 ≤ _), (by decide : 1 + 0 ≤ _)⟩)
  dsimp only [Pt.U, Pt.locs, Pt.cells, Pt.slots] at X19 l19 y19 z19 st19 hQ19
  subst l19 y19 z19
  obtain ⟨N19q, K19, hor19⟩ := hQ19
  have N19 := Fr.app N0 N19q
  have OL := OL.keep K19 (allS ge_b18 all0)
  have KP := KP.trans K19 (allS (Or.inr sz_b18) all0)
  have Va := Va.keep K19 (ninS ne_a_b18 nin0)
  rcases hor19 with ⟨rfl, hg0, Vg⟩ | ⟨rfl, hbad⟩
  · refine own_to (mkF m 12 #[rv a, iv 0, iv 1, rv b18, .unset, .unset] [(.int (1 : Int32))]) st19 ?_
    refine own_to (T' := T19) (mkF m 14 #[rv a, iv 0, iv 1, rv b18, iv 1, .unset] []) (fun _ k => XS.istore X19.here hx rfl (hb hby own_d_jdk_52_method_16_12) rfl (l' := #[rv a, iv 0, iv 1, rv b18, iv 1, .unset]) rfl k) ?_
    refine own_to (T' := T19) (mkF m 16 #[rv a, iv 0, iv 1, rv b18, iv 1, .unset] [(.int (1 : Int32))]) (fun _ k => XS.iload X19.here hx rfl (hb hby own_d_jdk_52_method_16_14) rfl k) ?_
    refine own_to (T' := T19) (mkF m 17 #[rv a, iv 0, iv 1, rv b18, iv 1, .unset] [(.int (1 : Int32)), (.int (1 : Int32))]) (fun _ k => XS.iloadN X19.here hx rfl (hb hby own_d_jdk_52_method_16_16) rfl k) ?_
    refine own_to (T' := T19) (mkF m 57 #[rv a, iv 0, iv 1, rv b18, iv 1, .unset] []) (fun _ k => XS.icmpYes X19.here hx rfl (pc0 := 17) (pc' := 57) rfl (hb hby own_d_jdk_52_method_16_17) rfl (teq (by decide : (1 : Int32) = (1 : Int32))).1 (by decide) (by decide) k) ?_
    refine own_to (T' := T19) (mkF m 58 #[rv a, iv 0, iv 1, rv b18, iv 1, .unset] [(.ref b18)]) (fun _ k => XS.aloadN X19.here hx rfl (hb hby own_d_jdk_52_method_16_57) rfl rfl k) ?_
    exact own_retA X19 hx Bd.returns rfl hlk (hb hby own_d_jdk_52_method_16_58) rfl (by decide) (by decide) (by exact ⟨b18, k18, rfl, N19, KP, ge_b18, sz_b18, Or.inl ⟨hg0, Vg⟩⟩)
  · refine own_to (mkF m 12 #[rv a, iv 0, iv 1, rv b18, .unset, .unset] [(.int (0 : Int32))]) st19 ?_
    refine own_to (T' := T19) (mkF m 14 #[rv a, iv 0, iv 1, rv b18, iv 0, .unset] []) (fun _ k => XS.istore X19.here hx rfl (hb hby own_d_jdk_52_method_16_12) rfl (l' := #[rv a, iv 0, iv 1, rv b18, iv 0, .unset]) rfl k) ?_
    refine own_to (T' := T19) (mkF m 16 #[rv a, iv 0, iv 1, rv b18, iv 0, .unset] [(.int (0 : Int32))]) (fun _ k => XS.iload X19.here hx rfl (hb hby own_d_jdk_52_method_16_14) rfl k) ?_
    refine own_to (T' := T19) (mkF m 17 #[rv a, iv 0, iv 1, rv b18, iv 0, .unset] [(.int (1 : Int32)), (.int (0 : Int32))]) (fun _ k => XS.iloadN X19.here hx rfl (hb hby own_d_jdk_52_method_16_16) rfl k) ?_
    refine own_to (T' := T19) (mkF m 20 #[rv a, iv 0, iv 1, rv b18, iv 0, .unset] []) (fun _ k => XS.icmpNo X19.here hx rfl (hb hby own_d_jdk_52_method_16_17) rfl (feq (by decide : ¬ ((0 : Int32) = (1 : Int32)))).1 k) ?_
    refine own_to (T' := T19) (mkF m 21 #[rv a, iv 0, iv 1, rv b18, iv 0, .unset] [(.ref a)]) (fun _ k => XS.aloadN X19.here hx rfl (hb hby own_d_jdk_52_method_16_20) rfl rfl k) ?_
    refine own_to (T' := T19) (mkF m 22 #[rv a, iv 0, iv 1, rv b18, iv 0, .unset] [(.int (0 : Int32)), (.ref a)]) (fun _ k => XS.iloadN X19.here hx rfl (hb hby own_d_jdk_52_method_16_21) rfl k) ?_
    refine own_to (T' := T19) (mkF m 23 #[rv a, iv 0, iv 1, rv b18, iv 0, .unset] [(.int (1 : Int32)), (.int (0 : Int32)), (.ref a)]) (fun _ k => XS.iloadN X19.here hx rfl (hb hby own_d_jdk_52_method_16_22) rfl k) ?_
    have KP0 := KP
    have lt0_a := Va.lt
    obtain ⟨_, _, ⟨T20, L20, k20, n20⟩, -, X20, ⟨Lc20, hQ20, l20, y20, z20⟩, st20⟩ := Jvm.LawKit.callS X19 hx (y := (⟨"java/lang/StringUTF16", "toBytes", "([CII)[B"⟩ : MethodName)) hown (mvT hZ (hw _ (List.mem_of_getElem? (i := 69) rfl))) (mvT hZ (hw _ (List.mem_of_getElem? (i := 70) rfl))) (mvT hZ (hw _ (List.mem_of_getElem? (i := 18) rfl))) (mvT hZ (hw _ (List.mem_of_getElem? (i := 71) rfl))) (by decide) (backOf (W := 0) (own_rmTS_1 l Z a0 hw [] x0 G1 a ka T19.heap n0 (Nat.le_trans Z0 KP.1) OL Va O2 P5 OAD OHI OLO) hZ (hw _ (List.mem_of_getElem? (i := 71) rfl)) (hw _ (List.mem_of_getElem? (i := 18) rfl)) (by decide) (by decide)) (g := (mkF m 23 #[rv a, iv 0, iv 1, rv b18, iv 0, .unset] [(.int (1 : Int32)), (.int (0 : Int32)), (.ref a)])) rfl (by rw [hml]; rfl) (argsL := [(.ref a), (.int (0 : Int32)), (.int (1 : Int32))]) (rest := []) (lenOf own_pd4 rfl) rfl (by show 2 * 0 + _ ≤ _; exact Nat.le_of_eq rfl) (hb hby own_d_jdk_52_method_16_23) (fun _ _ => ⟨rfl, rfl, (by decide : 1 + 1 ≤ _), (by decide : 1 + 2 ≤ _)⟩)
    dsimp only [Pt.U, Pt.locs, Pt.cells, Pt.slots] at X20 l20 y20 z20 st20 hQ20
    subst l20 y20 z20
    obtain ⟨bu, kbu, rfl, N20q, K20, ge_bu, sz0_bu, Vu⟩ := hQ20
    have N20 := Fr.app N19 N20q
    have OL := OL.keep K20 all0
    have KP := KP.trans K20 all0
    have Va := Va.keep K20 nin0
    refine own_to (mkF m 26 #[rv a, iv 0, iv 1, rv b18, iv 0, .unset] [(.ref bu)]) st20 ?_
    have sz_bu : h0.size ≤ bu := Nat.le_trans KP0.1 sz0_bu
    have ne_a_bu : a ≠ bu := Nat.ne_of_lt (Nat.lt_of_lt_of_le lt0_a sz0_bu)
    refine own_to (T' := T20) (mkF m 28 #[rv a, iv 0, iv 1, rv b18, iv 0, rv bu] []) (fun _ k => XS.astore X20.here hx rfl (hb hby own_d_jdk_52_method_16_26) rfl rfl (l' := #[rv a, iv 0, iv 1, rv b18, iv 0, rv bu]) rfl k) ?_
    refine own_to (T' := T20) (mkF m 30 #[rv a, iv 0, iv 1, rv b18, iv 0, rv bu] [(.ref bu)]) (fun _ k => XS.aload X20.here hx rfl (hb hby own_d_jdk_52_method_16_28) rfl rfl k) ?_
    refine own_to (T' := T20) (mkF m 32 #[rv a, iv 0, iv 1, rv b18, iv 0, rv bu] [(.int (0 : Int32)), (.ref bu)]) (fun _ k => XS.iload X20.here hx rfl (hb hby own_d_jdk_52_method_16_30) rfl k) ?_
    obtain ⟨_, _, ⟨T21, L21, k21, n21⟩, -, X21, ⟨Lc21, hQ21, l21, y21, z21⟩, st21⟩ := Jvm.LawKit.callS X20 hx (y := (⟨"java/lang/StringUTF16", "getChar", "([BI)C"⟩ : MethodName)) hown (mvT hZ (hw _ (List.mem_of_getElem? (i := 85) rfl))) (mvT hZ (hw _ (List.mem_of_getElem? (i := 86) rfl))) (mvT hZ (hw _ (List.mem_of_getElem? (i := 18) rfl))) (mvT hZ (hw _ (List.mem_of_getElem? (i := 87) rfl))) (by decide) (backOf (W := 0) (own_rmGC_1_0 l Z a0 hw [] x0 G1 bu kbu T20.heap n0 (Nat.le_trans Z0 KP.1) OL hx0 Vu O2 P5 OAD OHI OLO) hZ (hw _ (List.mem_of_getElem? (i := 87) rfl)) (hw _ (List.mem_of_getElem? (i := 18) rfl)) (by decide) (by decide)) (g := (mkF m 32 #[rv a, iv 0, iv 1, rv b18, iv 0, rv bu] [(.int (0 : Int32)), (.ref bu)])) rfl (by rw [hml]; rfl) (argsL := [(.ref bu), (.int (0 : Int32))]) (rest := []) (lenOf own_pd5 rfl) rfl (by show 2 * 0 + _ ≤ _; exact Nat.le_of_eq rfl) (hb hby own_d_jdk_52_method_16_32) (fun _ _ => ⟨rfl, rfl, (by decide : 2 + 0 ≤ _), (by decide : 3 + 0 ≤ _)⟩)
    dsimp only [Pt.U, Pt.locs, Pt.cells, Pt.slots] at X21 l21 y21 z21 st21 hQ21
    subst l21 y21 z21
    obtain ⟨rfl, N21q, e21⟩ := hQ21
    have N21 := Fr.app N20 N21q
    refine own_to (mkF m 35 #[rv a, iv 0, iv 1, rv b18, iv 0, rv bu] [(.int x0)]) st21 ?_
    refine own_to (T' := T21) (mkF m 38 #[rv a, iv 0, iv 1, rv b18, iv 0, rv bu] [(.int (255 : Int32)), (.int x0)]) (fun _ k => XS.sipush X21.here hx rfl (hb hby own_d_jdk_52_method_16_35) k) ?_
    refine own_to (T' := T21) (mkF m 54 #[rv a, iv 0, iv 1, rv b18, iv 0, rv bu] []) (fun _ k => XS.icmpYes X21.here hx rfl (pc0 := 38) (pc' := 54) rfl (hb hby own_d_jdk_52_method_16_38) rfl (tlt hbad).2.2.1 (by decide) (by decide) k) ?_
    refine own_to (T' := T21) (mkF m 56 #[rv a, iv 0, iv 1, rv b18, iv 0, rv bu] [(.ref bu)]) (fun _ k => XS.aload X21.here hx rfl (hb hby own_d_jdk_52_method_16_54) rfl rfl k) ?_
    exact own_retA X21 hx Bd.returns rfl hlk (hb hby own_d_jdk_52_method_16_56) rfl (by decide) (by decide) (by rw [e21]; exact ⟨bu, kbu, rfl, N21, KP, ge_bu, sz_bu, Or.inr Vu⟩)
def own_QCF_1_0 (Z : State) (x0 : Int32) (b : Addr) (kb : ClassId) (h0 : Heap) (n0 : Nat) (v : Option Value) (h : Heap) (L : List Loc) : Prop := v = some (.int (0 : Int32)) ∧ Fr n0 L ∧ h = h0
set_option maxRecDepth 65536 in
set_option maxHeartbeats 40000000 in
theorem own_rmCF_1_0 (l : Launch) (Z : State) (a0 : Array Value) (hw : ∀ d ∈ tables_1, d.before a0 Z = true) (ws : List Jvm.Cond) (x0 : Int32) (b : Addr) (kb : ClassId) (h0 : Heap) (n0 : Nat) (Z0 : n0 ≤ h0.size) (OL : Old Z n0 h0) (Vb : Arv Z h0 b kb .byte (1 : Int32) [(.int (x0.toInt8.toInt32))] (.int (0 : Int32))) :
    MetFree l (⟨"java/lang/StringUTF16", "coderFromArrayLen", "([BI)B"⟩ : MethodName) (head1 (Jvm.Cond.code (⟨"java/lang/StringUTF16", "coderFromArrayLen", "([BI)B"⟩ : MethodName) jdk_52_method_15_code 2 (some .byte) :: ws) ({ frames := 0, cells := 0, slots := 0, locals := 0 } : Room)) (fun aa_ U => aa_ = #[(.ref b), (.int (1 : Int32))] ∧ Z.Warmed39 U.vm ∧ U.heap = h0) (fun _ _ _ _ _ => True) (fun _ U o U' => ∃ v L, o = .returned v ∧ own_QCF_1_0 Z x0 b kb h0 n0 v U'.heap L ∧ FrameEnd U o U' L ({ frames := 0, cells := 0, slots := 0, locals := 0 } : Room).cells ({ frames := 0, cells := 0, slots := 0, locals := 0 } : Room).slots) := by
  refine MetFree.of_bodySF (plainFor_of_name own_pn0) hisR ?_
  intro p e s m args below meth c s₁ Bd hml0 hP hK
  obtain ⟨rfl, hZ, hh⟩ := hP
  have hx := Bd.exec
  have hby := Bd.bytes
  have hlk : meth.locks = false := BodyLoose.notSynchronized Bd
  have hml : c.maxLocals = 2 := hml0
  have hown : s.vm.findClass "java/lang/StringUTF16" = some m.cls := findClass_of_methodNamed Bd.named
  have hnm := (name_of_methodNamed Bd.named Bd.method).1
  have X0 : Stand p l e ({ frames := 0, cells := 0, slots := 0, locals := 0 } : Room) s m #[(.ref b), (.int (1 : Int32))] below meth c s₁ [] 0 0 := Stand.of_body Bd
  have e0 : s₁.heap = h0 := by rw [← hh, Bd.state]; rfl
  have N0 := Fr.nil n0
  have KP : Keep h0 h0 [] := Keep.refl _ _
  refine own_start (Fin := (own_Fin s (own_QCF_1_0 Z x0 b kb h0 n0) ({ frames := 0, cells := 0, slots := 0, locals := 0 } : Room).cells ({ frames := 0, cells := 0, slots := 0, locals := 0 } : Room).slots)) (own_from (mkF m 0 #[rv b, iv 1] []) (castTop (own_ef_CF_1_0 m b (1 : Int32))) ?_)
  refine own_to (T' := s₁) (mkF m 1 #[rv b, iv 1] [(.int (1 : Int32))]) (fun _ k => XS.iloadN X0.here hx rfl (hb hby own_d_jdk_52_method_15_0) rfl k) ?_
  refine own_to (T' := s₁) (mkF m 2 #[rv b, iv 1] [(.ref b), (.int (1 : Int32))]) (fun _ k => XS.aloadN X0.here hx rfl (hb hby own_d_jdk_52_method_15_1) rfl rfl k) ?_
  obtain ⟨cl22, Ar22, -, S22, M22, -, -⟩ := id Vb
  refine own_to (mkF m 3 #[rv b, iv 1] [(.int (1 : Int32)), (.int (1 : Int32))]) (by have q := X0.arraylength hx (by rw [e0]; exact Ar22.1) (State.isArrayOf_alike hZ.alike Ar22.2.1) (g := (mkF m 2 #[rv b, iv 1] [(.ref b), (.int (1 : Int32))])) rfl rfl (hb hby own_d_jdk_52_method_15_2); rw [len_of S22 M22] at q; exact q) ?_
  refine own_to (T' := s₁) (mkF m 4 #[rv b, iv 1] [(.int (0 : Int32))]) (fun _ k => XS.isub X0.here hx rfl (hb hby own_d_jdk_52_method_15_3) rfl k) ?_
  refine own_to (T' := s₁) (mkF m 6 #[rv b, iv 1] [(.int (31 : Int32)), (.int (0 : Int32))]) (fun _ k => XS.bipush X0.here hx rfl (hb hby own_d_jdk_52_method_15_4) k) ?_
  refine own_to (T' := s₁) (mkF m 7 #[rv b, iv 1] [(.int (0 : Int32))]) (fun _ k => XS.iushr X0.here hx rfl (hb hby own_d_jdk_52_method_15_6) rfl k) ?_
  refine own_to (T' := s₁) (mkF m 8 #[rv b, iv 1] [(.int ((0 : Int32).toInt8.toInt32))]) (fun _ k => XS.i2b X0.here hx rfl (hb hby own_d_jdk_52_method_15_7) rfl k) ?_
  exact own_retN X0 hx (t := .byte) Bd.returns (by simp) hlk (hb hby own_d_jdk_52_method_15_8) (by decide) (by decide) (by rw [e0]; exact ⟨rfl, N0, rfl⟩)
def own_QCF_1_1 (Z : State) (x0 : Int32) (b : Addr) (kb : ClassId) (h0 : Heap) (n0 : Nat) (v : Option Value) (h : Heap) (L : List Loc) : Prop := v = some (.int (1 : Int32)) ∧ Fr n0 L ∧ h = h0
set_option maxRecDepth 65536 in
set_option maxHeartbeats 40000000 in
theorem own_rmCF_1_1 (l : Launch) (Z : State) (a0 : Array Value) (hw : ∀ d ∈ tables_1, d.before a0 Z = true) (ws : List Jvm.Cond) (x0 : Int32) (b : Addr) (kb : ClassId) (h0 : Heap) (n0 : Nat) (Z0 : n0 ≤ h0.size) (OL : Old Z n0 h0) (Vb : Arv Z h0 b kb .byte (2 : Int32) [(.int ((x0 >>> ((0 : Int32) &&& 31)).toInt8.toInt32)), (.int ((x0 >>> ((8 : Int32) &&& 31)).toInt8.toInt32))] (.int (0 : Int32))) :
    MetFree l (⟨"java/lang/StringUTF16", "coderFromArrayLen", "([BI)B"⟩ : MethodName) (head1 (Jvm.Cond.code (⟨"java/lang/StringUTF16", "coderFromArrayLen", "([BI)B"⟩ : MethodName) jdk_52_method_15_code 2 (some .byte) :: ws) ({ frames := 0, cells := 0, slots := 0, locals := 0 } : Room)) (fun aa_ U => aa_ = #[(.ref b), (.int (1 : Int32))] ∧ Z.Warmed39 U.vm ∧ U.heap = h0) (fun _ _ _ _ _ => True) (fun _ U o U' => ∃ v L, o = .returned v ∧ own_QCF_1_1 Z x0 b kb h0 n0 v U'.heap L ∧ FrameEnd U o U' L ({ frames := 0, cells := 0, slots := 0, locals := 0 } : Room).cells ({ frames := 0, cells := 0, slots := 0, locals := 0 } : Room).slots) := by
  refine MetFree.of_bodySF (plainFor_of_name own_pn0) hisR ?_
  intro p e s m args below meth c s₁ Bd hml0 hP hK
  obtain ⟨rfl, hZ, hh⟩ := hP
  have hx := Bd.exec
  have hby := Bd.bytes
  have hlk : meth.locks = false := BodyLoose.notSynchronized Bd
  have hml : c.maxLocals = 2 := hml0
  have hown : s.vm.findClass "java/lang/StringUTF16" = some m.cls := findClass_of_methodNamed Bd.named
  have hnm := (name_of_methodNamed Bd.named Bd.method).1
  have X0 : Stand p l e ({ frames := 0, cells := 0, slots := 0, locals := 0 } : Room) s m #[(.ref b), (.int (1 : Int32))] below meth c s₁ [] 0 0 := Stand.of_body Bd
  have e0 : s₁.heap = h0 := by rw [← hh, Bd.state]; rfl
  have N0 := Fr.nil n0
  have KP : Keep h0 h0 [] := Keep.refl _ _
  refine own_start (Fin := (own_Fin s (own_QCF_1_1 Z x0 b kb h0 n0) ({ frames := 0, cells := 0, slots := 0, locals := 0 } : Room).cells ({ frames := 0, cells := 0, slots := 0, locals := 0 } : Room).slots)) (own_from (mkF m 0 #[rv b, iv 1] []) (castTop (own_ef_CF_1_1 m b (1 : Int32))) ?_)
  refine own_to (T' := s₁) (mkF m 1 #[rv b, iv 1] [(.int (1 : Int32))]) (fun _ k => XS.iloadN X0.here hx rfl (hb hby own_d_jdk_52_method_15_0) rfl k) ?_
  refine own_to (T' := s₁) (mkF m 2 #[rv b, iv 1] [(.ref b), (.int (1 : Int32))]) (fun _ k => XS.aloadN X0.here hx rfl (hb hby own_d_jdk_52_method_15_1) rfl rfl k) ?_
  obtain ⟨cl23, Ar23, -, S23, M23, -, -⟩ := id Vb
  refine own_to (mkF m 3 #[rv b, iv 1] [(.int (2 : Int32)), (.int (1 : Int32))]) (by have q := X0.arraylength hx (by rw [e0]; exact Ar23.1) (State.isArrayOf_alike hZ.alike Ar23.2.1) (g := (mkF m 2 #[rv b, iv 1] [(.ref b), (.int (1 : Int32))])) rfl rfl (hb hby own_d_jdk_52_method_15_2); rw [len_of S23 M23] at q; exact q) ?_
  refine own_to (T' := s₁) (mkF m 4 #[rv b, iv 1] [(.int (-1 : Int32))]) (fun _ k => XS.isub X0.here hx rfl (hb hby own_d_jdk_52_method_15_3) rfl k) ?_
  refine own_to (T' := s₁) (mkF m 6 #[rv b, iv 1] [(.int (31 : Int32)), (.int (-1 : Int32))]) (fun _ k => XS.bipush X0.here hx rfl (hb hby own_d_jdk_52_method_15_4) k) ?_
  refine own_to (T' := s₁) (mkF m 7 #[rv b, iv 1] [(.int (1 : Int32))]) (fun _ k => XS.iushr X0.here hx rfl (hb hby own_d_jdk_52_method_15_6) rfl k) ?_
  refine own_to (T' := s₁) (mkF m 8 #[rv b, iv 1] [(.int ((1 : Int32).toInt8.toInt32))]) (fun _ k => XS.i2b X0.here hx rfl (hb hby own_d_jdk_52_method_15_7) rfl k) ?_
  exact own_retN X0 hx (t := .byte) Bd.returns (by simp) hlk (hb hby own_d_jdk_52_method_15_8) (by decide) (by decide) (by rw [e0]; exact ⟨rfl, N0, rfl⟩)
def own_QI4_1 (Z : State) (x0 : Int32) (G1 : Int32) (sx a : Addr) (ka : ClassId) (h0 : Heap) (n0 : Nat) (v : Option Value) (h : Heap) (L : List Loc) : Prop := v = none ∧ Fr n0 L ∧ Keep h0 h [sx] ∧ ∃ (t : Addr) (kb : ClassId), n0 ≤ t ∧ h0.size ≤ t ∧ ((¬ ((255 : Int32) < x0) ∧ own_StrG Z h sx t kb (0 : Int32) (1 : Int32) [(.int (x0.toInt8.toInt32))]) ∨ own_StrG Z h sx t kb (1 : Int32) (2 : Int32) [(.int ((x0 >>> ((0 : Int32) &&& 31)).toInt8.toInt32)), (.int ((x0 >>> ((8 : Int32) &&& 31)).toInt8.toInt32))])
set_option maxRecDepth 65536 in
set_option maxHeartbeats 40000000 in
theorem own_rmI4_1 (l : Launch) (Z : State) (a0 : Array Value) (hw : ∀ d ∈ tables_1, d.before a0 Z = true) (ws : List Jvm.Cond) (x0 : Int32) (G1 : Int32) (sx a : Addr) (ka : ClassId) (h0 : Heap) (n0 : Nat) (Z0 : n0 ≤ h0.size) (OL : Old Z n0 h0) (ge_sx : n0 ≤ sx) (ne_sx_a : sx ≠ a) (E_sx : Exa Z h0 sx "java/lang/String") (F_value_sx : Fld Z h0 sx "java/lang/String" "value" "[B" .null) (F_coder_sx : Fld Z h0 sx "java/lang/String" "coder" "B" (.int (0 : Int32))) (hx0 : own_C16 x0) (Va : Arv Z h0 a ka .char (1 : Int32) [(.int x0)] (.int (0 : Int32))) (O2 : Sta Z Z.heap "java/lang/String" "COMPACT_STRINGS" "Z" (.int G1)) (P5 : ¬ (G1 = (0 : Int32))) (OAD : Sta Z Z.heap "java/lang/StringUTF16" "$assertionsDisabled" "Z" (.int (1 : Int32))) (OHI : Sta Z Z.heap "java/lang/StringUTF16" "HI_BYTE_SHIFT" "I" (.int (0 : Int32))) (OLO : Sta Z Z.heap "java/lang/StringUTF16" "LO_BYTE_SHIFT" "I" (.int (8 : Int32))) :
    MetFree l (⟨"java/lang/String", "<init>", "([CIILjava/lang/Void;)V"⟩ : MethodName) (head1 (Jvm.Cond.code (⟨"java/lang/String", "<init>", "([CIILjava/lang/Void;)V"⟩ : MethodName) jdk_42_method_149_code 6 none :: ws) ({ frames := 4, cells := 2, slots := 3, locals := 100 } : Room)) (fun aa_ U => aa_ = #[(.ref sx), (.ref a), (.int (0 : Int32)), (.int (1 : Int32)), .null] ∧ Z.Warmed39 U.vm ∧ U.heap = h0) (fun _ _ _ _ _ => True) (fun _ U o U' => ∃ v L, o = .returned v ∧ own_QI4_1 Z x0 G1 sx a ka h0 n0 v U'.heap L ∧ FrameEnd U o U' L ({ frames := 4, cells := 2, slots := 3, locals := 100 } : Room).cells ({ frames := 4, cells := 2, slots := 3, locals := 100 } : Room).slots) := by
  refine MetFree.of_bodySF (plainFor_of_name own_pn1) hisR ?_
  intro p e s m args below meth c s₁ Bd hml0 hP hK
  obtain ⟨rfl, hZ, hh⟩ := hP
  have hx := Bd.exec
  have hby := Bd.bytes
  have hlk : meth.locks = false := BodyLoose.notSynchronized Bd
  have hml : c.maxLocals = 6 := hml0
  have hown : s.vm.findClass "java/lang/String" = some m.cls := findClass_of_methodNamed Bd.named
  have hnm := (name_of_methodNamed Bd.named Bd.method).1
  have X0 : Stand p l e ({ frames := 4, cells := 2, slots := 3, locals := 100 } : Room) s m #[(.ref sx), (.ref a), (.int (0 : Int32)), (.int (1 : Int32)), .null] below meth c s₁ [] 0 0 := Stand.of_body Bd
  have e0 : s₁.heap = h0 := by rw [← hh, Bd.state]; rfl
  have N0 := Fr.nil n0
  have KP : Keep h0 h0 [sx] := Keep.refl _ _
  refine own_start (Fin := (own_Fin s (own_QI4_1 Z x0 G1 sx a ka h0 n0) ({ frames := 4, cells := 2, slots := 3, locals := 100 } : Room).cells ({ frames := 4, cells := 2, slots := 3, locals := 100 } : Room).slots)) (own_from (mkF m 0 #[rv sx, rv a, iv 0, iv 1, .val .null, .unset] []) (castTop (own_ef_I4_1 m sx a (0 : Int32) (1 : Int32))) ?_)
  refine own_to (T' := s₁) (mkF m 1 #[rv sx, rv a, iv 0, iv 1, .val .null, .unset] [(.ref sx)]) (fun _ k => XS.aloadN X0.here hx rfl (hb hby own_d_jdk_42_method_149_0) rfl rfl k) ?_
  obtain ⟨T24, X24, e24, st24⟩ := initO X0 hx hZ hown (hw _ (List.mem_of_getElem? (i := 12) rfl)) (hw _ (List.mem_of_getElem? (i := 13) rfl)) (hw _ (List.mem_of_getElem? (i := 14) rfl)) e0 (g := (mkF m 1 #[rv sx, rv a, iv 0, iv 1, .val .null, .unset] [(.ref sx)])) rfl (by rw [hml]; rfl) rfl (hb hby own_d_jdk_42_method_149_1) (by decide) (W := 0) (by show 2 * 0 + _ ≤ _; exact Nat.le_of_eq rfl) (by decide)
  refine own_to (mkF m 4 #[rv sx, rv a, iv 0, iv 1, .val .null, .unset] []) st24 ?_
  refine own_to (T' := T24) (mkF m 5 #[rv sx, rv a, iv 0, iv 1, .val .null, .unset] [(.int (1 : Int32))]) (fun _ k => XS.iloadN X24.here hx rfl (hb hby own_d_jdk_42_method_149_4) rfl k) ?_
  refine own_to (T' := T24) (mkF m 27 #[rv sx, rv a, iv 0, iv 1, .val .null, .unset] []) (fun _ k => XS.ifYes X24.here hx rfl (pc0 := 5) (pc' := 27) rfl (hb hby own_d_jdk_42_method_149_5) rfl ((if0 _ _).trans (feq (by decide : ¬ ((1 : Int32) = (0 : Int32)))).2) (by decide) (by decide) k) ?_
  obtain ⟨T25, X25, e25, st25⟩ := getS2 X24 hx hZ hown (host := "") (Or.inl (hw _ (List.mem_of_getElem? (i := 15) rfl))) Via.refl e24 (O2.ext OL.2) (g := (mkF m 27 #[rv sx, rv a, iv 0, iv 1, .val .null, .unset] [])) rfl (hb hby own_d_jdk_42_method_149_27)
  refine own_to (mkF m 30 #[rv sx, rv a, iv 0, iv 1, .val .null, .unset] [(.int G1)]) st25 ?_
  refine own_to (T' := T25) (mkF m 33 #[rv sx, rv a, iv 0, iv 1, .val .null, .unset] []) (fun _ k => XS.ifNo X25.here hx rfl (hb hby own_d_jdk_42_method_149_30) rfl ((if0 _ _).trans (feq P5).1) k) ?_
  refine own_to (T' := T25) (mkF m 34 #[rv sx, rv a, iv 0, iv 1, .val .null, .unset] [(.ref a)]) (fun _ k => XS.aloadN X25.here hx rfl (hb hby own_d_jdk_42_method_149_33) rfl rfl k) ?_
  refine own_to (T' := T25) (mkF m 35 #[rv sx, rv a, iv 0, iv 1, .val .null, .unset] [(.int (0 : Int32)), (.ref a)]) (fun _ k => XS.iloadN X25.here hx rfl (hb hby own_d_jdk_42_method_149_34) rfl k) ?_
  refine own_to (T' := T25) (mkF m 36 #[rv sx, rv a, iv 0, iv 1, .val .null, .unset] [(.int (1 : Int32)), (.int (0 : Int32)), (.ref a)]) (fun _ k => XS.iloadN X25.here hx rfl (hb hby own_d_jdk_42_method_149_35) rfl k) ?_
  have KP0 := KP
  have lt0_sx := E_sx.lt
  have lt0_a := Va.lt
  obtain ⟨_, _, ⟨T26, L26, k26, n26⟩, -, X26, ⟨Lc26, hQ26, l26, y26, z26⟩, st26⟩ := Jvm.LawKit.callS X25 hx (y := (⟨"java/lang/StringUTF16", "compress", "([CII)[B"⟩ : MethodName)) hown (mvT hZ (hw _ (List.mem_of_getElem? (i := 16) rfl))) (mvT hZ (hw _ (List.mem_of_getElem? (i := 17) rfl))) (mvT hZ (hw _ (List.mem_of_getElem? (i := 18) rfl))) (mvT hZ (hw _ (List.mem_of_getElem? (i := 19) rfl))) (by decide) (backOf (W := 0) (own_rmC3_1 l Z a0 hw [] x0 G1 a ka h0 n0 (Nat.le_trans Z0 KP.1) OL hx0 Va O2 P5 OAD OHI OLO) hZ (hw _ (List.mem_of_getElem? (i := 19) rfl)) (hw _ (List.mem_of_getElem? (i := 18) rfl)) (by decide) (by decide)) (g := (mkF m 36 #[rv sx, rv a, iv 0, iv 1, .val .null, .unset] [(.int (1 : Int32)), (.int (0 : Int32)), (.ref a)])) rfl (by rw [hml]; rfl) (argsL := [(.ref a), (.int (0 : Int32)), (.int (1 : Int32))]) (rest := []) (lenOf own_pd4 rfl) rfl (by show 2 * 0 + _ ≤ _; exact Nat.le_of_eq rfl) (hb hby own_d_jdk_42_method_149_36) (fun _ _ => ⟨rfl, e25, (by decide : 0 + 2 ≤ _), (by decide : 0 + 3 ≤ _)⟩)
  dsimp only [Pt.U, Pt.locs, Pt.cells, Pt.slots] at X26 l26 y26 z26 st26 hQ26
  subst l26 y26 z26
  obtain ⟨bb, kbb, rfl, N26q, K26, ge_bb, sz0_bb, hor26⟩ := hQ26
  have N26 := Fr.app N0 N26q
  have OL := OL.keep K26 all0
  have KP := KP.trans K26 all0
  have E_sx := E_sx.keep K26
  have F_value_sx := F_value_sx.keep K26 nin0
  have F_coder_sx := F_coder_sx.keep K26 nin0
  have Va := Va.keep K26 nin0
  rcases hor26 with ⟨hg0, Vb⟩ | Vb
  · refine own_to (mkF m 39 #[rv sx, rv a, iv 0, iv 1, .val .null, .unset] [(.ref bb)]) st26 ?_
    have sz_bb : h0.size ≤ bb := Nat.le_trans KP0.1 sz0_bb
    have ne_sx_bb : sx ≠ bb := Nat.ne_of_lt (Nat.lt_of_lt_of_le lt0_sx sz0_bb)
    have ne_a_bb : a ≠ bb := Nat.ne_of_lt (Nat.lt_of_lt_of_le lt0_a sz0_bb)
    refine own_to (T' := T26) (mkF m 41 #[rv sx, rv a, iv 0, iv 1, .val .null, rv bb] []) (fun _ k => XS.astore X26.here hx rfl (hb hby own_d_jdk_42_method_149_39) rfl rfl (l' := #[rv sx, rv a, iv 0, iv 1, .val .null, rv bb]) rfl k) ?_
    refine own_to (T' := T26) (mkF m 42 #[rv sx, rv a, iv 0, iv 1, .val .null, rv bb] [(.ref sx)]) (fun _ k => XS.aloadN X26.here hx rfl (hb hby own_d_jdk_42_method_149_41) rfl rfl k) ?_
    refine own_to (T' := T26) (mkF m 44 #[rv sx, rv a, iv 0, iv 1, .val .null, rv bb] [(.ref bb), (.ref sx)]) (fun _ k => XS.aload X26.here hx rfl (hb hby own_d_jdk_42_method_149_42) rfl rfl k) ?_
    refine own_to (T' := T26) (mkF m 45 #[rv sx, rv a, iv 0, iv 1, .val .null, rv bb] [(.int (1 : Int32)), (.ref bb), (.ref sx)]) (fun _ k => XS.iloadN X26.here hx rfl (hb hby own_d_jdk_42_method_149_44) rfl k) ?_
    obtain ⟨_, _, ⟨T27, L27, k27, n27⟩, -, X27, ⟨Lc27, hQ27, l27, y27, z27⟩, st27⟩ := Jvm.LawKit.callS X26 hx (y := (⟨"java/lang/StringUTF16", "coderFromArrayLen", "([BI)B"⟩ : MethodName)) hown (mvT hZ (hw _ (List.mem_of_getElem? (i := 24) rfl))) (mvT hZ (hw _ (List.mem_of_getElem? (i := 25) rfl))) (mvT hZ (hw _ (List.mem_of_getElem? (i := 18) rfl))) (mvT hZ (hw _ (List.mem_of_getElem? (i := 26) rfl))) (by decide) (backOf (W := 1) (own_rmCF_1_0 l Z a0 hw [] x0 bb kbb T26.heap n0 (Nat.le_trans Z0 KP.1) OL Vb) hZ (hw _ (List.mem_of_getElem? (i := 26) rfl)) (hw _ (List.mem_of_getElem? (i := 18) rfl)) (by decide) (by decide)) (g := (mkF m 45 #[rv sx, rv a, iv 0, iv 1, .val .null, rv bb] [(.int (1 : Int32)), (.ref bb), (.ref sx)])) rfl (by rw [hml]; rfl) (argsL := [(.ref bb), (.int (1 : Int32))]) (rest := [(.ref sx)]) (lenOf own_pd6 rfl) rfl (by show 2 * 0 + _ ≤ _; exact Nat.le_of_eq rfl) (hb hby own_d_jdk_42_method_149_45) (fun _ _ => ⟨rfl, rfl, (by decide : 2 + 0 ≤ _), (by decide : 3 + 0 ≤ _)⟩)
    dsimp only [Pt.U, Pt.locs, Pt.cells, Pt.slots] at X27 l27 y27 z27 st27 hQ27
    subst l27 y27 z27
    obtain ⟨rfl, N27q, e27⟩ := hQ27
    have N27 := Fr.app N26 N27q
    refine own_to (mkF m 48 #[rv sx, rv a, iv 0, iv 1, .val .null, rv bb] [(.int (0 : Int32)), (.ref sx)]) st27 ?_
    obtain ⟨T28, h28, X28, e28, W28, st28⟩ := putFN X27 hx hZ hown (hw _ (List.mem_of_getElem? (i := 27) rfl)) Via.refl e27 F_coder_sx E_sx (Or.inr ⟨(hw _ (List.mem_of_getElem? (i := 28) rfl)), rfl, hnm⟩) (hw _ (List.mem_of_getElem? (i := 2) rfl)) (ty := .byte) (v' := (.int (0 : Int32))) (by decide) rfl rfl (g := (mkF m 48 #[rv sx, rv a, iv 0, iv 1, .val .null, rv bb] [(.int (0 : Int32)), (.ref sx)])) rfl rfl (hb hby own_d_jdk_42_method_149_48)
    refine own_to (mkF m 51 #[rv sx, rv a, iv 0, iv 1, .val .null, rv bb] []) st28 ?_
    have N28 := Fr.snoc X28 N27 ge_sx
    have tmp28 : Fld Z h28 sx "java/lang/String" "coder" "B" (.int (0 : Int32)) := F_coder_sx.same W28
    have OL := OL.wr W28 ge_sx
    have KP := KP.wr W28 (Or.inl (List.mem_of_getElem? (i := 0) rfl))
    have E_sx := E_sx.wr W28
    have F_value_sx := F_value_sx.other W28 (Or.inr (slot_ne (Or.inr (hw _ (List.mem_of_getElem? (i := 30) rfl))) (Or.inr (hw _ (List.mem_of_getElem? (i := 28) rfl))) (by decide) (t := (.array .byte)) (t' := .byte) (by decide) (by decide)))
    have Va := Va.other W28 (Ne.symm ne_sx_a)
    have Vb := Vb.other W28 (Ne.symm ne_sx_bb)
    have F_coder_sx := tmp28
    refine own_to (T' := T28) (mkF m 52 #[rv sx, rv a, iv 0, iv 1, .val .null, rv bb] [(.ref sx)]) (fun _ k => XS.aloadN X28.here hx rfl (hb hby own_d_jdk_42_method_149_51) rfl rfl k) ?_
    refine own_to (T' := T28) (mkF m 54 #[rv sx, rv a, iv 0, iv 1, .val .null, rv bb] [(.ref bb), (.ref sx)]) (fun _ k => XS.aload X28.here hx rfl (hb hby own_d_jdk_42_method_149_52) rfl rfl k) ?_
    obtain ⟨T29, h29, X29, e29, W29, st29⟩ := putF X28 hx hZ hown (host := "") (Or.inl (hw _ (List.mem_of_getElem? (i := 29) rfl))) Via.refl e28 F_value_sx E_sx (Or.inr ⟨(hw _ (List.mem_of_getElem? (i := 30) rfl)), rfl, hnm⟩) (hw _ (List.mem_of_getElem? (i := 2) rfl)) (ty := (.array .byte)) (by decide) rfl rfl (g := (mkF m 54 #[rv sx, rv a, iv 0, iv 1, .val .null, rv bb] [(.ref bb), (.ref sx)])) rfl rfl (hb hby own_d_jdk_42_method_149_54)
    refine own_to (mkF m 57 #[rv sx, rv a, iv 0, iv 1, .val .null, rv bb] []) st29 ?_
    have N29 := Fr.snoc X29 N28 ge_sx
    have tmp29 : Fld Z h29 sx "java/lang/String" "value" "[B" (.ref bb) := F_value_sx.same W29
    have OL := OL.wr W29 ge_sx
    have KP := KP.wr W29 (Or.inl (List.mem_of_getElem? (i := 0) rfl))
    have E_sx := E_sx.wr W29
    have F_coder_sx := F_coder_sx.other W29 (Or.inr (slot_ne (Or.inr (hw _ (List.mem_of_getElem? (i := 28) rfl))) (Or.inr (hw _ (List.mem_of_getElem? (i := 30) rfl))) (by decide) (t := .byte) (t' := (.array .byte)) (by decide) (by decide)))
    have Va := Va.other W29 (Ne.symm ne_sx_a)
    have Vb := Vb.other W29 (Ne.symm ne_sx_bb)
    have F_value_sx := tmp29
    exact own_ret0 X29 hx Bd.returns hlk (hb hby own_d_jdk_42_method_149_57) (by decide) (by decide) (by rw [e29]; exact ⟨rfl, N29, KP, bb, kbb, ge_bb, sz_bb, Or.inl ⟨hg0, ⟨E_sx, F_value_sx, F_coder_sx, Vb⟩⟩⟩)
  · refine own_to (mkF m 39 #[rv sx, rv a, iv 0, iv 1, .val .null, .unset] [(.ref bb)]) st26 ?_
    have sz_bb : h0.size ≤ bb := Nat.le_trans KP0.1 sz0_bb
    have ne_sx_bb : sx ≠ bb := Nat.ne_of_lt (Nat.lt_of_lt_of_le lt0_sx sz0_bb)
    have ne_a_bb : a ≠ bb := Nat.ne_of_lt (Nat.lt_of_lt_of_le lt0_a sz0_bb)
    refine own_to (T' := T26) (mkF m 41 #[rv sx, rv a, iv 0, iv 1, .val .null, rv bb] []) (fun _ k => XS.astore X26.here hx rfl (hb hby own_d_jdk_42_method_149_39) rfl rfl (l' := #[rv sx, rv a, iv 0, iv 1, .val .null, rv bb]) rfl k) ?_
    refine own_to (T' := T26) (mkF m 42 #[rv sx, rv a, iv 0, iv 1, .val .null, rv bb] [(.ref sx)]) (fun _ k => XS.aloadN X26.here hx rfl (hb hby own_d_jdk_42_method_149_41) rfl rfl k) ?_
    refine own_to (T' := T26) (mkF m 44 #[rv sx, rv a, iv 0, iv 1, .val .null, rv bb] [(.ref bb), (.ref sx)]) (fun _ k => XS.aload X26.here hx rfl (hb hby own_d_jdk_42_method_149_42) rfl rfl k) ?_
    refine own_to (T' := T26) (mkF m 45 #[rv sx, rv a, iv 0, iv 1, .val .null, rv bb] [(.int (1 : Int32)), (.ref bb), (.ref sx)]) (fun _ k => XS.iloadN X26.here hx rfl (hb hby own_d_jdk_42_method_149_44) rfl k) ?_
    obtain ⟨_, _, ⟨T30, L30, k30, n30⟩, -, X30, ⟨Lc30, hQ30, l30, y30, z30⟩, st30⟩ := Jvm.LawKit.callS X26 hx (y := (⟨"java/lang/StringUTF16", "coderFromArrayLen", "([BI)B"⟩ : MethodName)) hown (mvT hZ (hw _ (List.mem_of_getElem? (i := 24) rfl))) (mvT hZ (hw _ (List.mem_of_getElem? (i := 25) rfl))) (mvT hZ (hw _ (List.mem_of_getElem? (i := 18) rfl))) (mvT hZ (hw _ (List.mem_of_getElem? (i := 26) rfl))) (by decide) (backOf (W := 1) (own_rmCF_1_1 l Z a0 hw [] x0 bb kbb T26.heap n0 (Nat.le_trans Z0 KP.1) OL Vb) hZ (hw _ (List.mem_of_getElem? (i := 26) rfl)) (hw _ (List.mem_of_getElem? (i := 18) rfl)) (by decide) (by decide)) (g := (mkF m 45 #[rv sx, rv a, iv 0, iv 1, .val .null, rv bb] [(.int (1 : Int32)), (.ref bb), (.ref sx)])) rfl (by rw [hml]; rfl) (argsL := [(.ref bb), (.int (1 : Int32))]) (rest := [(.ref sx)]) (lenOf own_pd6 rfl) rfl (by show 2 * 0 + _ ≤ _; exact Nat.le_of_eq rfl) (hb hby own_d_jdk_42_method_149_45) (fun _ _ => ⟨rfl, rfl, (by decide : 2 + 0 ≤ _), (by decide : 3 + 0 ≤ _)⟩)
    dsimp only [Pt.U, Pt.locs, Pt.cells, Pt.slots] at X30 l30 y30 z30 st30 hQ30
    subst l30 y30 z30
    obtain ⟨rfl, N30q, e30⟩ := hQ30
    have N30 := Fr.app N26 N30q
    refine own_to (mkF m 48 #[rv sx, rv a, iv 0, iv 1, .val .null, rv bb] [(.int (1 : Int32)), (.ref sx)]) st30 ?_
    obtain ⟨T31, h31, X31, e31, W31, st31⟩ := putFN X30 hx hZ hown (hw _ (List.mem_of_getElem? (i := 27) rfl)) Via.refl e30 F_coder_sx E_sx (Or.inr ⟨(hw _ (List.mem_of_getElem? (i := 28) rfl)), rfl, hnm⟩) (hw _ (List.mem_of_getElem? (i := 2) rfl)) (ty := .byte) (v' := (.int (1 : Int32))) (by decide) rfl rfl (g := (mkF m 48 #[rv sx, rv a, iv 0, iv 1, .val .null, rv bb] [(.int (1 : Int32)), (.ref sx)])) rfl rfl (hb hby own_d_jdk_42_method_149_48)
    refine own_to (mkF m 51 #[rv sx, rv a, iv 0, iv 1, .val .null, rv bb] []) st31 ?_
    have N31 := Fr.snoc X31 N30 ge_sx
    have tmp31 : Fld Z h31 sx "java/lang/String" "coder" "B" (.int (1 : Int32)) := F_coder_sx.same W31
    have OL := OL.wr W31 ge_sx
    have KP := KP.wr W31 (Or.inl (List.mem_of_getElem? (i := 0) rfl))
    have E_sx := E_sx.wr W31
    have F_value_sx := F_value_sx.other W31 (Or.inr (slot_ne (Or.inr (hw _ (List.mem_of_getElem? (i := 30) rfl))) (Or.inr (hw _ (List.mem_of_getElem? (i := 28) rfl))) (by decide) (t := (.array .byte)) (t' := .byte) (by decide) (by decide)))
    have Va := Va.other W31 (Ne.symm ne_sx_a)
    have Vb := Vb.other W31 (Ne.symm ne_sx_bb)
    have F_coder_sx := tmp31
    refine own_to (T' := T31) (mkF m 52 #[rv sx, rv a, iv 0, iv 1, .val .null, rv bb] [(.ref sx)]) (fun _ k => XS.aloadN X31.here hx rfl (hb hby own_d_jdk_42_method_149_51) rfl rfl k) ?_
    refine own_to (T' := T31) (mkF m 54 #[rv sx, rv a, iv 0, iv 1, .val .null, rv bb] [(.ref bb), (.ref sx)]) (fun _ k => XS.aload X31.here hx rfl (hb hby own_d_jdk_42_method_149_52) rfl rfl k) ?_
    obtain ⟨T32, h32, X32, e32, W32, st32⟩ := putF X31 hx hZ hown (host := "") (Or.inl (hw _ (List.mem_of_getElem? (i := 29) rfl))) Via.refl e31 F_value_sx E_sx (Or.inr ⟨(hw _ (List.mem_of_getElem? (i := 30) rfl)), rfl, hnm⟩) (hw _ (List.mem_of_getElem? (i := 2) rfl)) (ty := (.array .byte)) (by decide) rfl rfl (g := (mkF m 54 #[rv sx, rv a, iv 0, iv 1, .val .null, rv bb] [(.ref bb), (.ref sx)])) rfl rfl (hb hby own_d_jdk_42_method_149_54)
    refine own_to (mkF m 57 #[rv sx, rv a, iv 0, iv 1, .val .null, rv bb] []) st32 ?_
    have N32 := Fr.snoc X32 N31 ge_sx
    have tmp32 : Fld Z h32 sx "java/lang/String" "value" "[B" (.ref bb) := F_value_sx.same W32
    have OL := OL.wr W32 ge_sx
    have KP := KP.wr W32 (Or.inl (List.mem_of_getElem? (i := 0) rfl))
    have E_sx := E_sx.wr W32
    have F_coder_sx := F_coder_sx.other W32 (Or.inr (slot_ne (Or.inr (hw _ (List.mem_of_getElem? (i := 28) rfl))) (Or.inr (hw _ (List.mem_of_getElem? (i := 30) rfl))) (by decide) (t := .byte) (t' := (.array .byte)) (by decide) (by decide)))
    have Va := Va.other W32 (Ne.symm ne_sx_a)
    have Vb := Vb.other W32 (Ne.symm ne_sx_bb)
    have F_value_sx := tmp32
    exact own_ret0 X32 hx Bd.returns hlk (hb hby own_d_jdk_42_method_149_57) (by decide) (by decide) (by rw [e32]; exact ⟨rfl, N32, KP, bb, kbb, ge_bb, sz_bb, Or.inr ⟨E_sx, F_value_sx, F_coder_sx, Vb⟩⟩)
def own_QI1_1 (Z : State) (x0 : Int32) (G1 : Int32) (sx a : Addr) (ka : ClassId) (h0 : Heap) (n0 : Nat) (v : Option Value) (h : Heap) (L : List Loc) : Prop := v = none ∧ Fr n0 L ∧ Keep h0 h [sx] ∧ ∃ (t : Addr) (kb : ClassId), n0 ≤ t ∧ h0.size ≤ t ∧ ((¬ ((255 : Int32) < x0) ∧ own_StrG Z h sx t kb (0 : Int32) (1 : Int32) [(.int (x0.toInt8.toInt32))]) ∨ own_StrG Z h sx t kb (1 : Int32) (2 : Int32) [(.int ((x0 >>> ((0 : Int32) &&& 31)).toInt8.toInt32)), (.int ((x0 >>> ((8 : Int32) &&& 31)).toInt8.toInt32))])
set_option maxRecDepth 65536 in
set_option maxHeartbeats 40000000 in
theorem own_rmI1_1 (l : Launch) (Z : State) (a0 : Array Value) (hw : ∀ d ∈ tables_1, d.before a0 Z = true) (ws : List Jvm.Cond) (x0 : Int32) (G1 : Int32) (sx a : Addr) (ka : ClassId) (h0 : Heap) (n0 : Nat) (Z0 : n0 ≤ h0.size) (OL : Old Z n0 h0) (ge_sx : n0 ≤ sx) (ne_sx_a : sx ≠ a) (E_sx : Exa Z h0 sx "java/lang/String") (F_value_sx : Fld Z h0 sx "java/lang/String" "value" "[B" .null) (F_coder_sx : Fld Z h0 sx "java/lang/String" "coder" "B" (.int (0 : Int32))) (hx0 : own_C16 x0) (Va : Arv Z h0 a ka .char (1 : Int32) [(.int x0)] (.int (0 : Int32))) (O2 : Sta Z Z.heap "java/lang/String" "COMPACT_STRINGS" "Z" (.int G1)) (P5 : ¬ (G1 = (0 : Int32))) (OAD : Sta Z Z.heap "java/lang/StringUTF16" "$assertionsDisabled" "Z" (.int (1 : Int32))) (OHI : Sta Z Z.heap "java/lang/StringUTF16" "HI_BYTE_SHIFT" "I" (.int (0 : Int32))) (OLO : Sta Z Z.heap "java/lang/StringUTF16" "LO_BYTE_SHIFT" "I" (.int (8 : Int32))) :
    MetFree l (⟨"java/lang/String", "<init>", "([C)V"⟩ : MethodName) (head1 (Jvm.Cond.code (⟨"java/lang/String", "<init>", "([C)V"⟩ : MethodName) jdk_42_method_3_code 2 none :: ws) ({ frames := 5, cells := 2, slots := 3, locals := 120 } : Room)) (fun aa_ U => aa_ = #[(.ref sx), (.ref a)] ∧ Z.Warmed39 U.vm ∧ U.heap = h0) (fun _ _ _ _ _ => True) (fun _ U o U' => ∃ v L, o = .returned v ∧ own_QI1_1 Z x0 G1 sx a ka h0 n0 v U'.heap L ∧ FrameEnd U o U' L ({ frames := 5, cells := 2, slots := 3, locals := 120 } : Room).cells ({ frames := 5, cells := 2, slots := 3, locals := 120 } : Room).slots) := by
  refine MetFree.of_bodySF (plainFor_of_name own_pn1) hisR ?_
  intro p e s m args below meth c s₁ Bd hml0 hP hK
  obtain ⟨rfl, hZ, hh⟩ := hP
  have hx := Bd.exec
  have hby := Bd.bytes
  have hlk : meth.locks = false := BodyLoose.notSynchronized Bd
  have hml : c.maxLocals = 2 := hml0
  have hown : s.vm.findClass "java/lang/String" = some m.cls := findClass_of_methodNamed Bd.named
  have hnm := (name_of_methodNamed Bd.named Bd.method).1
  have X0 : Stand p l e ({ frames := 5, cells := 2, slots := 3, locals := 120 } : Room) s m #[(.ref sx), (.ref a)] below meth c s₁ [] 0 0 := Stand.of_body Bd
  have e0 : s₁.heap = h0 := by rw [← hh, Bd.state]; rfl
  have N0 := Fr.nil n0
  have KP : Keep h0 h0 [sx] := Keep.refl _ _
  refine own_start (Fin := (own_Fin s (own_QI1_1 Z x0 G1 sx a ka h0 n0) ({ frames := 5, cells := 2, slots := 3, locals := 120 } : Room).cells ({ frames := 5, cells := 2, slots := 3, locals := 120 } : Room).slots)) (own_from (mkF m 0 #[rv sx, rv a] []) (castTop (own_ef_I1_1 m sx a)) ?_)
  refine own_to (T' := s₁) (mkF m 1 #[rv sx, rv a] [(.ref sx)]) (fun _ k => XS.aloadN X0.here hx rfl (hb hby own_d_jdk_42_method_3_0) rfl rfl k) ?_
  refine own_to (T' := s₁) (mkF m 2 #[rv sx, rv a] [(.ref a), (.ref sx)]) (fun _ k => XS.aloadN X0.here hx rfl (hb hby own_d_jdk_42_method_3_1) rfl rfl k) ?_
  refine own_to (T' := s₁) (mkF m 3 #[rv sx, rv a] [(.int (0 : Int32)), (.ref a), (.ref sx)]) (fun _ k => XS.iconst X0.here hx rfl (hb hby own_d_jdk_42_method_3_2) k) ?_
  refine own_to (T' := s₁) (mkF m 4 #[rv sx, rv a] [(.ref a), (.int (0 : Int32)), (.ref a), (.ref sx)]) (fun _ k => XS.aloadN X0.here hx rfl (hb hby own_d_jdk_42_method_3_3) rfl rfl k) ?_
  obtain ⟨cl33, Ar33, -, S33, M33, -, -⟩ := id Va
  refine own_to (mkF m 5 #[rv sx, rv a] [(.int (1 : Int32)), (.int (0 : Int32)), (.ref a), (.ref sx)]) (by have q := X0.arraylength hx (by rw [e0]; exact Ar33.1) (State.isArrayOf_alike hZ.alike Ar33.2.1) (g := (mkF m 4 #[rv sx, rv a] [(.ref a), (.int (0 : Int32)), (.ref a), (.ref sx)])) rfl rfl (hb hby own_d_jdk_42_method_3_4); rw [len_of S33 M33] at q; exact q) ?_
  refine own_to (T' := s₁) (mkF m 6 #[rv sx, rv a] [.null, (.int (1 : Int32)), (.int (0 : Int32)), (.ref a), (.ref sx)]) (fun _ k => XS.aconstNull X0.here hx rfl (hb hby own_d_jdk_42_method_3_5) k) ?_
  obtain ⟨_, _, ⟨T34, L34, k34, n34⟩, -, X34, ⟨Lc34, hQ34, l34, y34, z34⟩, st34⟩ := X0.specialBack hx (y := (⟨"java/lang/String", "<init>", "([CIILjava/lang/Void;)V"⟩ : MethodName)) rfl hown (mvT hZ (hw _ (List.mem_of_getElem? (i := 8) rfl))) (mvT hZ (hw _ (List.mem_of_getElem? (i := 9) rfl))) (mvT hZ (hw _ (List.mem_of_getElem? (i := 11) rfl))) (by decide) (backOf (W := 0) (own_rmI4_1 l Z a0 hw [] x0 G1 sx a ka h0 n0 (Nat.le_trans Z0 KP.1) OL ge_sx ne_sx_a E_sx F_value_sx F_coder_sx hx0 Va O2 P5 OAD OHI OLO) hZ (hw _ (List.mem_of_getElem? (i := 11) rfl)) (hw _ (List.mem_of_getElem? (i := 3) rfl)) (by decide) (by decide)) (g := (mkF m 6 #[rv sx, rv a] [.null, (.int (1 : Int32)), (.int (0 : Int32)), (.ref a), (.ref sx)])) rfl (by rw [hml]; rfl) (Steps.refl _) (a := sx) (argsL := [(.ref a), (.int (0 : Int32)), (.int (1 : Int32)), .null]) (rest := []) (lenOf own_pd7 rfl) rfl (by show 2 * 0 + _ ≤ _; exact Nat.le_of_eq rfl) (hb hby own_d_jdk_42_method_3_6) (fun _ _ => ⟨rfl, e0, (by decide : 0 + 2 ≤ _), (by decide : 0 + 3 ≤ _)⟩)
  dsimp only [Pt.U, Pt.locs, Pt.cells, Pt.slots] at X34 l34 y34 z34 st34 hQ34
  subst l34 y34 z34
  obtain ⟨rfl, N34q, K34, hrest34⟩ := hQ34
  have N34 := Fr.app N0 N34q
  have OL := OL.keep K34 (allS ge_sx all0)
  have KP := KP.trans K34 (allS (Or.inl (List.mem_of_getElem? (i := 0) rfl)) all0)
  have Va := Va.keep K34 (ninS (Ne.symm ne_sx_a) nin0)
  refine own_via (mkF m 9 #[rv sx, rv a] []) st34 ?_
  exact own_ret0 X34 hx Bd.returns hlk (hb hby own_d_jdk_42_method_3_9) (by decide) (by decide) (by exact ⟨rfl, N34, KP, hrest34⟩)
def own_QC5_2 (Z : State) (x0 x1 : Int32) (a : Addr) (ka : ClassId) (b : Addr) (kb : ClassId) (h0 : Heap) (n0 : Nat) (v : Option Value) (h : Heap) (L : List Loc) : Prop := Fr n0 L ∧ Keep h0 h [b] ∧ ((v = some (.int (2 : Int32)) ∧ ¬ ((255 : Int32) < x0) ∧ ¬ ((255 : Int32) < x1) ∧ Arv Z h b kb .byte (2 : Int32) [(.int (x0.toInt8.toInt32)), (.int (x1.toInt8.toInt32))] (.int (0 : Int32))) ∨ (v = some (.int (0 : Int32)) ∧ (255 : Int32) < x0) ∨ (v = some (.int (1 : Int32)) ∧ (255 : Int32) < x1))
set_option maxRecDepth 65536 in
set_option maxHeartbeats 40000000 in
theorem own_rmC5_2 (l : Launch) (Z : State) (a0 : Array Value) (hw : ∀ d ∈ tables_1, d.before a0 Z = true) (ws : List Jvm.Cond) (x0 x1 : Int32) (a : Addr) (ka : ClassId) (b : Addr) (kb : ClassId) (h0 : Heap) (n0 : Nat) (Z0 : n0 ≤ h0.size) (OL : Old Z n0 h0) (ne_a_b : a ≠ b) (ge_b : n0 ≤ b) (Va : Arv Z h0 a ka .char (2 : Int32) [(.int x0), (.int x1)] (.int (0 : Int32))) (Vb : Arv Z h0 b kb .byte (2 : Int32) [(.int (0 : Int32)), (.int (0 : Int32))] (.int (0 : Int32))) :
    MetFree l (⟨"java/lang/StringUTF16", "compress", "([CI[BII)I"⟩ : MethodName) (head1 (Jvm.Cond.code (⟨"java/lang/StringUTF16", "compress", "([CI[BII)I"⟩ : MethodName) jdk_52_method_21_code 7 (some .int) :: ws) ({ frames := 0, cells := 0, slots := 0, locals := 0 } : Room)) (fun aa_ U => aa_ = #[(.ref a), (.int (0 : Int32)), (.ref b), (.int (0 : Int32)), (.int (2 : Int32))] ∧ Z.Warmed39 U.vm ∧ U.heap = h0) (fun _ _ _ _ _ => True) (fun _ U o U' => ∃ v L, o = .returned v ∧ own_QC5_2 Z x0 x1 a ka b kb h0 n0 v U'.heap L ∧ FrameEnd U o U' L ({ frames := 0, cells := 0, slots := 0, locals := 0 } : Room).cells ({ frames := 0, cells := 0, slots := 0, locals := 0 } : Room).slots) := by
  refine MetFree.of_bodySF (plainFor_of_name own_pn0) hisR ?_
  intro p e s m args below meth c s₁ Bd hml0 hP hK
  obtain ⟨rfl, hZ, hh⟩ := hP
  have hx := Bd.exec
  have hby := Bd.bytes
  have hlk : meth.locks = false := BodyLoose.notSynchronized Bd
  have hml : c.maxLocals = 7 := hml0
  have hown : s.vm.findClass "java/lang/StringUTF16" = some m.cls := findClass_of_methodNamed Bd.named
  have hnm := (name_of_methodNamed Bd.named Bd.method).1
  have X0 : Stand p l e ({ frames := 0, cells := 0, slots := 0, locals := 0 } : Room) s m #[(.ref a), (.int (0 : Int32)), (.ref b), (.int (0 : Int32)), (.int (2 : Int32))] below meth c s₁ [] 0 0 := Stand.of_body Bd
  have e0 : s₁.heap = h0 := by rw [← hh, Bd.state]; rfl
  have N0 := Fr.nil n0
  have KP : Keep h0 h0 [b] := Keep.refl _ _
  refine own_start (Fin := (own_Fin s (own_QC5_2 Z x0 x1 a ka b kb h0 n0) ({ frames := 0, cells := 0, slots := 0, locals := 0 } : Room).cells ({ frames := 0, cells := 0, slots := 0, locals := 0 } : Room).slots)) (own_from (mkF m 0 #[rv a, iv 0, rv b, iv 0, iv 2, .unset, .unset] []) (castTop (own_ef_C5_2 m a (0 : Int32) b (0 : Int32) (2 : Int32))) ?_)
  refine own_to (T' := s₁) (mkF m 1 #[rv a, iv 0, rv b, iv 0, iv 2, .unset, .unset] [(.int (0 : Int32))]) (fun _ k => XS.iconst X0.here hx rfl (hb hby own_d_jdk_52_method_21_0) k) ?_
  refine own_to (T' := s₁) (mkF m 3 #[rv a, iv 0, rv b, iv 0, iv 2, iv 0, .unset] []) (fun _ k => XS.istore X0.here hx rfl (hb hby own_d_jdk_52_method_21_1) rfl (l' := #[rv a, iv 0, rv b, iv 0, iv 2, iv 0, .unset]) rfl k) ?_
  refine own_to (T' := s₁) (mkF m 5 #[rv a, iv 0, rv b, iv 0, iv 2, iv 0, .unset] [(.int (0 : Int32))]) (fun _ k => XS.iload X0.here hx rfl (hb hby own_d_jdk_52_method_21_3) rfl k) ?_
  refine own_to (T' := s₁) (mkF m 7 #[rv a, iv 0, rv b, iv 0, iv 2, iv 0, .unset] [(.int (2 : Int32)), (.int (0 : Int32))]) (fun _ k => XS.iload X0.here hx rfl (hb hby own_d_jdk_52_method_21_5) rfl k) ?_
  refine own_to (T' := s₁) (mkF m 10 #[rv a, iv 0, rv b, iv 0, iv 2, iv 0, .unset] []) (fun _ k => XS.icmpNo X0.here hx rfl (hb hby own_d_jdk_52_method_21_7) rfl (tlt (by decide : (0 : Int32) < (2 : Int32))).2.1 k) ?_
  refine own_to (T' := s₁) (mkF m 11 #[rv a, iv 0, rv b, iv 0, iv 2, iv 0, .unset] [(.ref a)]) (fun _ k => XS.aloadN X0.here hx rfl (hb hby own_d_jdk_52_method_21_10) rfl rfl k) ?_
  refine own_to (T' := s₁) (mkF m 12 #[rv a, iv 0, rv b, iv 0, iv 2, iv 0, .unset] [(.int (0 : Int32)), (.ref a)]) (fun _ k => XS.iloadN X0.here hx rfl (hb hby own_d_jdk_52_method_21_11) rfl k) ?_
  obtain ⟨cl35, Ar35, -, S35, -, H35, -⟩ := id Va
  refine own_to (mkF m 13 #[rv a, iv 0, rv b, iv 0, iv 2, iv 0, .unset] [(.int x0)]) (X0.caload hx (j := (0 : Int32)) (v := (.int x0)) (by rw [e0]; exact Ar35.1) (State.isArrayOf_alike hZ.alike Ar35.2.1) Ar35.2.2 (inb_of S35 ⟨by decide, by decide⟩) (H35.at (inb_of S35 ⟨by decide, by decide⟩) rfl) (g := (mkF m 12 #[rv a, iv 0, rv b, iv 0, iv 2, iv 0, .unset] [(.int (0 : Int32)), (.ref a)])) rfl rfl (hb hby own_d_jdk_52_method_21_12)) ?_
  refine own_to (T' := s₁) (mkF m 15 #[rv a, iv 0, rv b, iv 0, iv 2, iv 0, iv x0] []) (fun _ k => XS.istore X0.here hx rfl (hb hby own_d_jdk_52_method_21_13) rfl (l' := #[rv a, iv 0, rv b, iv 0, iv 2, iv 0, iv x0]) rfl k) ?_
  refine own_to (T' := s₁) (mkF m 17 #[rv a, iv 0, rv b, iv 0, iv 2, iv 0, iv x0] [(.int x0)]) (fun _ k => XS.iload X0.here hx rfl (hb hby own_d_jdk_52_method_21_15) rfl k) ?_
  refine own_to (T' := s₁) (mkF m 20 #[rv a, iv 0, rv b, iv 0, iv 2, iv 0, iv x0] [(.int (255 : Int32)), (.int x0)]) (fun _ k => XS.sipush X0.here hx rfl (hb hby own_d_jdk_52_method_21_17) k) ?_
  by_cases hb0 : (255 : Int32) < x0
  · refine own_to (T' := s₁) (mkF m 23 #[rv a, iv 0, rv b, iv 0, iv 2, iv 0, iv x0] []) (fun _ k => XS.icmpNo X0.here hx rfl (hb hby own_d_jdk_52_method_21_20) rfl (tlt hb0).2.2.2 k) ?_
    refine own_to (T' := s₁) (mkF m 25 #[rv a, iv 0, rv b, iv 0, iv 2, iv 0, iv x0] [(.int (0 : Int32))]) (fun _ k => XS.iload X0.here hx rfl (hb hby own_d_jdk_52_method_21_23) rfl k) ?_
    exact own_retI X0 hx Bd.returns hlk (hb hby own_d_jdk_52_method_21_25) (by decide) (by decide) (by rw [e0]; exact ⟨N0, KP, (Or.inr (Or.inl ⟨rfl, hb0⟩))⟩)
  · refine own_to (T' := s₁) (mkF m 26 #[rv a, iv 0, rv b, iv 0, iv 2, iv 0, iv x0] []) (fun _ k => XS.icmpYes X0.here hx rfl (pc0 := 20) (pc' := 26) rfl (hb hby own_d_jdk_52_method_21_20) rfl (flt hb0).2.2.2 (by decide) (by decide) k) ?_
    refine own_to (T' := s₁) (mkF m 27 #[rv a, iv 0, rv b, iv 0, iv 2, iv 0, iv x0] [(.ref b)]) (fun _ k => XS.aloadN X0.here hx rfl (hb hby own_d_jdk_52_method_21_26) rfl rfl k) ?_
    refine own_to (T' := s₁) (mkF m 28 #[rv a, iv 0, rv b, iv 0, iv 2, iv 0, iv x0] [(.int (0 : Int32)), (.ref b)]) (fun _ k => XS.iloadN X0.here hx rfl (hb hby own_d_jdk_52_method_21_27) rfl k) ?_
    refine own_to (T' := s₁) (mkF m 30 #[rv a, iv 0, rv b, iv 0, iv 2, iv 0, iv x0] [(.int x0), (.int (0 : Int32)), (.ref b)]) (fun _ k => XS.iload X0.here hx rfl (hb hby own_d_jdk_52_method_21_28) rfl k) ?_
    refine own_to (T' := s₁) (mkF m 31 #[rv a, iv 0, rv b, iv 0, iv 2, iv 0, iv x0] [(.int (x0.toInt8.toInt32)), (.int (0 : Int32)), (.ref b)]) (fun _ k => XS.i2b X0.here hx rfl (hb hby own_d_jdk_52_method_21_30) rfl k) ?_
    obtain ⟨cl36, Ar36, q36, S36, M36, H36, G36⟩ := id Vb
    obtain ⟨T36, h36, X36, e36, W36, st36⟩ := stB X0 hx hZ e0 Ar36 (j := (0 : Int32)) (inb_of S36 ⟨by decide, by decide⟩) (g := (mkF m 31 #[rv a, iv 0, rv b, iv 0, iv 2, iv 0, iv x0] [(.int (x0.toInt8.toInt32)), (.int (0 : Int32)), (.ref b)])) rfl rfl (hb hby own_d_jdk_52_method_21_31)
    refine own_to (mkF m 32 #[rv a, iv 0, rv b, iv 0, iv 2, iv 0, iv x0] []) st36 ?_
    have N36 := Fr.snoc X36 N0 ge_b
    have tmp36 : Arv Z h36 b kb .byte (2 : Int32) [(.int ((x0.toInt8.toInt32).toInt8.toInt32)), (.int (0 : Int32))] (.int (0 : Int32)) := Arv.set Ar36 q36 S36 M36 H36 G36 (fits_nar_byte _) W36 0 rfl (Nat.le_of_ble_eq_true rfl)
    rw [own_b8] at tmp36
    have OL := OL.wr W36 ge_b
    have KP := KP.wr W36 (Or.inl (List.mem_of_getElem? (i := 0) rfl))
    have Va := Va.other W36 ne_a_b
    have Vb := tmp36
    refine own_to (T' := T36) (mkF m 35 #[rv a, iv 1, rv b, iv 0, iv 2, iv 0, iv x0] []) (fun _ k => XS.iinc X36.here hx rfl (hb hby own_d_jdk_52_method_21_32) rfl (l' := #[rv a, iv 1, rv b, iv 0, iv 2, iv 0, iv x0]) rfl k) ?_
    refine own_to (T' := T36) (mkF m 38 #[rv a, iv 1, rv b, iv 1, iv 2, iv 0, iv x0] []) (fun _ k => XS.iinc X36.here hx rfl (hb hby own_d_jdk_52_method_21_35) rfl (l' := #[rv a, iv 1, rv b, iv 1, iv 2, iv 0, iv x0]) rfl k) ?_
    refine own_to (T' := T36) (mkF m 41 #[rv a, iv 1, rv b, iv 1, iv 2, iv 1, iv x0] []) (fun _ k => XS.iinc X36.here hx rfl (hb hby own_d_jdk_52_method_21_38) rfl (l' := #[rv a, iv 1, rv b, iv 1, iv 2, iv 1, iv x0]) rfl k) ?_
    refine own_to (T' := T36) (mkF m 3 #[rv a, iv 1, rv b, iv 1, iv 2, iv 1, iv x0] []) (fun _ k => XS.goto X36.here hx rfl (pc0 := 41) (pc' := 3) rfl (hb hby own_d_jdk_52_method_21_41) (by decide) (by decide) k) ?_
    refine own_to (T' := T36) (mkF m 5 #[rv a, iv 1, rv b, iv 1, iv 2, iv 1, iv x0] [(.int (1 : Int32))]) (fun _ k => XS.iload X36.here hx rfl (hb hby own_d_jdk_52_method_21_3) rfl k) ?_
    refine own_to (T' := T36) (mkF m 7 #[rv a, iv 1, rv b, iv 1, iv 2, iv 1, iv x0] [(.int (2 : Int32)), (.int (1 : Int32))]) (fun _ k => XS.iload X36.here hx rfl (hb hby own_d_jdk_52_method_21_5) rfl k) ?_
    refine own_to (T' := T36) (mkF m 10 #[rv a, iv 1, rv b, iv 1, iv 2, iv 1, iv x0] []) (fun _ k => XS.icmpNo X36.here hx rfl (hb hby own_d_jdk_52_method_21_7) rfl (tlt (by decide : (1 : Int32) < (2 : Int32))).2.1 k) ?_
    refine own_to (T' := T36) (mkF m 11 #[rv a, iv 1, rv b, iv 1, iv 2, iv 1, iv x0] [(.ref a)]) (fun _ k => XS.aloadN X36.here hx rfl (hb hby own_d_jdk_52_method_21_10) rfl rfl k) ?_
    refine own_to (T' := T36) (mkF m 12 #[rv a, iv 1, rv b, iv 1, iv 2, iv 1, iv x0] [(.int (1 : Int32)), (.ref a)]) (fun _ k => XS.iloadN X36.here hx rfl (hb hby own_d_jdk_52_method_21_11) rfl k) ?_
    obtain ⟨cl37, Ar37, -, S37, -, H37, -⟩ := id Va
    refine own_to (mkF m 13 #[rv a, iv 1, rv b, iv 1, iv 2, iv 1, iv x0] [(.int x1)]) (X36.caload hx (j := (1 : Int32)) (v := (.int x1)) (by rw [e36]; exact Ar37.1) (State.isArrayOf_alike hZ.alike Ar37.2.1) Ar37.2.2 (inb_of S37 ⟨by decide, by decide⟩) (H37.at (inb_of S37 ⟨by decide, by decide⟩) rfl) (g := (mkF m 12 #[rv a, iv 1, rv b, iv 1, iv 2, iv 1, iv x0] [(.int (1 : Int32)), (.ref a)])) rfl rfl (hb hby own_d_jdk_52_method_21_12)) ?_
    refine own_to (T' := T36) (mkF m 15 #[rv a, iv 1, rv b, iv 1, iv 2, iv 1, iv x1] []) (fun _ k => XS.istore X36.here hx rfl (hb hby own_d_jdk_52_method_21_13) rfl (l' := #[rv a, iv 1, rv b, iv 1, iv 2, iv 1, iv x1]) rfl k) ?_
    refine own_to (T' := T36) (mkF m 17 #[rv a, iv 1, rv b, iv 1, iv 2, iv 1, iv x1] [(.int x1)]) (fun _ k => XS.iload X36.here hx rfl (hb hby own_d_jdk_52_method_21_15) rfl k) ?_
    refine own_to (T' := T36) (mkF m 20 #[rv a, iv 1, rv b, iv 1, iv 2, iv 1, iv x1] [(.int (255 : Int32)), (.int x1)]) (fun _ k => XS.sipush X36.here hx rfl (hb hby own_d_jdk_52_method_21_17) k) ?_
    by_cases hb1 : (255 : Int32) < x1
    · refine own_to (T' := T36) (mkF m 23 #[rv a, iv 1, rv b, iv 1, iv 2, iv 1, iv x1] []) (fun _ k => XS.icmpNo X36.here hx rfl (hb hby own_d_jdk_52_method_21_20) rfl (tlt hb1).2.2.2 k) ?_
      refine own_to (T' := T36) (mkF m 25 #[rv a, iv 1, rv b, iv 1, iv 2, iv 1, iv x1] [(.int (1 : Int32))]) (fun _ k => XS.iload X36.here hx rfl (hb hby own_d_jdk_52_method_21_23) rfl k) ?_
      exact own_retI X36 hx Bd.returns hlk (hb hby own_d_jdk_52_method_21_25) (by decide) (by decide) (by rw [e36]; exact ⟨N36, KP, (Or.inr (Or.inr ⟨rfl, hb1⟩))⟩)
    · refine own_to (T' := T36) (mkF m 26 #[rv a, iv 1, rv b, iv 1, iv 2, iv 1, iv x1] []) (fun _ k => XS.icmpYes X36.here hx rfl (pc0 := 20) (pc' := 26) rfl (hb hby own_d_jdk_52_method_21_20) rfl (flt hb1).2.2.2 (by decide) (by decide) k) ?_
      refine own_to (T' := T36) (mkF m 27 #[rv a, iv 1, rv b, iv 1, iv 2, iv 1, iv x1] [(.ref b)]) (fun _ k => XS.aloadN X36.here hx rfl (hb hby own_d_jdk_52_method_21_26) rfl rfl k) ?_
      refine own_to (T' := T36) (mkF m 28 #[rv a, iv 1, rv b, iv 1, iv 2, iv 1, iv x1] [(.int (1 : Int32)), (.ref b)]) (fun _ k => XS.iloadN X36.here hx rfl (hb hby own_d_jdk_52_method_21_27) rfl k) ?_
      refine own_to (T' := T36) (mkF m 30 #[rv a, iv 1, rv b, iv 1, iv 2, iv 1, iv x1] [(.int x1), (.int (1 : Int32)), (.ref b)]) (fun _ k => XS.iload X36.here hx rfl (hb hby own_d_jdk_52_method_21_28) rfl k) ?_
      refine own_to (T' := T36) (mkF m 31 #[rv a, iv 1, rv b, iv 1, iv 2, iv 1, iv x1] [(.int (x1.toInt8.toInt32)), (.int (1 : Int32)), (.ref b)]) (fun _ k => XS.i2b X36.here hx rfl (hb hby own_d_jdk_52_method_21_30) rfl k) ?_
      obtain ⟨cl38, Ar38, q38, S38, M38, H38, G38⟩ := id Vb
      obtain ⟨T38, h38, X38, e38, W38, st38⟩ := stB X36 hx hZ e36 Ar38 (j := (1 : Int32)) (inb_of S38 ⟨by decide, by decide⟩) (g := (mkF m 31 #[rv a, iv 1, rv b, iv 1, iv 2, iv 1, iv x1] [(.int (x1.toInt8.toInt32)), (.int (1 : Int32)), (.ref b)])) rfl rfl (hb hby own_d_jdk_52_method_21_31)
      refine own_to (mkF m 32 #[rv a, iv 1, rv b, iv 1, iv 2, iv 1, iv x1] []) st38 ?_
      have N38 := Fr.snoc X38 N36 ge_b
      have tmp38 : Arv Z h38 b kb .byte (2 : Int32) [(.int (x0.toInt8.toInt32)), (.int ((x1.toInt8.toInt32).toInt8.toInt32))] (.int (0 : Int32)) := Arv.set Ar38 q38 S38 M38 H38 G38 (fits_nar_byte _) W38 1 rfl (Nat.le_of_ble_eq_true rfl)
      rw [own_b8] at tmp38
      have OL := OL.wr W38 ge_b
      have KP := KP.wr W38 (Or.inl (List.mem_of_getElem? (i := 0) rfl))
      have Va := Va.other W38 ne_a_b
      have Vb := tmp38
      refine own_to (T' := T38) (mkF m 35 #[rv a, iv 2, rv b, iv 1, iv 2, iv 1, iv x1] []) (fun _ k => XS.iinc X38.here hx rfl (hb hby own_d_jdk_52_method_21_32) rfl (l' := #[rv a, iv 2, rv b, iv 1, iv 2, iv 1, iv x1]) rfl k) ?_
      refine own_to (T' := T38) (mkF m 38 #[rv a, iv 2, rv b, iv 2, iv 2, iv 1, iv x1] []) (fun _ k => XS.iinc X38.here hx rfl (hb hby own_d_jdk_52_method_21_35) rfl (l' := #[rv a, iv 2, rv b, iv 2, iv 2, iv 1, iv x1]) rfl k) ?_
      refine own_to (T' := T38) (mkF m 41 #[rv a, iv 2, rv b, iv 2, iv 2, iv 2, iv x1] []) (fun _ k => XS.iinc X38.here hx rfl (hb hby own_d_jdk_52_method_21_38) rfl (l' := #[rv a, iv 2, rv b, iv 2, iv 2, iv 2, iv x1]) rfl k) ?_
      refine own_to (T' := T38) (mkF m 3 #[rv a, iv 2, rv b, iv 2, iv 2, iv 2, iv x1] []) (fun _ k => XS.goto X38.here hx rfl (pc0 := 41) (pc' := 3) rfl (hb hby own_d_jdk_52_method_21_41) (by decide) (by decide) k) ?_
      refine own_to (T' := T38) (mkF m 5 #[rv a, iv 2, rv b, iv 2, iv 2, iv 2, iv x1] [(.int (2 : Int32))]) (fun _ k => XS.iload X38.here hx rfl (hb hby own_d_jdk_52_method_21_3) rfl k) ?_
      refine own_to (T' := T38) (mkF m 7 #[rv a, iv 2, rv b, iv 2, iv 2, iv 2, iv x1] [(.int (2 : Int32)), (.int (2 : Int32))]) (fun _ k => XS.iload X38.here hx rfl (hb hby own_d_jdk_52_method_21_5) rfl k) ?_
      refine own_to (T' := T38) (mkF m 44 #[rv a, iv 2, rv b, iv 2, iv 2, iv 2, iv x1] []) (fun _ k => XS.icmpYes X38.here hx rfl (pc0 := 7) (pc' := 44) rfl (hb hby own_d_jdk_52_method_21_7) rfl (flt (by decide : ¬ ((2 : Int32) < (2 : Int32)))).2.1 (by decide) (by decide) k) ?_
      refine own_to (T' := T38) (mkF m 46 #[rv a, iv 2, rv b, iv 2, iv 2, iv 2, iv x1] [(.int (2 : Int32))]) (fun _ k => XS.iload X38.here hx rfl (hb hby own_d_jdk_52_method_21_44) rfl k) ?_
      exact own_retI X38 hx Bd.returns hlk (hb hby own_d_jdk_52_method_21_46) (by decide) (by decide) (by rw [e38]; exact ⟨N38, KP, Or.inl ⟨rfl, hb0, hb1, Vb⟩⟩)
def own_QNL_2 (Z : State)  (h0 : Heap) (n0 : Nat) (v : Option Value) (h : Heap) (L : List Loc) : Prop := v = some (.int (4 : Int32)) ∧ Fr n0 L ∧ h = h0
set_option maxRecDepth 65536 in
set_option maxHeartbeats 40000000 in
theorem own_rmNL_2 (l : Launch) (Z : State) (a0 : Array Value) (hw : ∀ d ∈ tables_1, d.before a0 Z = true) (ws : List Jvm.Cond)  (h0 : Heap) (n0 : Nat) (Z0 : n0 ≤ h0.size) (OL : Old Z n0 h0)  :
    MetFree l (⟨"java/lang/StringUTF16", "newBytesLength", "(I)I"⟩ : MethodName) (head1 (Jvm.Cond.code (⟨"java/lang/StringUTF16", "newBytesLength", "(I)I"⟩ : MethodName) jdk_52_method_3_code 1 (some .int) :: ws) ({ frames := 0, cells := 0, slots := 0, locals := 0 } : Room)) (fun aa_ U => aa_ = #[(.int (2 : Int32))] ∧ Z.Warmed39 U.vm ∧ U.heap = h0) (fun _ _ _ _ _ => True) (fun _ U o U' => ∃ v L, o = .returned v ∧ own_QNL_2 Z  h0 n0 v U'.heap L ∧ FrameEnd U o U' L ({ frames := 0, cells := 0, slots := 0, locals := 0 } : Room).cells ({ frames := 0, cells := 0, slots := 0, locals := 0 } : Room).slots) := by
  refine MetFree.of_bodySF (plainFor_of_name own_pn0) hisR ?_
  intro p e s m args below meth c s₁ Bd hml0 hP hK
  obtain ⟨rfl, hZ, hh⟩ := hP
  have hx := Bd.exec
  have hby := Bd.bytes
  have hlk : meth.locks = false := BodyLoose.notSynchronized Bd
  have hml : c.maxLocals = 1 := hml0
  have hown : s.vm.findClass "java/lang/StringUTF16" = some m.cls := findClass_of_methodNamed Bd.named
  have hnm := (name_of_methodNamed Bd.named Bd.method).1
  have X0 : Stand p l e ({ frames := 0, cells := 0, slots := 0, locals := 0 } : Room) s m #[(.int (2 : Int32))] below meth c s₁ [] 0 0 := Stand.of_body Bd
  have e0 : s₁.heap = h0 := by rw [← hh, Bd.state]; rfl
  have N0 := Fr.nil n0
  have KP : Keep h0 h0 [] := Keep.refl _ _
  refine own_start (Fin := (own_Fin s (own_QNL_2 Z  h0 n0) ({ frames := 0, cells := 0, slots := 0, locals := 0 } : Room).cells ({ frames := 0, cells := 0, slots := 0, locals := 0 } : Room).slots)) (own_from (mkF m 0 #[iv 2] []) (castTop (own_ef_NL_2 m (2 : Int32))) ?_)
  refine own_to (T' := s₁) (mkF m 1 #[iv 2] [(.int (2 : Int32))]) (fun _ k => XS.iloadN X0.here hx rfl (hb hby own_d_jdk_52_method_3_0) rfl k) ?_
  refine own_to (T' := s₁) (mkF m 12 #[iv 2] []) (fun _ k => XS.ifYes X0.here hx rfl (pc0 := 1) (pc' := 12) rfl (hb hby own_d_jdk_52_method_3_1) rfl ((if0 _ _).trans (flt (by decide : ¬ ((2 : Int32) < (0 : Int32)))).2.1) (by decide) (by decide) k) ?_
  refine own_to (T' := s₁) (mkF m 13 #[iv 2] [(.int (2 : Int32))]) (fun _ k => XS.iloadN X0.here hx rfl (hb hby own_d_jdk_52_method_3_12) rfl k) ?_
  refine own_to (mkF m 15 #[iv 2] [(.int (1073741823 : Int32)), (.int (2 : Int32))]) (X0.ldcInt hx hown (mvT hZ (hw _ (List.mem_of_getElem? (i := 78) rfl))) (g := (mkF m 13 #[iv 2] [(.int (2 : Int32))])) rfl (hb hby own_d_jdk_52_method_3_13)) ?_
  refine own_to (T' := s₁) (mkF m 55 #[iv 2] []) (fun _ k => XS.icmpYes X0.here hx rfl (pc0 := 15) (pc' := 55) rfl (hb hby own_d_jdk_52_method_3_15) rfl (tlt (by decide : (2 : Int32) < (1073741823 : Int32))).1 (by decide) (by decide) k) ?_
  refine own_to (T' := s₁) (mkF m 56 #[iv 2] [(.int (2 : Int32))]) (fun _ k => XS.iloadN X0.here hx rfl (hb hby own_d_jdk_52_method_3_55) rfl k) ?_
  refine own_to (T' := s₁) (mkF m 57 #[iv 2] [(.int (1 : Int32)), (.int (2 : Int32))]) (fun _ k => XS.iconst X0.here hx rfl (hb hby own_d_jdk_52_method_3_56) k) ?_
  refine own_to (T' := s₁) (mkF m 58 #[iv 2] [(.int (4 : Int32))]) (fun _ k => XS.ishl X0.here hx rfl (hb hby own_d_jdk_52_method_3_57) rfl k) ?_
  exact own_retI X0 hx Bd.returns hlk (hb hby own_d_jdk_52_method_3_58) (by decide) (by decide) (by rw [e0]; exact ⟨rfl, N0, rfl⟩)
def own_QNF_2 (Z : State)  (h0 : Heap) (n0 : Nat) (v : Option Value) (h : Heap) (L : List Loc) : Prop := ∃ (b : Addr) (kb : ClassId), v = some (.ref b) ∧ Fr n0 L ∧ Keep h0 h [] ∧ n0 ≤ b ∧ h0.size ≤ b ∧ Arv Z h b kb .byte (4 : Int32) [(.int (0 : Int32)), (.int (0 : Int32)), (.int (0 : Int32)), (.int (0 : Int32))] (.int (0 : Int32))
set_option maxRecDepth 65536 in
set_option maxHeartbeats 40000000 in
theorem own_rmNF_2 (l : Launch) (Z : State) (a0 : Array Value) (hw : ∀ d ∈ tables_1, d.before a0 Z = true) (ws : List Jvm.Cond)  (h0 : Heap) (n0 : Nat) (Z0 : n0 ≤ h0.size) (OL : Old Z n0 h0)  :
    MetFree l (⟨"java/lang/StringUTF16", "newBytesFor", "(I)[B"⟩ : MethodName) (head1 (Jvm.Cond.code (⟨"java/lang/StringUTF16", "newBytesFor", "(I)[B"⟩ : MethodName) jdk_52_method_2_code 1 (some (.array .byte)) :: ws) ({ frames := 1, cells := 1, slots := 4, locals := 20 } : Room)) (fun aa_ U => aa_ = #[(.int (2 : Int32))] ∧ Z.Warmed39 U.vm ∧ U.heap = h0) (fun _ _ _ _ _ => True) (fun _ U o U' => ∃ v L, o = .returned v ∧ own_QNF_2 Z  h0 n0 v U'.heap L ∧ FrameEnd U o U' L ({ frames := 1, cells := 1, slots := 4, locals := 20 } : Room).cells ({ frames := 1, cells := 1, slots := 4, locals := 20 } : Room).slots) := by
  refine MetFree.of_bodySF (plainFor_of_name own_pn0) hisR ?_
  intro p e s m args below meth c s₁ Bd hml0 hP hK
  obtain ⟨rfl, hZ, hh⟩ := hP
  have hx := Bd.exec
  have hby := Bd.bytes
  have hlk : meth.locks = false := BodyLoose.notSynchronized Bd
  have hml : c.maxLocals = 1 := hml0
  have hown : s.vm.findClass "java/lang/StringUTF16" = some m.cls := findClass_of_methodNamed Bd.named
  have hnm := (name_of_methodNamed Bd.named Bd.method).1
  have X0 : Stand p l e ({ frames := 1, cells := 1, slots := 4, locals := 20 } : Room) s m #[(.int (2 : Int32))] below meth c s₁ [] 0 0 := Stand.of_body Bd
  have e0 : s₁.heap = h0 := by rw [← hh, Bd.state]; rfl
  have N0 := Fr.nil n0
  have KP : Keep h0 h0 [] := Keep.refl _ _
  refine own_start (Fin := (own_Fin s (own_QNF_2 Z  h0 n0) ({ frames := 1, cells := 1, slots := 4, locals := 20 } : Room).cells ({ frames := 1, cells := 1, slots := 4, locals := 20 } : Room).slots)) (own_from (mkF m 0 #[iv 2] []) (castTop (own_ef_NF_2 m (2 : Int32))) ?_)
  refine own_to (T' := s₁) (mkF m 1 #[iv 2] [(.int (2 : Int32))]) (fun _ k => XS.iloadN X0.here hx rfl (hb hby own_d_jdk_52_method_2_0) rfl k) ?_
  obtain ⟨_, _, ⟨T39, L39, k39, n39⟩, -, X39, ⟨Lc39, hQ39, l39, y39, z39⟩, st39⟩ := Jvm.LawKit.callS X0 hx (y := (⟨"java/lang/StringUTF16", "newBytesLength", "(I)I"⟩ : MethodName)) hown (mvT hZ (hw _ (List.mem_of_getElem? (i := 75) rfl))) (mvT hZ (hw _ (List.mem_of_getElem? (i := 76) rfl))) (mvT hZ (hw _ (List.mem_of_getElem? (i := 18) rfl))) (mvT hZ (hw _ (List.mem_of_getElem? (i := 77) rfl))) (by decide) (backOf (W := 0) (own_rmNL_2 l Z a0 hw [] h0 n0 (Nat.le_trans Z0 KP.1) OL) hZ (hw _ (List.mem_of_getElem? (i := 77) rfl)) (hw _ (List.mem_of_getElem? (i := 18) rfl)) (by decide) (by decide)) (g := (mkF m 1 #[iv 2] [(.int (2 : Int32))])) rfl (by rw [hml]; rfl) (argsL := [(.int (2 : Int32))]) (rest := []) (lenOf own_pd0 rfl) rfl (by show 2 * 0 + _ ≤ _; exact Nat.le_of_eq rfl) (hb hby own_d_jdk_52_method_2_1) (fun _ _ => ⟨rfl, e0, (by decide : 0 + 0 ≤ _), (by decide : 0 + 0 ≤ _)⟩)
  dsimp only [Pt.U, Pt.locs, Pt.cells, Pt.slots] at X39 l39 y39 z39 st39 hQ39
  subst l39 y39 z39
  obtain ⟨rfl, N39q, e39⟩ := hQ39
  have N39 := Fr.app N0 N39q
  refine own_to (mkF m 4 #[iv 2] [(.int (4 : Int32))]) st39 ?_
  obtain ⟨T40, h40, k40, X40, e40, E40, A40, B40, st40⟩ := newPE X39 hx hZ (hw _ (List.mem_of_getElem? (i := 20) rfl)) e39 (g := (mkF m 4 #[iv 2] [(.int (4 : Int32))])) rfl (hb hby own_d_jdk_52_method_2_4) rfl (by decide) (cap := 4) (by decide) (by decide) (by decide) (by decide) (ad := "[B") (by decide)
  obtain ⟨b40, g40⟩ : ∃ z, z = h0.size := ⟨_, rfl⟩
  rw [← g40] at A40 B40 st40
  have sz_b40 : h0.size ≤ b40 := Nat.le_trans KP.1 (Nat.le_of_eq g40.symm)
  have ge_b40 : n0 ≤ b40 := Nat.le_trans Z0 sz_b40
  have OL := OL.ext E40
  have KP := KP.ext E40
  have V_b40 : Arv Z h40 b40 k40 .byte (4 : Int32) [(.int (0 : Int32)), (.int (0 : Int32)), (.int (0 : Int32)), (.int (0 : Int32))] (.int (0 : Int32)) := (Arv.new A40 (by decide)).pad (pad_rep [] (.int (0 : Int32)) 4)
  refine own_to (mkF m 6 #[iv 2] [(.ref b40)]) st40 ?_
  exact own_retA X40 hx Bd.returns rfl hlk (hb hby own_d_jdk_52_method_2_6) rfl (by decide) (by decide) (by rw [e40]; exact ⟨b40, k40, rfl, N39, KP, ge_b40, sz_b40, V_b40⟩)
def own_QPC_2_0 (Z : State) (u0 u1 u2 u3 cc : Int32) (G1 : Int32) (b : Addr) (kb : ClassId) (h0 : Heap) (n0 : Nat) (v : Option Value) (h : Heap) (L : List Loc) : Prop := v = none ∧ Fr n0 L ∧ Keep h0 h [b] ∧ Arv Z h b kb .byte (4 : Int32) [(.int ((cc >>> ((0 : Int32) &&& 31)).toInt8.toInt32)), (.int ((cc >>> ((8 : Int32) &&& 31)).toInt8.toInt32)), (.int u2), (.int u3)] (.int (0 : Int32))
set_option maxRecDepth 65536 in
set_option maxHeartbeats 40000000 in
theorem own_rmPC_2_0 (l : Launch) (Z : State) (a0 : Array Value) (hw : ∀ d ∈ tables_1, d.before a0 Z = true) (ws : List Jvm.Cond) (u0 u1 u2 u3 cc : Int32) (G1 : Int32) (b : Addr) (kb : ClassId) (h0 : Heap) (n0 : Nat) (Z0 : n0 ≤ h0.size) (OL : Old Z n0 h0) (ge_b : n0 ≤ b) (Vb : Arv Z h0 b kb .byte (4 : Int32) [(.int u0), (.int u1), (.int u2), (.int u3)] (.int (0 : Int32))) (O2 : Sta Z Z.heap "java/lang/String" "COMPACT_STRINGS" "Z" (.int G1)) (P5 : ¬ (G1 = (0 : Int32))) (OAD : Sta Z Z.heap "java/lang/StringUTF16" "$assertionsDisabled" "Z" (.int (1 : Int32))) (OHI : Sta Z Z.heap "java/lang/StringUTF16" "HI_BYTE_SHIFT" "I" (.int (0 : Int32))) (OLO : Sta Z Z.heap "java/lang/StringUTF16" "LO_BYTE_SHIFT" "I" (.int (8 : Int32))) :
    MetFree l (⟨"java/lang/StringUTF16", "putChar", "([BII)V"⟩ : MethodName) (head1 (Jvm.Cond.code (⟨"java/lang/StringUTF16", "putChar", "([BII)V"⟩ : MethodName) jdk_52_method_4_code 3 none :: ws) ({ frames := 0, cells := 0, slots := 0, locals := 0 } : Room)) (fun aa_ U => aa_ = #[(.ref b), (.int (0 : Int32)), (.int cc)] ∧ Z.Warmed39 U.vm ∧ U.heap = h0) (fun _ _ _ _ _ => True) (fun _ U o U' => ∃ v L, o = .returned v ∧ own_QPC_2_0 Z u0 u1 u2 u3 cc G1 b kb h0 n0 v U'.heap L ∧ FrameEnd U o U' L ({ frames := 0, cells := 0, slots := 0, locals := 0 } : Room).cells ({ frames := 0, cells := 0, slots := 0, locals := 0 } : Room).slots) := by
  refine MetFree.of_bodySF (plainFor_of_name own_pn0) hisR ?_
  intro p e s m args below meth c s₁ Bd hml0 hP hK
  obtain ⟨rfl, hZ, hh⟩ := hP
  have hx := Bd.exec
  have hby := Bd.bytes
  have hlk : meth.locks = false := BodyLoose.notSynchronized Bd
  have hml : c.maxLocals = 3 := hml0
  have hown : s.vm.findClass "java/lang/StringUTF16" = some m.cls := findClass_of_methodNamed Bd.named
  have hnm := (name_of_methodNamed Bd.named Bd.method).1
  have X0 : Stand p l e ({ frames := 0, cells := 0, slots := 0, locals := 0 } : Room) s m #[(.ref b), (.int (0 : Int32)), (.int cc)] below meth c s₁ [] 0 0 := Stand.of_body Bd
  have e0 : s₁.heap = h0 := by rw [← hh, Bd.state]; rfl
  have N0 := Fr.nil n0
  have KP : Keep h0 h0 [b] := Keep.refl _ _
  refine own_start (Fin := (own_Fin s (own_QPC_2_0 Z u0 u1 u2 u3 cc G1 b kb h0 n0) ({ frames := 0, cells := 0, slots := 0, locals := 0 } : Room).cells ({ frames := 0, cells := 0, slots := 0, locals := 0 } : Room).slots)) (own_from (mkF m 0 #[rv b, iv 0, iv cc] []) (castTop (own_ef_PC_2_0 m b (0 : Int32) cc)) ?_)
  obtain ⟨T41, X41, e41, st41⟩ := getS2 X0 hx hZ hown (host := "") (Or.inl (hw _ (List.mem_of_getElem? (i := 82) rfl))) Via.refl e0 (OAD.ext OL.2) (g := (mkF m 0 #[rv b, iv 0, iv cc] [])) rfl (hb hby own_d_jdk_52_method_4_0)
  refine own_to (mkF m 3 #[rv b, iv 0, iv cc] [(.int (1 : Int32))]) st41 ?_
  refine own_to (T' := T41) (mkF m 28 #[rv b, iv 0, iv cc] []) (fun _ k => XS.ifYes X41.here hx rfl (pc0 := 3) (pc' := 28) rfl (hb hby own_d_jdk_52_method_4_3) rfl ((if0 _ _).trans (feq (by decide : ¬ ((1 : Int32) = (0 : Int32)))).2) (by decide) (by decide) k) ?_
  refine own_to (T' := T41) (mkF m 29 #[rv b, iv 0, iv cc] [(.int (0 : Int32))]) (fun _ k => XS.iloadN X41.here hx rfl (hb hby own_d_jdk_52_method_4_28) rfl k) ?_
  refine own_to (T' := T41) (mkF m 30 #[rv b, iv 0, iv cc] [(.int (1 : Int32)), (.int (0 : Int32))]) (fun _ k => XS.iconst X41.here hx rfl (hb hby own_d_jdk_52_method_4_29) k) ?_
  refine own_to (T' := T41) (mkF m 31 #[rv b, iv 0, iv cc] [(.int (0 : Int32))]) (fun _ k => XS.ishl X41.here hx rfl (hb hby own_d_jdk_52_method_4_30) rfl k) ?_
  refine own_to (T' := T41) (mkF m 32 #[rv b, iv 0, iv cc] []) (fun _ k => XS.istoreN X41.here hx rfl (hb hby own_d_jdk_52_method_4_31) rfl (l' := #[rv b, iv 0, iv cc]) rfl k) ?_
  refine own_to (T' := T41) (mkF m 33 #[rv b, iv 0, iv cc] [(.ref b)]) (fun _ k => XS.aloadN X41.here hx rfl (hb hby own_d_jdk_52_method_4_32) rfl rfl k) ?_
  refine own_to (T' := T41) (mkF m 34 #[rv b, iv 0, iv cc] [(.int (0 : Int32)), (.ref b)]) (fun _ k => XS.iloadN X41.here hx rfl (hb hby own_d_jdk_52_method_4_33) rfl k) ?_
  refine own_to (T' := T41) (mkF m 37 #[rv b, iv 1, iv cc] [(.int (0 : Int32)), (.ref b)]) (fun _ k => XS.iinc X41.here hx rfl (hb hby own_d_jdk_52_method_4_34) rfl (l' := #[rv b, iv 1, iv cc]) rfl k) ?_
  refine own_to (T' := T41) (mkF m 38 #[rv b, iv 1, iv cc] [(.int cc), (.int (0 : Int32)), (.ref b)]) (fun _ k => XS.iloadN X41.here hx rfl (hb hby own_d_jdk_52_method_4_37) rfl k) ?_
  obtain ⟨T42, X42, e42, st42⟩ := getS2 X41 hx hZ hown (host := "") (Or.inl (hw _ (List.mem_of_getElem? (i := 83) rfl))) Via.refl e41 (OHI.ext OL.2) (g := (mkF m 38 #[rv b, iv 1, iv cc] [(.int cc), (.int (0 : Int32)), (.ref b)])) rfl (hb hby own_d_jdk_52_method_4_38)
  refine own_to (mkF m 41 #[rv b, iv 1, iv cc] [(.int (0 : Int32)), (.int cc), (.int (0 : Int32)), (.ref b)]) st42 ?_
  refine own_to (T' := T42) (mkF m 42 #[rv b, iv 1, iv cc] [(.int (cc >>> ((0 : Int32) &&& 31))), (.int (0 : Int32)), (.ref b)]) (fun _ k => XS.ishr X42.here hx rfl (hb hby own_d_jdk_52_method_4_41) rfl k) ?_
  refine own_to (T' := T42) (mkF m 43 #[rv b, iv 1, iv cc] [(.int ((cc >>> ((0 : Int32) &&& 31)).toInt8.toInt32)), (.int (0 : Int32)), (.ref b)]) (fun _ k => XS.i2b X42.here hx rfl (hb hby own_d_jdk_52_method_4_42) rfl k) ?_
  obtain ⟨cl43, Ar43, q43, S43, M43, H43, G43⟩ := id Vb
  obtain ⟨T43, h43, X43, e43, W43, st43⟩ := stB X42 hx hZ e42 Ar43 (j := (0 : Int32)) (inb_of S43 ⟨by decide, by decide⟩) (g := (mkF m 43 #[rv b, iv 1, iv cc] [(.int ((cc >>> ((0 : Int32) &&& 31)).toInt8.toInt32)), (.int (0 : Int32)), (.ref b)])) rfl rfl (hb hby own_d_jdk_52_method_4_43)
  refine own_to (mkF m 44 #[rv b, iv 1, iv cc] []) st43 ?_
  have N43 := Fr.snoc X43 N0 ge_b
  have tmp43 : Arv Z h43 b kb .byte (4 : Int32) [(.int (((cc >>> ((0 : Int32) &&& 31)).toInt8.toInt32).toInt8.toInt32)), (.int u1), (.int u2), (.int u3)] (.int (0 : Int32)) := Arv.set Ar43 q43 S43 M43 H43 G43 (fits_nar_byte _) W43 0 rfl (Nat.le_of_ble_eq_true rfl)
  rw [own_b8] at tmp43
  have OL := OL.wr W43 ge_b
  have KP := KP.wr W43 (Or.inl (List.mem_of_getElem? (i := 0) rfl))
  have Vb := tmp43
  refine own_to (T' := T43) (mkF m 45 #[rv b, iv 1, iv cc] [(.ref b)]) (fun _ k => XS.aloadN X43.here hx rfl (hb hby own_d_jdk_52_method_4_44) rfl rfl k) ?_
  refine own_to (T' := T43) (mkF m 46 #[rv b, iv 1, iv cc] [(.int (1 : Int32)), (.ref b)]) (fun _ k => XS.iloadN X43.here hx rfl (hb hby own_d_jdk_52_method_4_45) rfl k) ?_
  refine own_to (T' := T43) (mkF m 47 #[rv b, iv 1, iv cc] [(.int cc), (.int (1 : Int32)), (.ref b)]) (fun _ k => XS.iloadN X43.here hx rfl (hb hby own_d_jdk_52_method_4_46) rfl k) ?_
  obtain ⟨T44, X44, e44, st44⟩ := getS2 X43 hx hZ hown (host := "") (Or.inl (hw _ (List.mem_of_getElem? (i := 84) rfl))) Via.refl e43 (OLO.ext OL.2) (g := (mkF m 47 #[rv b, iv 1, iv cc] [(.int cc), (.int (1 : Int32)), (.ref b)])) rfl (hb hby own_d_jdk_52_method_4_47)
  refine own_to (mkF m 50 #[rv b, iv 1, iv cc] [(.int (8 : Int32)), (.int cc), (.int (1 : Int32)), (.ref b)]) st44 ?_
  refine own_to (T' := T44) (mkF m 51 #[rv b, iv 1, iv cc] [(.int (cc >>> ((8 : Int32) &&& 31))), (.int (1 : Int32)), (.ref b)]) (fun _ k => XS.ishr X44.here hx rfl (hb hby own_d_jdk_52_method_4_50) rfl k) ?_
  refine own_to (T' := T44) (mkF m 52 #[rv b, iv 1, iv cc] [(.int ((cc >>> ((8 : Int32) &&& 31)).toInt8.toInt32)), (.int (1 : Int32)), (.ref b)]) (fun _ k => XS.i2b X44.here hx rfl (hb hby own_d_jdk_52_method_4_51) rfl k) ?_
  obtain ⟨cl45, Ar45, q45, S45, M45, H45, G45⟩ := id Vb
  obtain ⟨T45, h45, X45, e45, W45, st45⟩ := stB X44 hx hZ e44 Ar45 (j := (1 : Int32)) (inb_of S45 ⟨by decide, by decide⟩) (g := (mkF m 52 #[rv b, iv 1, iv cc] [(.int ((cc >>> ((8 : Int32) &&& 31)).toInt8.toInt32)), (.int (1 : Int32)), (.ref b)])) rfl rfl (hb hby own_d_jdk_52_method_4_52)
  refine own_to (mkF m 53 #[rv b, iv 1, iv cc] []) st45 ?_
  have N45 := Fr.snoc X45 N43 ge_b
  have tmp45 : Arv Z h45 b kb .byte (4 : Int32) [(.int ((cc >>> ((0 : Int32) &&& 31)).toInt8.toInt32)), (.int (((cc >>> ((8 : Int32) &&& 31)).toInt8.toInt32).toInt8.toInt32)), (.int u2), (.int u3)] (.int (0 : Int32)) := Arv.set Ar45 q45 S45 M45 H45 G45 (fits_nar_byte _) W45 1 rfl (Nat.le_of_ble_eq_true rfl)
  rw [own_b8] at tmp45
  have OL := OL.wr W45 ge_b
  have KP := KP.wr W45 (Or.inl (List.mem_of_getElem? (i := 0) rfl))
  have Vb := tmp45
  exact own_ret0 X45 hx Bd.returns hlk (hb hby own_d_jdk_52_method_4_53) (by decide) (by decide) (by rw [e45]; exact ⟨rfl, N45, KP, Vb⟩)
def own_QPC_2_1 (Z : State) (u0 u1 u2 u3 cc : Int32) (G1 : Int32) (b : Addr) (kb : ClassId) (h0 : Heap) (n0 : Nat) (v : Option Value) (h : Heap) (L : List Loc) : Prop := v = none ∧ Fr n0 L ∧ Keep h0 h [b] ∧ Arv Z h b kb .byte (4 : Int32) [(.int u0), (.int u1), (.int ((cc >>> ((0 : Int32) &&& 31)).toInt8.toInt32)), (.int ((cc >>> ((8 : Int32) &&& 31)).toInt8.toInt32))] (.int (0 : Int32))
set_option maxRecDepth 65536 in
set_option maxHeartbeats 40000000 in
theorem own_rmPC_2_1 (l : Launch) (Z : State) (a0 : Array Value) (hw : ∀ d ∈ tables_1, d.before a0 Z = true) (ws : List Jvm.Cond) (u0 u1 u2 u3 cc : Int32) (G1 : Int32) (b : Addr) (kb : ClassId) (h0 : Heap) (n0 : Nat) (Z0 : n0 ≤ h0.size) (OL : Old Z n0 h0) (ge_b : n0 ≤ b) (Vb : Arv Z h0 b kb .byte (4 : Int32) [(.int u0), (.int u1), (.int u2), (.int u3)] (.int (0 : Int32))) (O2 : Sta Z Z.heap "java/lang/String" "COMPACT_STRINGS" "Z" (.int G1)) (P5 : ¬ (G1 = (0 : Int32))) (OAD : Sta Z Z.heap "java/lang/StringUTF16" "$assertionsDisabled" "Z" (.int (1 : Int32))) (OHI : Sta Z Z.heap "java/lang/StringUTF16" "HI_BYTE_SHIFT" "I" (.int (0 : Int32))) (OLO : Sta Z Z.heap "java/lang/StringUTF16" "LO_BYTE_SHIFT" "I" (.int (8 : Int32))) :
    MetFree l (⟨"java/lang/StringUTF16", "putChar", "([BII)V"⟩ : MethodName) (head1 (Jvm.Cond.code (⟨"java/lang/StringUTF16", "putChar", "([BII)V"⟩ : MethodName) jdk_52_method_4_code 3 none :: ws) ({ frames := 0, cells := 0, slots := 0, locals := 0 } : Room)) (fun aa_ U => aa_ = #[(.ref b), (.int (1 : Int32)), (.int cc)] ∧ Z.Warmed39 U.vm ∧ U.heap = h0) (fun _ _ _ _ _ => True) (fun _ U o U' => ∃ v L, o = .returned v ∧ own_QPC_2_1 Z u0 u1 u2 u3 cc G1 b kb h0 n0 v U'.heap L ∧ FrameEnd U o U' L ({ frames := 0, cells := 0, slots := 0, locals := 0 } : Room).cells ({ frames := 0, cells := 0, slots := 0, locals := 0 } : Room).slots) := by
  refine MetFree.of_bodySF (plainFor_of_name own_pn0) hisR ?_
  intro p e s m args below meth c s₁ Bd hml0 hP hK
  obtain ⟨rfl, hZ, hh⟩ := hP
  have hx := Bd.exec
  have hby := Bd.bytes
  have hlk : meth.locks = false := BodyLoose.notSynchronized Bd
  have hml : c.maxLocals = 3 := hml0
  have hown : s.vm.findClass "java/lang/StringUTF16" = some m.cls := findClass_of_methodNamed Bd.named
  have hnm := (name_of_methodNamed Bd.named Bd.method).1
  have X0 : Stand p l e ({ frames := 0, cells := 0, slots := 0, locals := 0 } : Room) s m #[(.ref b), (.int (1 : Int32)), (.int cc)] below meth c s₁ [] 0 0 := Stand.of_body Bd
  have e0 : s₁.heap = h0 := by rw [← hh, Bd.state]; rfl
  have N0 := Fr.nil n0
  have KP : Keep h0 h0 [b] := Keep.refl _ _
  refine own_start (Fin := (own_Fin s (own_QPC_2_1 Z u0 u1 u2 u3 cc G1 b kb h0 n0) ({ frames := 0, cells := 0, slots := 0, locals := 0 } : Room).cells ({ frames := 0, cells := 0, slots := 0, locals := 0 } : Room).slots)) (own_from (mkF m 0 #[rv b, iv 1, iv cc] []) (castTop (own_ef_PC_2_1 m b (1 : Int32) cc)) ?_)
  obtain ⟨T46, X46, e46, st46⟩ := getS2 X0 hx hZ hown (host := "") (Or.inl (hw _ (List.mem_of_getElem? (i := 82) rfl))) Via.refl e0 (OAD.ext OL.2) (g := (mkF m 0 #[rv b, iv 1, iv cc] [])) rfl (hb hby own_d_jdk_52_method_4_0)
  refine own_to (mkF m 3 #[rv b, iv 1, iv cc] [(.int (1 : Int32))]) st46 ?_
  refine own_to (T' := T46) (mkF m 28 #[rv b, iv 1, iv cc] []) (fun _ k => XS.ifYes X46.here hx rfl (pc0 := 3) (pc' := 28) rfl (hb hby own_d_jdk_52_method_4_3) rfl ((if0 _ _).trans (feq (by decide : ¬ ((1 : Int32) = (0 : Int32)))).2) (by decide) (by decide) k) ?_
  refine own_to (T' := T46) (mkF m 29 #[rv b, iv 1, iv cc] [(.int (1 : Int32))]) (fun _ k => XS.iloadN X46.here hx rfl (hb hby own_d_jdk_52_method_4_28) rfl k) ?_
  refine own_to (T' := T46) (mkF m 30 #[rv b, iv 1, iv cc] [(.int (1 : Int32)), (.int (1 : Int32))]) (fun _ k => XS.iconst X46.here hx rfl (hb hby own_d_jdk_52_method_4_29) k) ?_
  refine own_to (T' := T46) (mkF m 31 #[rv b, iv 1, iv cc] [(.int (2 : Int32))]) (fun _ k => XS.ishl X46.here hx rfl (hb hby own_d_jdk_52_method_4_30) rfl k) ?_
  refine own_to (T' := T46) (mkF m 32 #[rv b, iv 2, iv cc] []) (fun _ k => XS.istoreN X46.here hx rfl (hb hby own_d_jdk_52_method_4_31) rfl (l' := #[rv b, iv 2, iv cc]) rfl k) ?_
  refine own_to (T' := T46) (mkF m 33 #[rv b, iv 2, iv cc] [(.ref b)]) (fun _ k => XS.aloadN X46.here hx rfl (hb hby own_d_jdk_52_method_4_32) rfl rfl k) ?_
  refine own_to (T' := T46) (mkF m 34 #[rv b, iv 2, iv cc] [(.int (2 : Int32)), (.ref b)]) (fun _ k => XS.iloadN X46.here hx rfl (hb hby own_d_jdk_52_method_4_33) rfl k) ?_
  refine own_to (T' := T46) (mkF m 37 #[rv b, iv 3, iv cc] [(.int (2 : Int32)), (.ref b)]) (fun _ k => XS.iinc X46.here hx rfl (hb hby own_d_jdk_52_method_4_34) rfl (l' := #[rv b, iv 3, iv cc]) rfl k) ?_
  refine own_to (T' := T46) (mkF m 38 #[rv b, iv 3, iv cc] [(.int cc), (.int (2 : Int32)), (.ref b)]) (fun _ k => XS.iloadN X46.here hx rfl (hb hby own_d_jdk_52_method_4_37) rfl k) ?_
  obtain ⟨T47, X47, e47, st47⟩ := getS2 X46 hx hZ hown (host := "") (Or.inl (hw _ (List.mem_of_getElem? (i := 83) rfl))) Via.refl e46 (OHI.ext OL.2) (g := (mkF m 38 #[rv b, iv 3, iv cc] [(.int cc), (.int (2 : Int32)), (.ref b)])) rfl (hb hby own_d_jdk_52_method_4_38)
  refine own_to (mkF m 41 #[rv b, iv 3, iv cc] [(.int (0 : Int32)), (.int cc), (.int (2 : Int32)), (.ref b)]) st47 ?_
  refine own_to (T' := T47) (mkF m 42 #[rv b, iv 3, iv cc] [(.int (cc >>> ((0 : Int32) &&& 31))), (.int (2 : Int32)), (.ref b)]) (fun _ k => XS.ishr X47.here hx rfl (hb hby own_d_jdk_52_method_4_41) rfl k) ?_
  refine own_to (T' := T47) (mkF m 43 #[rv b, iv 3, iv cc] [(.int ((cc >>> ((0 : Int32) &&& 31)).toInt8.toInt32)), (.int (2 : Int32)), (.ref b)]) (fun _ k => XS.i2b X47.here hx rfl (hb hby own_d_jdk_52_method_4_42) rfl k) ?_
  obtain ⟨cl48, Ar48, q48, S48, M48, H48, G48⟩ := id Vb
  obtain ⟨T48, h48, X48, e48, W48, st48⟩ := stB X47 hx hZ e47 Ar48 (j := (2 : Int32)) (inb_of S48 ⟨by decide, by decide⟩) (g := (mkF m 43 #[rv b, iv 3, iv cc] [(.int ((cc >>> ((0 : Int32) &&& 31)).toInt8.toInt32)), (.int (2 : Int32)), (.ref b)])) rfl rfl (hb hby own_d_jdk_52_method_4_43)
  refine own_to (mkF m 44 #[rv b, iv 3, iv cc] []) st48 ?_
  have N48 := Fr.snoc X48 N0 ge_b
  have tmp48 : Arv Z h48 b kb .byte (4 : Int32) [(.int u0), (.int u1), (.int (((cc >>> ((0 : Int32) &&& 31)).toInt8.toInt32).toInt8.toInt32)), (.int u3)] (.int (0 : Int32)) := Arv.set Ar48 q48 S48 M48 H48 G48 (fits_nar_byte _) W48 2 rfl (Nat.le_of_ble_eq_true rfl)
  rw [own_b8] at tmp48
  have OL := OL.wr W48 ge_b
  have KP := KP.wr W48 (Or.inl (List.mem_of_getElem? (i := 0) rfl))
  have Vb := tmp48
  refine own_to (T' := T48) (mkF m 45 #[rv b, iv 3, iv cc] [(.ref b)]) (fun _ k => XS.aloadN X48.here hx rfl (hb hby own_d_jdk_52_method_4_44) rfl rfl k) ?_
  refine own_to (T' := T48) (mkF m 46 #[rv b, iv 3, iv cc] [(.int (3 : Int32)), (.ref b)]) (fun _ k => XS.iloadN X48.here hx rfl (hb hby own_d_jdk_52_method_4_45) rfl k) ?_
  refine own_to (T' := T48) (mkF m 47 #[rv b, iv 3, iv cc] [(.int cc), (.int (3 : Int32)), (.ref b)]) (fun _ k => XS.iloadN X48.here hx rfl (hb hby own_d_jdk_52_method_4_46) rfl k) ?_
  obtain ⟨T49, X49, e49, st49⟩ := getS2 X48 hx hZ hown (host := "") (Or.inl (hw _ (List.mem_of_getElem? (i := 84) rfl))) Via.refl e48 (OLO.ext OL.2) (g := (mkF m 47 #[rv b, iv 3, iv cc] [(.int cc), (.int (3 : Int32)), (.ref b)])) rfl (hb hby own_d_jdk_52_method_4_47)
  refine own_to (mkF m 50 #[rv b, iv 3, iv cc] [(.int (8 : Int32)), (.int cc), (.int (3 : Int32)), (.ref b)]) st49 ?_
  refine own_to (T' := T49) (mkF m 51 #[rv b, iv 3, iv cc] [(.int (cc >>> ((8 : Int32) &&& 31))), (.int (3 : Int32)), (.ref b)]) (fun _ k => XS.ishr X49.here hx rfl (hb hby own_d_jdk_52_method_4_50) rfl k) ?_
  refine own_to (T' := T49) (mkF m 52 #[rv b, iv 3, iv cc] [(.int ((cc >>> ((8 : Int32) &&& 31)).toInt8.toInt32)), (.int (3 : Int32)), (.ref b)]) (fun _ k => XS.i2b X49.here hx rfl (hb hby own_d_jdk_52_method_4_51) rfl k) ?_
  obtain ⟨cl50, Ar50, q50, S50, M50, H50, G50⟩ := id Vb
  obtain ⟨T50, h50, X50, e50, W50, st50⟩ := stB X49 hx hZ e49 Ar50 (j := (3 : Int32)) (inb_of S50 ⟨by decide, by decide⟩) (g := (mkF m 52 #[rv b, iv 3, iv cc] [(.int ((cc >>> ((8 : Int32) &&& 31)).toInt8.toInt32)), (.int (3 : Int32)), (.ref b)])) rfl rfl (hb hby own_d_jdk_52_method_4_52)
  refine own_to (mkF m 53 #[rv b, iv 3, iv cc] []) st50 ?_
  have N50 := Fr.snoc X50 N48 ge_b
  have tmp50 : Arv Z h50 b kb .byte (4 : Int32) [(.int u0), (.int u1), (.int ((cc >>> ((0 : Int32) &&& 31)).toInt8.toInt32)), (.int (((cc >>> ((8 : Int32) &&& 31)).toInt8.toInt32).toInt8.toInt32))] (.int (0 : Int32)) := Arv.set Ar50 q50 S50 M50 H50 G50 (fits_nar_byte _) W50 3 rfl (Nat.le_of_ble_eq_true rfl)
  rw [own_b8] at tmp50
  have OL := OL.wr W50 ge_b
  have KP := KP.wr W50 (Or.inl (List.mem_of_getElem? (i := 0) rfl))
  have Vb := tmp50
  exact own_ret0 X50 hx Bd.returns hlk (hb hby own_d_jdk_52_method_4_53) (by decide) (by decide) (by rw [e50]; exact ⟨rfl, N50, KP, Vb⟩)
def own_QTS_2 (Z : State) (x0 x1 : Int32) (G1 : Int32) (a : Addr) (ka : ClassId) (h0 : Heap) (n0 : Nat) (v : Option Value) (h : Heap) (L : List Loc) : Prop := ∃ (b : Addr) (kb : ClassId), v = some (.ref b) ∧ Fr n0 L ∧ Keep h0 h [] ∧ n0 ≤ b ∧ h0.size ≤ b ∧ Arv Z h b kb .byte (4 : Int32) [(.int ((x0 >>> ((0 : Int32) &&& 31)).toInt8.toInt32)), (.int ((x0 >>> ((8 : Int32) &&& 31)).toInt8.toInt32)), (.int ((x1 >>> ((0 : Int32) &&& 31)).toInt8.toInt32)), (.int ((x1 >>> ((8 : Int32) &&& 31)).toInt8.toInt32))] (.int (0 : Int32))
set_option maxRecDepth 65536 in
set_option maxHeartbeats 40000000 in
theorem own_rmTS_2 (l : Launch) (Z : State) (a0 : Array Value) (hw : ∀ d ∈ tables_1, d.before a0 Z = true) (ws : List Jvm.Cond) (x0 x1 : Int32) (G1 : Int32) (a : Addr) (ka : ClassId) (h0 : Heap) (n0 : Nat) (Z0 : n0 ≤ h0.size) (OL : Old Z n0 h0) (Va : Arv Z h0 a ka .char (2 : Int32) [(.int x0), (.int x1)] (.int (0 : Int32))) (O2 : Sta Z Z.heap "java/lang/String" "COMPACT_STRINGS" "Z" (.int G1)) (P5 : ¬ (G1 = (0 : Int32))) (OAD : Sta Z Z.heap "java/lang/StringUTF16" "$assertionsDisabled" "Z" (.int (1 : Int32))) (OHI : Sta Z Z.heap "java/lang/StringUTF16" "HI_BYTE_SHIFT" "I" (.int (0 : Int32))) (OLO : Sta Z Z.heap "java/lang/StringUTF16" "LO_BYTE_SHIFT" "I" (.int (8 : Int32))) :
    MetFree l (⟨"java/lang/StringUTF16", "toBytes", "([CII)[B"⟩ : MethodName) (head1 (Jvm.Cond.code (⟨"java/lang/StringUTF16", "toBytes", "([CII)[B"⟩ : MethodName) jdk_52_method_14_code 5 (some (.array .byte)) :: ws) ({ frames := 2, cells := 1, slots := 4, locals := 40 } : Room)) (fun aa_ U => aa_ = #[(.ref a), (.int (0 : Int32)), (.int (2 : Int32))] ∧ Z.Warmed39 U.vm ∧ U.heap = h0) (fun _ _ _ _ _ => True) (fun _ U o U' => ∃ v L, o = .returned v ∧ own_QTS_2 Z x0 x1 G1 a ka h0 n0 v U'.heap L ∧ FrameEnd U o U' L ({ frames := 2, cells := 1, slots := 4, locals := 40 } : Room).cells ({ frames := 2, cells := 1, slots := 4, locals := 40 } : Room).slots) := by
  refine MetFree.of_bodySF (plainFor_of_name own_pn0) hisR ?_
  intro p e s m args below meth c s₁ Bd hml0 hP hK
  obtain ⟨rfl, hZ, hh⟩ := hP
  have hx := Bd.exec
  have hby := Bd.bytes
  have hlk : meth.locks = false := BodyLoose.notSynchronized Bd
  have hml : c.maxLocals = 5 := hml0
  have hown : s.vm.findClass "java/lang/StringUTF16" = some m.cls := findClass_of_methodNamed Bd.named
  have hnm := (name_of_methodNamed Bd.named Bd.method).1
  have X0 : Stand p l e ({ frames := 2, cells := 1, slots := 4, locals := 40 } : Room) s m #[(.ref a), (.int (0 : Int32)), (.int (2 : Int32))] below meth c s₁ [] 0 0 := Stand.of_body Bd
  have e0 : s₁.heap = h0 := by rw [← hh, Bd.state]; rfl
  have N0 := Fr.nil n0
  have KP : Keep h0 h0 [] := Keep.refl _ _
  refine own_start (Fin := (own_Fin s (own_QTS_2 Z x0 x1 G1 a ka h0 n0) ({ frames := 2, cells := 1, slots := 4, locals := 40 } : Room).cells ({ frames := 2, cells := 1, slots := 4, locals := 40 } : Room).slots)) (own_from (mkF m 0 #[rv a, iv 0, iv 2, .unset, .unset] []) (castTop (own_ef_TS_2 m a (0 : Int32) (2 : Int32))) ?_)
  refine own_to (T' := s₁) (mkF m 1 #[rv a, iv 0, iv 2, .unset, .unset] [(.int (2 : Int32))]) (fun _ k => XS.iloadN X0.here hx rfl (hb hby own_d_jdk_52_method_14_0) rfl k) ?_
  have KP0 := KP
  have lt0_a := Va.lt
  obtain ⟨_, _, ⟨T51, L51, k51, n51⟩, -, X51, ⟨Lc51, hQ51, l51, y51, z51⟩, st51⟩ := Jvm.LawKit.callS X0 hx (y := (⟨"java/lang/StringUTF16", "newBytesFor", "(I)[B"⟩ : MethodName)) hown (mvT hZ (hw _ (List.mem_of_getElem? (i := 72) rfl))) (mvT hZ (hw _ (List.mem_of_getElem? (i := 73) rfl))) (mvT hZ (hw _ (List.mem_of_getElem? (i := 18) rfl))) (mvT hZ (hw _ (List.mem_of_getElem? (i := 74) rfl))) (by decide) (backOf (W := 0) (own_rmNF_2 l Z a0 hw [] h0 n0 (Nat.le_trans Z0 KP.1) OL) hZ (hw _ (List.mem_of_getElem? (i := 74) rfl)) (hw _ (List.mem_of_getElem? (i := 18) rfl)) (by decide) (by decide)) (g := (mkF m 1 #[rv a, iv 0, iv 2, .unset, .unset] [(.int (2 : Int32))])) rfl (by rw [hml]; rfl) (argsL := [(.int (2 : Int32))]) (rest := []) (lenOf own_pd1 rfl) rfl (by show 2 * 0 + _ ≤ _; exact Nat.le_of_eq rfl) (hb hby own_d_jdk_52_method_14_1) (fun _ _ => ⟨rfl, e0, (by decide : 0 + 1 ≤ _), (by decide : 0 + 4 ≤ _)⟩)
  dsimp only [Pt.U, Pt.locs, Pt.cells, Pt.slots] at X51 l51 y51 z51 st51 hQ51
  subst l51 y51 z51
  obtain ⟨bu, kbu, rfl, N51q, K51, ge_bu, sz0_bu, V0_bu⟩ := hQ51
  have N51 := Fr.app N0 N51q
  have OL := OL.keep K51 all0
  have KP := KP.trans K51 all0
  have Va := Va.keep K51 nin0
  refine own_to (mkF m 4 #[rv a, iv 0, iv 2, .unset, .unset] [(.ref bu)]) st51 ?_
  have sz_bu : h0.size ≤ bu := Nat.le_trans KP0.1 sz0_bu
  have ne_a_bu : a ≠ bu := Nat.ne_of_lt (Nat.lt_of_lt_of_le lt0_a sz0_bu)
  have Vu : Arv Z T51.heap bu kbu .byte (4 : Int32) [(.int (0 : Int32)), (.int (0 : Int32)), (.int (0 : Int32)), (.int (0 : Int32))] (.int (0 : Int32)) := V0_bu
  refine own_to (T' := T51) (mkF m 5 #[rv a, iv 0, iv 2, rv bu, .unset] []) (fun _ k => XS.astoreN X51.here hx rfl (hb hby own_d_jdk_52_method_14_4) rfl rfl (l' := #[rv a, iv 0, iv 2, rv bu, .unset]) rfl k) ?_
  refine own_to (T' := T51) (mkF m 6 #[rv a, iv 0, iv 2, rv bu, .unset] [(.int (0 : Int32))]) (fun _ k => XS.iconst X51.here hx rfl (hb hby own_d_jdk_52_method_14_5) k) ?_
  refine own_to (T' := T51) (mkF m 8 #[rv a, iv 0, iv 2, rv bu, iv 0] []) (fun _ k => XS.istore X51.here hx rfl (hb hby own_d_jdk_52_method_14_6) rfl (l' := #[rv a, iv 0, iv 2, rv bu, iv 0]) rfl k) ?_
  refine own_to (T' := T51) (mkF m 10 #[rv a, iv 0, iv 2, rv bu, iv 0] [(.int (0 : Int32))]) (fun _ k => XS.iload X51.here hx rfl (hb hby own_d_jdk_52_method_14_8) rfl k) ?_
  refine own_to (T' := T51) (mkF m 11 #[rv a, iv 0, iv 2, rv bu, iv 0] [(.int (2 : Int32)), (.int (0 : Int32))]) (fun _ k => XS.iloadN X51.here hx rfl (hb hby own_d_jdk_52_method_14_10) rfl k) ?_
  refine own_to (T' := T51) (mkF m 14 #[rv a, iv 0, iv 2, rv bu, iv 0] []) (fun _ k => XS.icmpNo X51.here hx rfl (hb hby own_d_jdk_52_method_14_11) rfl (tlt (by decide : (0 : Int32) < (2 : Int32))).2.1 k) ?_
  refine own_to (T' := T51) (mkF m 15 #[rv a, iv 0, iv 2, rv bu, iv 0] [(.ref bu)]) (fun _ k => XS.aloadN X51.here hx rfl (hb hby own_d_jdk_52_method_14_14) rfl rfl k) ?_
  refine own_to (T' := T51) (mkF m 17 #[rv a, iv 0, iv 2, rv bu, iv 0] [(.int (0 : Int32)), (.ref bu)]) (fun _ k => XS.iload X51.here hx rfl (hb hby own_d_jdk_52_method_14_15) rfl k) ?_
  refine own_to (T' := T51) (mkF m 18 #[rv a, iv 0, iv 2, rv bu, iv 0] [(.ref a), (.int (0 : Int32)), (.ref bu)]) (fun _ k => XS.aloadN X51.here hx rfl (hb hby own_d_jdk_52_method_14_17) rfl rfl k) ?_
  refine own_to (T' := T51) (mkF m 19 #[rv a, iv 0, iv 2, rv bu, iv 0] [(.int (0 : Int32)), (.ref a), (.int (0 : Int32)), (.ref bu)]) (fun _ k => XS.iloadN X51.here hx rfl (hb hby own_d_jdk_52_method_14_18) rfl k) ?_
  obtain ⟨cl52, Ar52, -, S52, -, H52, -⟩ := id Va
  refine own_to (mkF m 20 #[rv a, iv 0, iv 2, rv bu, iv 0] [(.int x0), (.int (0 : Int32)), (.ref bu)]) (X51.caload hx (j := (0 : Int32)) (v := (.int x0)) Ar52.1 (State.isArrayOf_alike hZ.alike Ar52.2.1) Ar52.2.2 (inb_of S52 ⟨by decide, by decide⟩) (H52.at (inb_of S52 ⟨by decide, by decide⟩) rfl) (g := (mkF m 19 #[rv a, iv 0, iv 2, rv bu, iv 0] [(.int (0 : Int32)), (.ref a), (.int (0 : Int32)), (.ref bu)])) rfl rfl (hb hby own_d_jdk_52_method_14_19)) ?_
  obtain ⟨_, _, ⟨T53, L53, k53, n53⟩, -, X53, ⟨Lc53, hQ53, l53, y53, z53⟩, st53⟩ := Jvm.LawKit.callS X51 hx (y := (⟨"java/lang/StringUTF16", "putChar", "([BII)V"⟩ : MethodName)) hown (mvT hZ (hw _ (List.mem_of_getElem? (i := 79) rfl))) (mvT hZ (hw _ (List.mem_of_getElem? (i := 80) rfl))) (mvT hZ (hw _ (List.mem_of_getElem? (i := 18) rfl))) (mvT hZ (hw _ (List.mem_of_getElem? (i := 81) rfl))) (by decide) (backOf (W := 0) (own_rmPC_2_0 l Z a0 hw [] (0 : Int32) (0 : Int32) (0 : Int32) (0 : Int32) x0 G1 bu kbu T51.heap n0 (Nat.le_trans Z0 KP.1) OL ge_bu Vu O2 P5 OAD OHI OLO) hZ (hw _ (List.mem_of_getElem? (i := 81) rfl)) (hw _ (List.mem_of_getElem? (i := 18) rfl)) (by decide) (by decide)) (g := (mkF m 20 #[rv a, iv 0, iv 2, rv bu, iv 0] [(.int x0), (.int (0 : Int32)), (.ref bu)])) rfl (by rw [hml]; rfl) (argsL := [(.ref bu), (.int (0 : Int32)), (.int x0)]) (rest := []) (lenOf own_pd2 rfl) rfl (by show 2 * 0 + _ ≤ _; exact Nat.le_of_eq rfl) (hb hby own_d_jdk_52_method_14_20) (fun _ _ => ⟨rfl, rfl, (by decide : 1 + 0 ≤ _), (by decide : 4 + 0 ≤ _)⟩)
  dsimp only [Pt.U, Pt.locs, Pt.cells, Pt.slots] at X53 l53 y53 z53 st53 hQ53
  subst l53 y53 z53
  obtain ⟨rfl, N53q, K53, Vq53⟩ := hQ53
  have N53 := Fr.app N51 N53q
  have OL := OL.keep K53 (allS ge_bu all0)
  have KP := KP.trans K53 (allS (Or.inr sz_bu) all0)
  have Va := Va.keep K53 (ninS ne_a_bu nin0)
  refine own_to (mkF m 23 #[rv a, iv 0, iv 2, rv bu, iv 0] []) st53 ?_
  have Vu : Arv Z T53.heap bu kbu .byte (4 : Int32) [(.int ((x0 >>> ((0 : Int32) &&& 31)).toInt8.toInt32)), (.int ((x0 >>> ((8 : Int32) &&& 31)).toInt8.toInt32)), (.int (0 : Int32)), (.int (0 : Int32))] (.int (0 : Int32)) := Vq53
  refine own_to (T' := T53) (mkF m 26 #[rv a, iv 1, iv 2, rv bu, iv 0] []) (fun _ k => XS.iinc X53.here hx rfl (hb hby own_d_jdk_52_method_14_23) rfl (l' := #[rv a, iv 1, iv 2, rv bu, iv 0]) rfl k) ?_
  refine own_to (T' := T53) (mkF m 29 #[rv a, iv 1, iv 2, rv bu, iv 1] []) (fun _ k => XS.iinc X53.here hx rfl (hb hby own_d_jdk_52_method_14_26) rfl (l' := #[rv a, iv 1, iv 2, rv bu, iv 1]) rfl k) ?_
  refine own_to (T' := T53) (mkF m 8 #[rv a, iv 1, iv 2, rv bu, iv 1] []) (fun _ k => XS.goto X53.here hx rfl (pc0 := 29) (pc' := 8) rfl (hb hby own_d_jdk_52_method_14_29) (by decide) (by decide) k) ?_
  refine own_to (T' := T53) (mkF m 10 #[rv a, iv 1, iv 2, rv bu, iv 1] [(.int (1 : Int32))]) (fun _ k => XS.iload X53.here hx rfl (hb hby own_d_jdk_52_method_14_8) rfl k) ?_
  refine own_to (T' := T53) (mkF m 11 #[rv a, iv 1, iv 2, rv bu, iv 1] [(.int (2 : Int32)), (.int (1 : Int32))]) (fun _ k => XS.iloadN X53.here hx rfl (hb hby own_d_jdk_52_method_14_10) rfl k) ?_
  refine own_to (T' := T53) (mkF m 14 #[rv a, iv 1, iv 2, rv bu, iv 1] []) (fun _ k => XS.icmpNo X53.here hx rfl (hb hby own_d_jdk_52_method_14_11) rfl (tlt (by decide : (1 : Int32) < (2 : Int32))).2.1 k) ?_
  refine own_to (T' := T53) (mkF m 15 #[rv a, iv 1, iv 2, rv bu, iv 1] [(.ref bu)]) (fun _ k => XS.aloadN X53.here hx rfl (hb hby own_d_jdk_52_method_14_14) rfl rfl k) ?_
  refine own_to (T' := T53) (mkF m 17 #[rv a, iv 1, iv 2, rv bu, iv 1] [(.int (1 : Int32)), (.ref bu)]) (fun _ k => XS.iload X53.here hx rfl (hb hby own_d_jdk_52_method_14_15) rfl k) ?_
  refine own_to (T' := T53) (mkF m 18 #[rv a, iv 1, iv 2, rv bu, iv 1] [(.ref a), (.int (1 : Int32)), (.ref bu)]) (fun _ k => XS.aloadN X53.here hx rfl (hb hby own_d_jdk_52_method_14_17) rfl rfl k) ?_
  refine own_to (T' := T53) (mkF m 19 #[rv a, iv 1, iv 2, rv bu, iv 1] [(.int (1 : Int32)), (.ref a), (.int (1 : Int32)), (.ref bu)]) (fun _ k => XS.iloadN X53.here hx rfl (hb hby own_d_jdk_52_method_14_18) rfl k) ?_
  obtain ⟨cl54, Ar54, -, S54, -, H54, -⟩ := id Va
  refine own_to (mkF m 20 #[rv a, iv 1, iv 2, rv bu, iv 1] [(.int x1), (.int (1 : Int32)), (.ref bu)]) (X53.caload hx (j := (1 : Int32)) (v := (.int x1)) Ar54.1 (State.isArrayOf_alike hZ.alike Ar54.2.1) Ar54.2.2 (inb_of S54 ⟨by decide, by decide⟩) (H54.at (inb_of S54 ⟨by decide, by decide⟩) rfl) (g := (mkF m 19 #[rv a, iv 1, iv 2, rv bu, iv 1] [(.int (1 : Int32)), (.ref a), (.int (1 : Int32)), (.ref bu)])) rfl rfl (hb hby own_d_jdk_52_method_14_19)) ?_
  obtain ⟨_, _, ⟨T55, L55, k55, n55⟩, -, X55, ⟨Lc55, hQ55, l55, y55, z55⟩, st55⟩ := Jvm.LawKit.callS X53 hx (y := (⟨"java/lang/StringUTF16", "putChar", "([BII)V"⟩ : MethodName)) hown (mvT hZ (hw _ (List.mem_of_getElem? (i := 79) rfl))) (mvT hZ (hw _ (List.mem_of_getElem? (i := 80) rfl))) (mvT hZ (hw _ (List.mem_of_getElem? (i := 18) rfl))) (mvT hZ (hw _ (List.mem_of_getElem? (i := 81) rfl))) (by decide) (backOf (W := 0) (own_rmPC_2_1 l Z a0 hw [] ((x0 >>> ((0 : Int32) &&& 31)).toInt8.toInt32) ((x0 >>> ((8 : Int32) &&& 31)).toInt8.toInt32) (0 : Int32) (0 : Int32) x1 G1 bu kbu T53.heap n0 (Nat.le_trans Z0 KP.1) OL ge_bu Vu O2 P5 OAD OHI OLO) hZ (hw _ (List.mem_of_getElem? (i := 81) rfl)) (hw _ (List.mem_of_getElem? (i := 18) rfl)) (by decide) (by decide)) (g := (mkF m 20 #[rv a, iv 1, iv 2, rv bu, iv 1] [(.int x1), (.int (1 : Int32)), (.ref bu)])) rfl (by rw [hml]; rfl) (argsL := [(.ref bu), (.int (1 : Int32)), (.int x1)]) (rest := []) (lenOf own_pd2 rfl) rfl (by show 2 * 0 + _ ≤ _; exact Nat.le_of_eq rfl) (hb hby own_d_jdk_52_method_14_20) (fun _ _ => ⟨rfl, rfl, (by decide : 1 + 0 ≤ _), (by decide : 4 + 0 ≤ _)⟩)
  dsimp only [Pt.U, Pt.locs, Pt.cells, Pt.slots] at X55 l55 y55 z55 st55 hQ55
  subst l55 y55 z55
  obtain ⟨rfl, N55q, K55, Vq55⟩ := hQ55
  have N55 := Fr.app N53 N55q
  have OL := OL.keep K55 (allS ge_bu all0)
  have KP := KP.trans K55 (allS (Or.inr sz_bu) all0)
  have Va := Va.keep K55 (ninS ne_a_bu nin0)
  refine own_to (mkF m 23 #[rv a, iv 1, iv 2, rv bu, iv 1] []) st55 ?_
  have Vu : Arv Z T55.heap bu kbu .byte (4 : Int32) [(.int ((x0 >>> ((0 : Int32) &&& 31)).toInt8.toInt32)), (.int ((x0 >>> ((8 : Int32) &&& 31)).toInt8.toInt32)), (.int ((x1 >>> ((0 : Int32) &&& 31)).toInt8.toInt32)), (.int ((x1 >>> ((8 : Int32) &&& 31)).toInt8.toInt32))] (.int (0 : Int32)) := Vq55
  refine own_to (T' := T55) (mkF m 26 #[rv a, iv 2, iv 2, rv bu, iv 1] []) (fun _ k => XS.iinc X55.here hx rfl (hb hby own_d_jdk_52_method_14_23) rfl (l' := #[rv a, iv 2, iv 2, rv bu, iv 1]) rfl k) ?_
  refine own_to (T' := T55) (mkF m 29 #[rv a, iv 2, iv 2, rv bu, iv 2] []) (fun _ k => XS.iinc X55.here hx rfl (hb hby own_d_jdk_52_method_14_26) rfl (l' := #[rv a, iv 2, iv 2, rv bu, iv 2]) rfl k) ?_
  refine own_to (T' := T55) (mkF m 8 #[rv a, iv 2, iv 2, rv bu, iv 2] []) (fun _ k => XS.goto X55.here hx rfl (pc0 := 29) (pc' := 8) rfl (hb hby own_d_jdk_52_method_14_29) (by decide) (by decide) k) ?_
  refine own_to (T' := T55) (mkF m 10 #[rv a, iv 2, iv 2, rv bu, iv 2] [(.int (2 : Int32))]) (fun _ k => XS.iload X55.here hx rfl (hb hby own_d_jdk_52_method_14_8) rfl k) ?_
  refine own_to (T' := T55) (mkF m 11 #[rv a, iv 2, iv 2, rv bu, iv 2] [(.int (2 : Int32)), (.int (2 : Int32))]) (fun _ k => XS.iloadN X55.here hx rfl (hb hby own_d_jdk_52_method_14_10) rfl k) ?_
  refine own_to (T' := T55) (mkF m 32 #[rv a, iv 2, iv 2, rv bu, iv 2] []) (fun _ k => XS.icmpYes X55.here hx rfl (pc0 := 11) (pc' := 32) rfl (hb hby own_d_jdk_52_method_14_11) rfl (flt (by decide : ¬ ((2 : Int32) < (2 : Int32)))).2.1 (by decide) (by decide) k) ?_
  refine own_to (T' := T55) (mkF m 33 #[rv a, iv 2, iv 2, rv bu, iv 2] [(.ref bu)]) (fun _ k => XS.aloadN X55.here hx rfl (hb hby own_d_jdk_52_method_14_32) rfl rfl k) ?_
  exact own_retA X55 hx Bd.returns rfl hlk (hb hby own_d_jdk_52_method_14_33) rfl (by decide) (by decide) (by exact ⟨bu, kbu, rfl, N55, KP, ge_bu, sz_bu, Vu⟩)
def own_QGC_2_0 (Z : State) (x0 x1 : Int32) (G1 : Int32) (b : Addr) (kb : ClassId) (h0 : Heap) (n0 : Nat) (v : Option Value) (h : Heap) (L : List Loc) : Prop := v = some (.int x0) ∧ Fr n0 L ∧ h = h0
set_option maxRecDepth 65536 in
set_option maxHeartbeats 40000000 in
theorem own_rmGC_2_0 (l : Launch) (Z : State) (a0 : Array Value) (hw : ∀ d ∈ tables_1, d.before a0 Z = true) (ws : List Jvm.Cond) (x0 x1 : Int32) (G1 : Int32) (b : Addr) (kb : ClassId) (h0 : Heap) (n0 : Nat) (Z0 : n0 ≤ h0.size) (OL : Old Z n0 h0) (hx0 : own_C16 x0) (Vb : Arv Z h0 b kb .byte (4 : Int32) [(.int ((x0 >>> ((0 : Int32) &&& 31)).toInt8.toInt32)), (.int ((x0 >>> ((8 : Int32) &&& 31)).toInt8.toInt32)), (.int ((x1 >>> ((0 : Int32) &&& 31)).toInt8.toInt32)), (.int ((x1 >>> ((8 : Int32) &&& 31)).toInt8.toInt32))] (.int (0 : Int32))) (O2 : Sta Z Z.heap "java/lang/String" "COMPACT_STRINGS" "Z" (.int G1)) (P5 : ¬ (G1 = (0 : Int32))) (OAD : Sta Z Z.heap "java/lang/StringUTF16" "$assertionsDisabled" "Z" (.int (1 : Int32))) (OHI : Sta Z Z.heap "java/lang/StringUTF16" "HI_BYTE_SHIFT" "I" (.int (0 : Int32))) (OLO : Sta Z Z.heap "java/lang/StringUTF16" "LO_BYTE_SHIFT" "I" (.int (8 : Int32))) :
    MetFree l (⟨"java/lang/StringUTF16", "getChar", "([BI)C"⟩ : MethodName) (head1 (Jvm.Cond.code (⟨"java/lang/StringUTF16", "getChar", "([BI)C"⟩ : MethodName) jdk_52_method_5_code 2 (some .char) :: ws) ({ frames := 0, cells := 0, slots := 0, locals := 0 } : Room)) (fun aa_ U => aa_ = #[(.ref b), (.int (0 : Int32))] ∧ Z.Warmed39 U.vm ∧ U.heap = h0) (fun _ _ _ _ _ => True) (fun _ U o U' => ∃ v L, o = .returned v ∧ own_QGC_2_0 Z x0 x1 G1 b kb h0 n0 v U'.heap L ∧ FrameEnd U o U' L ({ frames := 0, cells := 0, slots := 0, locals := 0 } : Room).cells ({ frames := 0, cells := 0, slots := 0, locals := 0 } : Room).slots) := by
  refine MetFree.of_bodySF (plainFor_of_name own_pn0) hisR ?_
  intro p e s m args below meth c s₁ Bd hml0 hP hK
  obtain ⟨rfl, hZ, hh⟩ := hP
  have hx := Bd.exec
  have hby := Bd.bytes
  have hlk : meth.locks = false := BodyLoose.notSynchronized Bd
  have hml : c.maxLocals = 2 := hml0
  have hown : s.vm.findClass "java/lang/StringUTF16" = some m.cls := findClass_of_methodNamed Bd.named
  have hnm := (name_of_methodNamed Bd.named Bd.method).1
  have X0 : Stand p l e ({ frames := 0, cells := 0, slots := 0, locals := 0 } : Room) s m #[(.ref b), (.int (0 : Int32))] below meth c s₁ [] 0 0 := Stand.of_body Bd
  have e0 : s₁.heap = h0 := by rw [← hh, Bd.state]; rfl
  have N0 := Fr.nil n0
  have KP : Keep h0 h0 [] := Keep.refl _ _
  refine own_start (Fin := (own_Fin s (own_QGC_2_0 Z x0 x1 G1 b kb h0 n0) ({ frames := 0, cells := 0, slots := 0, locals := 0 } : Room).cells ({ frames := 0, cells := 0, slots := 0, locals := 0 } : Room).slots)) (own_from (mkF m 0 #[rv b, iv 0] []) (castTop (own_ef_GC_2_0 m b (0 : Int32))) ?_)
  obtain ⟨T56, X56, e56, st56⟩ := getS2 X0 hx hZ hown (host := "") (Or.inl (hw _ (List.mem_of_getElem? (i := 82) rfl))) Via.refl e0 (OAD.ext OL.2) (g := (mkF m 0 #[rv b, iv 0] [])) rfl (hb hby own_d_jdk_52_method_5_0)
  refine own_to (mkF m 3 #[rv b, iv 0] [(.int (1 : Int32))]) st56 ?_
  refine own_to (T' := T56) (mkF m 28 #[rv b, iv 0] []) (fun _ k => XS.ifYes X56.here hx rfl (pc0 := 3) (pc' := 28) rfl (hb hby own_d_jdk_52_method_5_3) rfl ((if0 _ _).trans (feq (by decide : ¬ ((1 : Int32) = (0 : Int32)))).2) (by decide) (by decide) k) ?_
  refine own_to (T' := T56) (mkF m 29 #[rv b, iv 0] [(.int (0 : Int32))]) (fun _ k => XS.iloadN X56.here hx rfl (hb hby own_d_jdk_52_method_5_28) rfl k) ?_
  refine own_to (T' := T56) (mkF m 30 #[rv b, iv 0] [(.int (1 : Int32)), (.int (0 : Int32))]) (fun _ k => XS.iconst X56.here hx rfl (hb hby own_d_jdk_52_method_5_29) k) ?_
  refine own_to (T' := T56) (mkF m 31 #[rv b, iv 0] [(.int (0 : Int32))]) (fun _ k => XS.ishl X56.here hx rfl (hb hby own_d_jdk_52_method_5_30) rfl k) ?_
  refine own_to (T' := T56) (mkF m 32 #[rv b, iv 0] []) (fun _ k => XS.istoreN X56.here hx rfl (hb hby own_d_jdk_52_method_5_31) rfl (l' := #[rv b, iv 0]) rfl k) ?_
  refine own_to (T' := T56) (mkF m 33 #[rv b, iv 0] [(.ref b)]) (fun _ k => XS.aloadN X56.here hx rfl (hb hby own_d_jdk_52_method_5_32) rfl rfl k) ?_
  refine own_to (T' := T56) (mkF m 34 #[rv b, iv 0] [(.int (0 : Int32)), (.ref b)]) (fun _ k => XS.iloadN X56.here hx rfl (hb hby own_d_jdk_52_method_5_33) rfl k) ?_
  refine own_to (T' := T56) (mkF m 37 #[rv b, iv 1] [(.int (0 : Int32)), (.ref b)]) (fun _ k => XS.iinc X56.here hx rfl (hb hby own_d_jdk_52_method_5_34) rfl (l' := #[rv b, iv 1]) rfl k) ?_
  obtain ⟨cl57, Ar57, -, S57, -, H57, -⟩ := id Vb
  refine own_to (mkF m 38 #[rv b, iv 1] [(.int ((x0 >>> ((0 : Int32) &&& 31)).toInt8.toInt32))]) (X56.baloadBytes hx (j := (0 : Int32)) (v := (.int ((x0 >>> ((0 : Int32) &&& 31)).toInt8.toInt32))) (by rw [e56]; exact Ar57.1) (State.isArrayOf_alike hZ.alike Ar57.2.1) Ar57.2.2 (inb_of S57 ⟨by decide, by decide⟩) (H57.at (inb_of S57 ⟨by decide, by decide⟩) rfl) (g := (mkF m 37 #[rv b, iv 1] [(.int (0 : Int32)), (.ref b)])) rfl rfl (hb hby own_d_jdk_52_method_5_37)) ?_
  refine own_to (T' := T56) (mkF m 41 #[rv b, iv 1] [(.int (255 : Int32)), (.int ((x0 >>> ((0 : Int32) &&& 31)).toInt8.toInt32))]) (fun _ k => XS.sipush X56.here hx rfl (hb hby own_d_jdk_52_method_5_38) k) ?_
  refine own_to (T' := T56) (mkF m 42 #[rv b, iv 1] [(.int (((x0 >>> ((0 : Int32) &&& 31)).toInt8.toInt32) &&& (255 : Int32)))]) (fun _ k => XS.iand X56.here hx rfl (hb hby own_d_jdk_52_method_5_41) rfl k) ?_
  obtain ⟨T58, X58, e58, st58⟩ := getS2 X56 hx hZ hown (host := "") (Or.inl (hw _ (List.mem_of_getElem? (i := 83) rfl))) Via.refl e56 (OHI.ext OL.2) (g := (mkF m 42 #[rv b, iv 1] [(.int (((x0 >>> ((0 : Int32) &&& 31)).toInt8.toInt32) &&& (255 : Int32)))])) rfl (hb hby own_d_jdk_52_method_5_42)
  refine own_to (mkF m 45 #[rv b, iv 1] [(.int (0 : Int32)), (.int (((x0 >>> ((0 : Int32) &&& 31)).toInt8.toInt32) &&& (255 : Int32)))]) st58 ?_
  refine own_to (T' := T58) (mkF m 46 #[rv b, iv 1] [(.int ((((x0 >>> ((0 : Int32) &&& 31)).toInt8.toInt32) &&& (255 : Int32)) <<< ((0 : Int32) &&& 31)))]) (fun _ k => XS.ishl X58.here hx rfl (hb hby own_d_jdk_52_method_5_45) rfl k) ?_
  refine own_to (T' := T58) (mkF m 47 #[rv b, iv 1] [(.ref b), (.int ((((x0 >>> ((0 : Int32) &&& 31)).toInt8.toInt32) &&& (255 : Int32)) <<< ((0 : Int32) &&& 31)))]) (fun _ k => XS.aloadN X58.here hx rfl (hb hby own_d_jdk_52_method_5_46) rfl rfl k) ?_
  refine own_to (T' := T58) (mkF m 48 #[rv b, iv 1] [(.int (1 : Int32)), (.ref b), (.int ((((x0 >>> ((0 : Int32) &&& 31)).toInt8.toInt32) &&& (255 : Int32)) <<< ((0 : Int32) &&& 31)))]) (fun _ k => XS.iloadN X58.here hx rfl (hb hby own_d_jdk_52_method_5_47) rfl k) ?_
  obtain ⟨cl59, Ar59, -, S59, -, H59, -⟩ := id Vb
  refine own_to (mkF m 49 #[rv b, iv 1] [(.int ((x0 >>> ((8 : Int32) &&& 31)).toInt8.toInt32)), (.int ((((x0 >>> ((0 : Int32) &&& 31)).toInt8.toInt32) &&& (255 : Int32)) <<< ((0 : Int32) &&& 31)))]) (X58.baloadBytes hx (j := (1 : Int32)) (v := (.int ((x0 >>> ((8 : Int32) &&& 31)).toInt8.toInt32))) (by rw [e58]; exact Ar59.1) (State.isArrayOf_alike hZ.alike Ar59.2.1) Ar59.2.2 (inb_of S59 ⟨by decide, by decide⟩) (H59.at (inb_of S59 ⟨by decide, by decide⟩) rfl) (g := (mkF m 48 #[rv b, iv 1] [(.int (1 : Int32)), (.ref b), (.int ((((x0 >>> ((0 : Int32) &&& 31)).toInt8.toInt32) &&& (255 : Int32)) <<< ((0 : Int32) &&& 31)))])) rfl rfl (hb hby own_d_jdk_52_method_5_48)) ?_
  refine own_to (T' := T58) (mkF m 52 #[rv b, iv 1] [(.int (255 : Int32)), (.int ((x0 >>> ((8 : Int32) &&& 31)).toInt8.toInt32)), (.int ((((x0 >>> ((0 : Int32) &&& 31)).toInt8.toInt32) &&& (255 : Int32)) <<< ((0 : Int32) &&& 31)))]) (fun _ k => XS.sipush X58.here hx rfl (hb hby own_d_jdk_52_method_5_49) k) ?_
  refine own_to (T' := T58) (mkF m 53 #[rv b, iv 1] [(.int (((x0 >>> ((8 : Int32) &&& 31)).toInt8.toInt32) &&& (255 : Int32))), (.int ((((x0 >>> ((0 : Int32) &&& 31)).toInt8.toInt32) &&& (255 : Int32)) <<< ((0 : Int32) &&& 31)))]) (fun _ k => XS.iand X58.here hx rfl (hb hby own_d_jdk_52_method_5_52) rfl k) ?_
  obtain ⟨T60, X60, e60, st60⟩ := getS2 X58 hx hZ hown (host := "") (Or.inl (hw _ (List.mem_of_getElem? (i := 84) rfl))) Via.refl e58 (OLO.ext OL.2) (g := (mkF m 53 #[rv b, iv 1] [(.int (((x0 >>> ((8 : Int32) &&& 31)).toInt8.toInt32) &&& (255 : Int32))), (.int ((((x0 >>> ((0 : Int32) &&& 31)).toInt8.toInt32) &&& (255 : Int32)) <<< ((0 : Int32) &&& 31)))])) rfl (hb hby own_d_jdk_52_method_5_53)
  refine own_to (mkF m 56 #[rv b, iv 1] [(.int (8 : Int32)), (.int (((x0 >>> ((8 : Int32) &&& 31)).toInt8.toInt32) &&& (255 : Int32))), (.int ((((x0 >>> ((0 : Int32) &&& 31)).toInt8.toInt32) &&& (255 : Int32)) <<< ((0 : Int32) &&& 31)))]) st60 ?_
  refine own_to (T' := T60) (mkF m 57 #[rv b, iv 1] [(.int ((((x0 >>> ((8 : Int32) &&& 31)).toInt8.toInt32) &&& (255 : Int32)) <<< ((8 : Int32) &&& 31))), (.int ((((x0 >>> ((0 : Int32) &&& 31)).toInt8.toInt32) &&& (255 : Int32)) <<< ((0 : Int32) &&& 31)))]) (fun _ k => XS.ishl X60.here hx rfl (hb hby own_d_jdk_52_method_5_56) rfl k) ?_
  refine own_to (T' := T60) (mkF m 58 #[rv b, iv 1] [(.int (((((x0 >>> ((0 : Int32) &&& 31)).toInt8.toInt32) &&& (255 : Int32)) <<< ((0 : Int32) &&& 31)) ||| ((((x0 >>> ((8 : Int32) &&& 31)).toInt8.toInt32) &&& (255 : Int32)) <<< ((8 : Int32) &&& 31))))]) (fun _ k => XS.ior X60.here hx rfl (hb hby own_d_jdk_52_method_5_57) rfl k) ?_
  refine own_to (T' := T60) (mkF m 59 #[rv b, iv 1] [(.int ((((((x0 >>> ((0 : Int32) &&& 31)).toInt8.toInt32) &&& (255 : Int32)) <<< ((0 : Int32) &&& 31)) ||| ((((x0 >>> ((8 : Int32) &&& 31)).toInt8.toInt32) &&& (255 : Int32)) <<< ((8 : Int32) &&& 31))).toUInt32.toUInt16.toUInt32.toInt32))]) (fun _ k => XS.i2c X60.here hx rfl (hb hby own_d_jdk_52_method_5_58) rfl k) ?_
  exact own_retN X60 hx (t := .char) Bd.returns (by simp) hlk (hb hby own_d_jdk_52_method_5_59) (by decide) (by decide) (by rw [e60]; exact ⟨by rw [own_hi hx0, own_nar16 hx0], N0, rfl⟩)
def own_QGC_2_1 (Z : State) (x0 x1 : Int32) (G1 : Int32) (b : Addr) (kb : ClassId) (h0 : Heap) (n0 : Nat) (v : Option Value) (h : Heap) (L : List Loc) : Prop := v = some (.int x1) ∧ Fr n0 L ∧ h = h0
set_option maxRecDepth 65536 in
set_option maxHeartbeats 40000000 in
theorem own_rmGC_2_1 (l : Launch) (Z : State) (a0 : Array Value) (hw : ∀ d ∈ tables_1, d.before a0 Z = true) (ws : List Jvm.Cond) (x0 x1 : Int32) (G1 : Int32) (b : Addr) (kb : ClassId) (h0 : Heap) (n0 : Nat) (Z0 : n0 ≤ h0.size) (OL : Old Z n0 h0) (hx1 : own_C16 x1) (Vb : Arv Z h0 b kb .byte (4 : Int32) [(.int ((x0 >>> ((0 : Int32) &&& 31)).toInt8.toInt32)), (.int ((x0 >>> ((8 : Int32) &&& 31)).toInt8.toInt32)), (.int ((x1 >>> ((0 : Int32) &&& 31)).toInt8.toInt32)), (.int ((x1 >>> ((8 : Int32) &&& 31)).toInt8.toInt32))] (.int (0 : Int32))) (O2 : Sta Z Z.heap "java/lang/String" "COMPACT_STRINGS" "Z" (.int G1)) (P5 : ¬ (G1 = (0 : Int32))) (OAD : Sta Z Z.heap "java/lang/StringUTF16" "$assertionsDisabled" "Z" (.int (1 : Int32))) (OHI : Sta Z Z.heap "java/lang/StringUTF16" "HI_BYTE_SHIFT" "I" (.int (0 : Int32))) (OLO : Sta Z Z.heap "java/lang/StringUTF16" "LO_BYTE_SHIFT" "I" (.int (8 : Int32))) :
    MetFree l (⟨"java/lang/StringUTF16", "getChar", "([BI)C"⟩ : MethodName) (head1 (Jvm.Cond.code (⟨"java/lang/StringUTF16", "getChar", "([BI)C"⟩ : MethodName) jdk_52_method_5_code 2 (some .char) :: ws) ({ frames := 0, cells := 0, slots := 0, locals := 0 } : Room)) (fun aa_ U => aa_ = #[(.ref b), (.int (1 : Int32))] ∧ Z.Warmed39 U.vm ∧ U.heap = h0) (fun _ _ _ _ _ => True) (fun _ U o U' => ∃ v L, o = .returned v ∧ own_QGC_2_1 Z x0 x1 G1 b kb h0 n0 v U'.heap L ∧ FrameEnd U o U' L ({ frames := 0, cells := 0, slots := 0, locals := 0 } : Room).cells ({ frames := 0, cells := 0, slots := 0, locals := 0 } : Room).slots) := by
  refine MetFree.of_bodySF (plainFor_of_name own_pn0) hisR ?_
  intro p e s m args below meth c s₁ Bd hml0 hP hK
  obtain ⟨rfl, hZ, hh⟩ := hP
  have hx := Bd.exec
  have hby := Bd.bytes
  have hlk : meth.locks = false := BodyLoose.notSynchronized Bd
  have hml : c.maxLocals = 2 := hml0
  have hown : s.vm.findClass "java/lang/StringUTF16" = some m.cls := findClass_of_methodNamed Bd.named
  have hnm := (name_of_methodNamed Bd.named Bd.method).1
  have X0 : Stand p l e ({ frames := 0, cells := 0, slots := 0, locals := 0 } : Room) s m #[(.ref b), (.int (1 : Int32))] below meth c s₁ [] 0 0 := Stand.of_body Bd
  have e0 : s₁.heap = h0 := by rw [← hh, Bd.state]; rfl
  have N0 := Fr.nil n0
  have KP : Keep h0 h0 [] := Keep.refl _ _
  refine own_start (Fin := (own_Fin s (own_QGC_2_1 Z x0 x1 G1 b kb h0 n0) ({ frames := 0, cells := 0, slots := 0, locals := 0 } : Room).cells ({ frames := 0, cells := 0, slots := 0, locals := 0 } : Room).slots)) (own_from (mkF m 0 #[rv b, iv 1] []) (castTop (own_ef_GC_2_1 m b (1 : Int32))) ?_)
  obtain ⟨T61, X61, e61, st61⟩ := getS2 X0 hx hZ hown (host := "") (Or.inl (hw _ (List.mem_of_getElem? (i := 82) rfl))) Via.refl e0 (OAD.ext OL.2) (g := (mkF m 0 #[rv b, iv 1] [])) rfl (hb hby own_d_jdk_52_method_5_0)
  refine own_to (mkF m 3 #[rv b, iv 1] [(.int (1 : Int32))]) st61 ?_
  refine own_to (T' := T61) (mkF m 28 #[rv b, iv 1] []) (fun _ k => XS.ifYes X61.here hx rfl (pc0 := 3) (pc' := 28) rfl (hb hby own_d_jdk_52_method_5_3) rfl ((if0 _ _).trans (feq (by decide : ¬ ((1 : Int32) = (0 : Int32)))).2) (by decide) (by decide) k) ?_
  refine own_to (T' := T61) (mkF m 29 #[rv b, iv 1] [(.int (1 : Int32))]) (fun _ k => XS.iloadN X61.here hx rfl (hb hby own_d_jdk_52_method_5_28) rfl k) ?_
  refine own_to (T' := T61) (mkF m 30 #[rv b, iv 1] [(.int (1 : Int32)), (.int (1 : Int32))]) (fun _ k => XS.iconst X61.here hx rfl (hb hby own_d_jdk_52_method_5_29) k) ?_
  refine own_to (T' := T61) (mkF m 31 #[rv b, iv 1] [(.int (2 : Int32))]) (fun _ k => XS.ishl X61.here hx rfl (hb hby own_d_jdk_52_method_5_30) rfl k) ?_
  refine own_to (T' := T61) (mkF m 32 #[rv b, iv 2] []) (fun _ k => XS.istoreN X61.here hx rfl (hb hby own_d_jdk_52_method_5_31) rfl (l' := #[rv b, iv 2]) rfl k) ?_
  refine own_to (T' := T61) (mkF m 33 #[rv b, iv 2] [(.ref b)]) (fun _ k => XS.aloadN X61.here hx rfl (hb hby own_d_jdk_52_method_5_32) rfl rfl k) ?_
  refine own_to (T' := T61) (mkF m 34 #[rv b, iv 2] [(.int (2 : Int32)), (.ref b)]) (fun _ k => XS.iloadN X61.here hx rfl (hb hby own_d_jdk_52_method_5_33) rfl k) ?_
  refine own_to (T' := T61) (mkF m 37 #[rv b, iv 3] [(.int (2 : Int32)), (.ref b)]) (fun _ k => XS.iinc X61.here hx rfl (hb hby own_d_jdk_52_method_5_34) rfl (l' := #[rv b, iv 3]) rfl k) ?_
  obtain ⟨cl62, Ar62, -, S62, -, H62, -⟩ := id Vb
  refine own_to (mkF m 38 #[rv b, iv 3] [(.int ((x1 >>> ((0 : Int32) &&& 31)).toInt8.toInt32))]) (X61.baloadBytes hx (j := (2 : Int32)) (v := (.int ((x1 >>> ((0 : Int32) &&& 31)).toInt8.toInt32))) (by rw [e61]; exact Ar62.1) (State.isArrayOf_alike hZ.alike Ar62.2.1) Ar62.2.2 (inb_of S62 ⟨by decide, by decide⟩) (H62.at (inb_of S62 ⟨by decide, by decide⟩) rfl) (g := (mkF m 37 #[rv b, iv 3] [(.int (2 : Int32)), (.ref b)])) rfl rfl (hb hby own_d_jdk_52_method_5_37)) ?_
  refine own_to (T' := T61) (mkF m 41 #[rv b, iv 3] [(.int (255 : Int32)), (.int ((x1 >>> ((0 : Int32) &&& 31)).toInt8.toInt32))]) (fun _ k => XS.sipush X61.here hx rfl (hb hby own_d_jdk_52_method_5_38) k) ?_
  refine own_to (T' := T61) (mkF m 42 #[rv b, iv 3] [(.int (((x1 >>> ((0 : Int32) &&& 31)).toInt8.toInt32) &&& (255 : Int32)))]) (fun _ k => XS.iand X61.here hx rfl (hb hby own_d_jdk_52_method_5_41) rfl k) ?_
  obtain ⟨T63, X63, e63, st63⟩ := getS2 X61 hx hZ hown (host := "") (Or.inl (hw _ (List.mem_of_getElem? (i := 83) rfl))) Via.refl e61 (OHI.ext OL.2) (g := (mkF m 42 #[rv b, iv 3] [(.int (((x1 >>> ((0 : Int32) &&& 31)).toInt8.toInt32) &&& (255 : Int32)))])) rfl (hb hby own_d_jdk_52_method_5_42)
  refine own_to (mkF m 45 #[rv b, iv 3] [(.int (0 : Int32)), (.int (((x1 >>> ((0 : Int32) &&& 31)).toInt8.toInt32) &&& (255 : Int32)))]) st63 ?_
  refine own_to (T' := T63) (mkF m 46 #[rv b, iv 3] [(.int ((((x1 >>> ((0 : Int32) &&& 31)).toInt8.toInt32) &&& (255 : Int32)) <<< ((0 : Int32) &&& 31)))]) (fun _ k => XS.ishl X63.here hx rfl (hb hby own_d_jdk_52_method_5_45) rfl k) ?_
  refine own_to (T' := T63) (mkF m 47 #[rv b, iv 3] [(.ref b), (.int ((((x1 >>> ((0 : Int32) &&& 31)).toInt8.toInt32) &&& (255 : Int32)) <<< ((0 : Int32) &&& 31)))]) (fun _ k => XS.aloadN X63.here hx rfl (hb hby own_d_jdk_52_method_5_46) rfl rfl k) ?_
  refine own_to (T' := T63) (mkF m 48 #[rv b, iv 3] [(.int (3 : Int32)), (.ref b), (.int ((((x1 >>> ((0 : Int32) &&& 31)).toInt8.toInt32) &&& (255 : Int32)) <<< ((0 : Int32) &&& 31)))]) (fun _ k => XS.iloadN X63.here hx rfl (hb hby own_d_jdk_52_method_5_47) rfl k) ?_
  obtain ⟨cl64, Ar64, -, S64, -, H64, -⟩ := id Vb
  refine own_to (mkF m 49 #[rv b, iv 3] [(.int ((x1 >>> ((8 : Int32) &&& 31)).toInt8.toInt32)), (.int ((((x1 >>> ((0 : Int32) &&& 31)).toInt8.toInt32) &&& (255 : Int32)) <<< ((0 : Int32) &&& 31)))]) (X63.baloadBytes hx (j := (3 : Int32)) (v := (.int ((x1 >>> ((8 : Int32) &&& 31)).toInt8.toInt32))) (by rw [e63]; exact Ar64.1) (State.isArrayOf_alike hZ.alike Ar64.2.1) Ar64.2.2 (inb_of S64 ⟨by decide, by decide⟩) (H64.at (inb_of S64 ⟨by decide, by decide⟩) rfl) (g := (mkF m 48 #[rv b, iv 3] [(.int (3 : Int32)), (.ref b), (.int ((((x1 >>> ((0 : Int32) &&& 31)).toInt8.toInt32) &&& (255 : Int32)) <<< ((0 : Int32) &&& 31)))])) rfl rfl (hb hby own_d_jdk_52_method_5_48)) ?_
  refine own_to (T' := T63) (mkF m 52 #[rv b, iv 3] [(.int (255 : Int32)), (.int ((x1 >>> ((8 : Int32) &&& 31)).toInt8.toInt32)), (.int ((((x1 >>> ((0 : Int32) &&& 31)).toInt8.toInt32) &&& (255 : Int32)) <<< ((0 : Int32) &&& 31)))]) (fun _ k => XS.sipush X63.here hx rfl (hb hby own_d_jdk_52_method_5_49) k) ?_
  refine own_to (T' := T63) (mkF m 53 #[rv b, iv 3] [(.int (((x1 >>> ((8 : Int32) &&& 31)).toInt8.toInt32) &&& (255 : Int32))), (.int ((((x1 >>> ((0 : Int32) &&& 31)).toInt8.toInt32) &&& (255 : Int32)) <<< ((0 : Int32) &&& 31)))]) (fun _ k => XS.iand X63.here hx rfl (hb hby own_d_jdk_52_method_5_52) rfl k) ?_
  obtain ⟨T65, X65, e65, st65⟩ := getS2 X63 hx hZ hown (host := "") (Or.inl (hw _ (List.mem_of_getElem? (i := 84) rfl))) Via.refl e63 (OLO.ext OL.2) (g := (mkF m 53 #[rv b, iv 3] [(.int (((x1 >>> ((8 : Int32) &&& 31)).toInt8.toInt32) &&& (255 : Int32))), (.int ((((x1 >>> ((0 : Int32) &&& 31)).toInt8.toInt32) &&& (255 : Int32)) <<< ((0 : Int32) &&& 31)))])) rfl (hb hby own_d_jdk_52_method_5_53)
  refine own_to (mkF m 56 #[rv b, iv 3] [(.int (8 : Int32)), (.int (((x1 >>> ((8 : Int32) &&& 31)).toInt8.toInt32) &&& (255 : Int32))), (.int ((((x1 >>> ((0 : Int32) &&& 31)).toInt8.toInt32) &&& (255 : Int32)) <<< ((0 : Int32) &&& 31)))]) st65 ?_
  refine own_to (T' := T65) (mkF m 57 #[rv b, iv 3] [(.int ((((x1 >>> ((8 : Int32) &&& 31)).toInt8.toInt32) &&& (255 : Int32)) <<< ((8 : Int32) &&& 31))), (.int ((((x1 >>> ((0 : Int32) &&& 31)).toInt8.toInt32) &&& (255 : Int32)) <<< ((0 : Int32) &&& 31)))]) (fun _ k => XS.ishl X65.here hx rfl (hb hby own_d_jdk_52_method_5_56) rfl k) ?_
  refine own_to (T' := T65) (mkF m 58 #[rv b, iv 3] [(.int (((((x1 >>> ((0 : Int32) &&& 31)).toInt8.toInt32) &&& (255 : Int32)) <<< ((0 : Int32) &&& 31)) ||| ((((x1 >>> ((8 : Int32) &&& 31)).toInt8.toInt32) &&& (255 : Int32)) <<< ((8 : Int32) &&& 31))))]) (fun _ k => XS.ior X65.here hx rfl (hb hby own_d_jdk_52_method_5_57) rfl k) ?_
  refine own_to (T' := T65) (mkF m 59 #[rv b, iv 3] [(.int ((((((x1 >>> ((0 : Int32) &&& 31)).toInt8.toInt32) &&& (255 : Int32)) <<< ((0 : Int32) &&& 31)) ||| ((((x1 >>> ((8 : Int32) &&& 31)).toInt8.toInt32) &&& (255 : Int32)) <<< ((8 : Int32) &&& 31))).toUInt32.toUInt16.toUInt32.toInt32))]) (fun _ k => XS.i2c X65.here hx rfl (hb hby own_d_jdk_52_method_5_58) rfl k) ?_
  exact own_retN X65 hx (t := .char) Bd.returns (by simp) hlk (hb hby own_d_jdk_52_method_5_59) (by decide) (by decide) (by rw [e65]; exact ⟨by rw [own_hi hx1, own_nar16 hx1], N0, rfl⟩)
def own_QC3_2 (Z : State) (x0 x1 : Int32) (G1 : Int32) (a : Addr) (ka : ClassId) (h0 : Heap) (n0 : Nat) (v : Option Value) (h : Heap) (L : List Loc) : Prop := ∃ (b : Addr) (kb : ClassId), v = some (.ref b) ∧ Fr n0 L ∧ Keep h0 h [] ∧ n0 ≤ b ∧ h0.size ≤ b ∧ ((¬ ((255 : Int32) < x0) ∧ ¬ ((255 : Int32) < x1) ∧ Arv Z h b kb .byte (2 : Int32) [(.int (x0.toInt8.toInt32)), (.int (x1.toInt8.toInt32))] (.int (0 : Int32))) ∨ Arv Z h b kb .byte (4 : Int32) [(.int ((x0 >>> ((0 : Int32) &&& 31)).toInt8.toInt32)), (.int ((x0 >>> ((8 : Int32) &&& 31)).toInt8.toInt32)), (.int ((x1 >>> ((0 : Int32) &&& 31)).toInt8.toInt32)), (.int ((x1 >>> ((8 : Int32) &&& 31)).toInt8.toInt32))] (.int (0 : Int32)))
set_option maxRecDepth 65536 in
set_option maxHeartbeats 40000000 in
theorem own_rmC3_2 (l : Launch) (Z : State) (a0 : Array Value) (hw : ∀ d ∈ tables_1, d.before a0 Z = true) (ws : List Jvm.Cond) (x0 x1 : Int32) (G1 : Int32) (a : Addr) (ka : ClassId) (h0 : Heap) (n0 : Nat) (Z0 : n0 ≤ h0.size) (OL : Old Z n0 h0) (hx0 : own_C16 x0) (hx1 : own_C16 x1) (Va : Arv Z h0 a ka .char (2 : Int32) [(.int x0), (.int x1)] (.int (0 : Int32))) (O2 : Sta Z Z.heap "java/lang/String" "COMPACT_STRINGS" "Z" (.int G1)) (P5 : ¬ (G1 = (0 : Int32))) (OAD : Sta Z Z.heap "java/lang/StringUTF16" "$assertionsDisabled" "Z" (.int (1 : Int32))) (OHI : Sta Z Z.heap "java/lang/StringUTF16" "HI_BYTE_SHIFT" "I" (.int (0 : Int32))) (OLO : Sta Z Z.heap "java/lang/StringUTF16" "LO_BYTE_SHIFT" "I" (.int (8 : Int32))) :
    MetFree l (⟨"java/lang/StringUTF16", "compress", "([CII)[B"⟩ : MethodName) (head1 (Jvm.Cond.code (⟨"java/lang/StringUTF16", "compress", "([CII)[B"⟩ : MethodName) jdk_52_method_16_code 6 (some (.array .byte)) :: ws) ({ frames := 3, cells := 2, slots := 6, locals := 70 } : Room)) (fun aa_ U => aa_ = #[(.ref a), (.int (0 : Int32)), (.int (2 : Int32))] ∧ Z.Warmed39 U.vm ∧ U.heap = h0) (fun _ _ _ _ _ => True) (fun _ U o U' => ∃ v L, o = .returned v ∧ own_QC3_2 Z x0 x1 G1 a ka h0 n0 v U'.heap L ∧ FrameEnd U o U' L ({ frames := 3, cells := 2, slots := 6, locals := 70 } : Room).cells ({ frames := 3, cells := 2, slots := 6, locals := 70 } : Room).slots) := by
  refine MetFree.of_bodySF (plainFor_of_name own_pn0) hisR ?_
  intro p e s m args below meth c s₁ Bd hml0 hP hK
  obtain ⟨rfl, hZ, hh⟩ := hP
  have hx := Bd.exec
  have hby := Bd.bytes
  have hlk : meth.locks = false := BodyLoose.notSynchronized Bd
  have hml : c.maxLocals = 6 := hml0
  have hown : s.vm.findClass "java/lang/StringUTF16" = some m.cls := findClass_of_methodNamed Bd.named
  have hnm := (name_of_methodNamed Bd.named Bd.method).1
  have X0 : Stand p l e ({ frames := 3, cells := 2, slots := 6, locals := 70 } : Room) s m #[(.ref a), (.int (0 : Int32)), (.int (2 : Int32))] below meth c s₁ [] 0 0 := Stand.of_body Bd
  have e0 : s₁.heap = h0 := by rw [← hh, Bd.state]; rfl
  have N0 := Fr.nil n0
  have KP : Keep h0 h0 [] := Keep.refl _ _
  refine own_start (Fin := (own_Fin s (own_QC3_2 Z x0 x1 G1 a ka h0 n0) ({ frames := 3, cells := 2, slots := 6, locals := 70 } : Room).cells ({ frames := 3, cells := 2, slots := 6, locals := 70 } : Room).slots)) (own_from (mkF m 0 #[rv a, iv 0, iv 2, .unset, .unset, .unset] []) (castTop (own_ef_C3_2 m a (0 : Int32) (2 : Int32))) ?_)
  refine own_to (T' := s₁) (mkF m 1 #[rv a, iv 0, iv 2, .unset, .unset, .unset] [(.int (2 : Int32))]) (fun _ k => XS.iloadN X0.here hx rfl (hb hby own_d_jdk_52_method_16_0) rfl k) ?_
  obtain ⟨T66, h66, k66, X66, e66, E66, A66, B66, st66⟩ := newPE X0 hx hZ (hw _ (List.mem_of_getElem? (i := 20) rfl)) e0 (g := (mkF m 1 #[rv a, iv 0, iv 2, .unset, .unset, .unset] [(.int (2 : Int32))])) rfl (hb hby own_d_jdk_52_method_16_1) rfl (by decide) (cap := 2) (by decide) (by decide) (by decide) (by decide) (ad := "[B") (by decide)
  obtain ⟨b66, g66⟩ : ∃ z, z = h0.size := ⟨_, rfl⟩
  rw [← g66] at A66 B66 st66
  have sz_b66 : h0.size ≤ b66 := Nat.le_trans KP.1 (Nat.le_of_eq g66.symm)
  have ge_b66 : n0 ≤ b66 := Nat.le_trans Z0 sz_b66
  have ne_a_b66 : a ≠ b66 := Nat.ne_of_lt (Nat.lt_of_lt_of_le Va.lt (Nat.le_of_eq g66.symm))
  have OL := OL.ext E66
  have KP := KP.ext E66
  have Va := Va.ext E66
  have V_b66 : Arv Z h66 b66 k66 .byte (2 : Int32) [(.int (0 : Int32)), (.int (0 : Int32))] (.int (0 : Int32)) := (Arv.new A66 (by decide)).pad (pad_rep [] (.int (0 : Int32)) 2)
  refine own_to (mkF m 3 #[rv a, iv 0, iv 2, .unset, .unset, .unset] [(.ref b66)]) st66 ?_
  refine own_to (T' := T66) (mkF m 4 #[rv a, iv 0, iv 2, rv b66, .unset, .unset] []) (fun _ k => XS.astoreN X66.here hx rfl (hb hby own_d_jdk_52_method_16_3) rfl rfl (l' := #[rv a, iv 0, iv 2, rv b66, .unset, .unset]) rfl k) ?_
  refine own_to (T' := T66) (mkF m 5 #[rv a, iv 0, iv 2, rv b66, .unset, .unset] [(.ref a)]) (fun _ k => XS.aloadN X66.here hx rfl (hb hby own_d_jdk_52_method_16_4) rfl rfl k) ?_
  refine own_to (T' := T66) (mkF m 6 #[rv a, iv 0, iv 2, rv b66, .unset, .unset] [(.int (0 : Int32)), (.ref a)]) (fun _ k => XS.iloadN X66.here hx rfl (hb hby own_d_jdk_52_method_16_5) rfl k) ?_
  refine own_to (T' := T66) (mkF m 7 #[rv a, iv 0, iv 2, rv b66, .unset, .unset] [(.ref b66), (.int (0 : Int32)), (.ref a)]) (fun _ k => XS.aloadN X66.here hx rfl (hb hby own_d_jdk_52_method_16_6) rfl rfl k) ?_
  refine own_to (T' := T66) (mkF m 8 #[rv a, iv 0, iv 2, rv b66, .unset, .unset] [(.int (0 : Int32)), (.ref b66), (.int (0 : Int32)), (.ref a)]) (fun _ k => XS.iconst X66.here hx rfl (hb hby own_d_jdk_52_method_16_7) k) ?_
  refine own_to (T' := T66) (mkF m 9 #[rv a, iv 0, iv 2, rv b66, .unset, .unset] [(.int (2 : Int32)), (.int (0 : Int32)), (.ref b66), (.int (0 : Int32)), (.ref a)]) (fun _ k => XS.iloadN X66.here hx rfl (hb hby own_d_jdk_52_method_16_8) rfl k) ?_
  obtain ⟨_, _, ⟨T67, L67, k67, n67⟩, -, X67, ⟨Lc67, hQ67, l67, y67, z67⟩, st67⟩ := Jvm.LawKit.callS X66 hx (y := (⟨"java/lang/StringUTF16", "compress", "([CI[BII)I"⟩ : MethodName)) hown (mvT hZ (hw _ (List.mem_of_getElem? (i := 21) rfl))) (mvT hZ (hw _ (List.mem_of_getElem? (i := 22) rfl))) (mvT hZ (hw _ (List.mem_of_getElem? (i := 18) rfl))) (mvT hZ (hw _ (List.mem_of_getElem? (i := 23) rfl))) (by decide) (backOf (W := 0) (own_rmC5_2 l Z a0 hw [] x0 x1 a ka b66 k66 h66 n0 (Nat.le_trans Z0 KP.1) OL ne_a_b66 ge_b66 Va V_b66) hZ (hw _ (List.mem_of_getElem? (i := 23) rfl)) (hw _ (List.mem_of_getElem? (i := 18) rfl)) (by decide) (by decide)) (g := (mkF m 9 #[rv a, iv 0, iv 2, rv b66, .unset, .unset] [(.int (2 : Int32)), (.int (0 : Int32)), (.ref b66), (.int (0 : Int32)), (.ref a)])) rfl (by rw [hml]; rfl) (argsL := [(.ref a), (.int (0 : Int32)), (.ref b66), (.int (0 : Int32)), (.int (2 : Int32))]) (rest := []) (lenOf own_pd3 rfl) rfl (by show 2 * 0 + _ ≤ _; exact Nat.le_of_eq rfl) (hb hby own_d_jdk_52_method_16_9) (fun _ _ => ⟨rfl, e66, (by decide : 1 + 0 ≤ _), (by decide : 2 + 0 ≤ _)⟩)
  dsimp only [Pt.U, Pt.locs, Pt.cells, Pt.slots] at X67 l67 y67 z67 st67 hQ67
  subst l67 y67 z67
  obtain ⟨N67q, K67, hor67⟩ := hQ67
  have N67 := Fr.app N0 N67q
  have OL := OL.keep K67 (allS ge_b66 all0)
  have KP := KP.trans K67 (allS (Or.inr sz_b66) all0)
  have Va := Va.keep K67 (ninS ne_a_b66 nin0)
  rcases hor67 with ⟨rfl, hg0, hg1, Vg⟩ | ⟨rfl, hbad⟩ | ⟨rfl, hbad⟩
  · refine own_to (mkF m 12 #[rv a, iv 0, iv 2, rv b66, .unset, .unset] [(.int (2 : Int32))]) st67 ?_
    refine own_to (T' := T67) (mkF m 14 #[rv a, iv 0, iv 2, rv b66, iv 2, .unset] []) (fun _ k => XS.istore X67.here hx rfl (hb hby own_d_jdk_52_method_16_12) rfl (l' := #[rv a, iv 0, iv 2, rv b66, iv 2, .unset]) rfl k) ?_
    refine own_to (T' := T67) (mkF m 16 #[rv a, iv 0, iv 2, rv b66, iv 2, .unset] [(.int (2 : Int32))]) (fun _ k => XS.iload X67.here hx rfl (hb hby own_d_jdk_52_method_16_14) rfl k) ?_
    refine own_to (T' := T67) (mkF m 17 #[rv a, iv 0, iv 2, rv b66, iv 2, .unset] [(.int (2 : Int32)), (.int (2 : Int32))]) (fun _ k => XS.iloadN X67.here hx rfl (hb hby own_d_jdk_52_method_16_16) rfl k) ?_
    refine own_to (T' := T67) (mkF m 57 #[rv a, iv 0, iv 2, rv b66, iv 2, .unset] []) (fun _ k => XS.icmpYes X67.here hx rfl (pc0 := 17) (pc' := 57) rfl (hb hby own_d_jdk_52_method_16_17) rfl (teq (by decide : (2 : Int32) = (2 : Int32))).1 (by decide) (by decide) k) ?_
    refine own_to (T' := T67) (mkF m 58 #[rv a, iv 0, iv 2, rv b66, iv 2, .unset] [(.ref b66)]) (fun _ k => XS.aloadN X67.here hx rfl (hb hby own_d_jdk_52_method_16_57) rfl rfl k) ?_
    exact own_retA X67 hx Bd.returns rfl hlk (hb hby own_d_jdk_52_method_16_58) rfl (by decide) (by decide) (by exact ⟨b66, k66, rfl, N67, KP, ge_b66, sz_b66, Or.inl ⟨hg0, hg1, Vg⟩⟩)
  · refine own_to (mkF m 12 #[rv a, iv 0, iv 2, rv b66, .unset, .unset] [(.int (0 : Int32))]) st67 ?_
    refine own_to (T' := T67) (mkF m 14 #[rv a, iv 0, iv 2, rv b66, iv 0, .unset] []) (fun _ k => XS.istore X67.here hx rfl (hb hby own_d_jdk_52_method_16_12) rfl (l' := #[rv a, iv 0, iv 2, rv b66, iv 0, .unset]) rfl k) ?_
    refine own_to (T' := T67) (mkF m 16 #[rv a, iv 0, iv 2, rv b66, iv 0, .unset] [(.int (0 : Int32))]) (fun _ k => XS.iload X67.here hx rfl (hb hby own_d_jdk_52_method_16_14) rfl k) ?_
    refine own_to (T' := T67) (mkF m 17 #[rv a, iv 0, iv 2, rv b66, iv 0, .unset] [(.int (2 : Int32)), (.int (0 : Int32))]) (fun _ k => XS.iloadN X67.here hx rfl (hb hby own_d_jdk_52_method_16_16) rfl k) ?_
    refine own_to (T' := T67) (mkF m 20 #[rv a, iv 0, iv 2, rv b66, iv 0, .unset] []) (fun _ k => XS.icmpNo X67.here hx rfl (hb hby own_d_jdk_52_method_16_17) rfl (feq (by decide : ¬ ((0 : Int32) = (2 : Int32)))).1 k) ?_
    refine own_to (T' := T67) (mkF m 21 #[rv a, iv 0, iv 2, rv b66, iv 0, .unset] [(.ref a)]) (fun _ k => XS.aloadN X67.here hx rfl (hb hby own_d_jdk_52_method_16_20) rfl rfl k) ?_
    refine own_to (T' := T67) (mkF m 22 #[rv a, iv 0, iv 2, rv b66, iv 0, .unset] [(.int (0 : Int32)), (.ref a)]) (fun _ k => XS.iloadN X67.here hx rfl (hb hby own_d_jdk_52_method_16_21) rfl k) ?_
    refine own_to (T' := T67) (mkF m 23 #[rv a, iv 0, iv 2, rv b66, iv 0, .unset] [(.int (2 : Int32)), (.int (0 : Int32)), (.ref a)]) (fun _ k => XS.iloadN X67.here hx rfl (hb hby own_d_jdk_52_method_16_22) rfl k) ?_
    have KP0 := KP
    have lt0_a := Va.lt
    obtain ⟨_, _, ⟨T68, L68, k68, n68⟩, -, X68, ⟨Lc68, hQ68, l68, y68, z68⟩, st68⟩ := Jvm.LawKit.callS X67 hx (y := (⟨"java/lang/StringUTF16", "toBytes", "([CII)[B"⟩ : MethodName)) hown (mvT hZ (hw _ (List.mem_of_getElem? (i := 69) rfl))) (mvT hZ (hw _ (List.mem_of_getElem? (i := 70) rfl))) (mvT hZ (hw _ (List.mem_of_getElem? (i := 18) rfl))) (mvT hZ (hw _ (List.mem_of_getElem? (i := 71) rfl))) (by decide) (backOf (W := 0) (own_rmTS_2 l Z a0 hw [] x0 x1 G1 a ka T67.heap n0 (Nat.le_trans Z0 KP.1) OL Va O2 P5 OAD OHI OLO) hZ (hw _ (List.mem_of_getElem? (i := 71) rfl)) (hw _ (List.mem_of_getElem? (i := 18) rfl)) (by decide) (by decide)) (g := (mkF m 23 #[rv a, iv 0, iv 2, rv b66, iv 0, .unset] [(.int (2 : Int32)), (.int (0 : Int32)), (.ref a)])) rfl (by rw [hml]; rfl) (argsL := [(.ref a), (.int (0 : Int32)), (.int (2 : Int32))]) (rest := []) (lenOf own_pd4 rfl) rfl (by show 2 * 0 + _ ≤ _; exact Nat.le_of_eq rfl) (hb hby own_d_jdk_52_method_16_23) (fun _ _ => ⟨rfl, rfl, (by decide : 1 + 1 ≤ _), (by decide : 2 + 4 ≤ _)⟩)
    dsimp only [Pt.U, Pt.locs, Pt.cells, Pt.slots] at X68 l68 y68 z68 st68 hQ68
    subst l68 y68 z68
    obtain ⟨bu, kbu, rfl, N68q, K68, ge_bu, sz0_bu, Vu⟩ := hQ68
    have N68 := Fr.app N67 N68q
    have OL := OL.keep K68 all0
    have KP := KP.trans K68 all0
    have Va := Va.keep K68 nin0
    refine own_to (mkF m 26 #[rv a, iv 0, iv 2, rv b66, iv 0, .unset] [(.ref bu)]) st68 ?_
    have sz_bu : h0.size ≤ bu := Nat.le_trans KP0.1 sz0_bu
    have ne_a_bu : a ≠ bu := Nat.ne_of_lt (Nat.lt_of_lt_of_le lt0_a sz0_bu)
    refine own_to (T' := T68) (mkF m 28 #[rv a, iv 0, iv 2, rv b66, iv 0, rv bu] []) (fun _ k => XS.astore X68.here hx rfl (hb hby own_d_jdk_52_method_16_26) rfl rfl (l' := #[rv a, iv 0, iv 2, rv b66, iv 0, rv bu]) rfl k) ?_
    refine own_to (T' := T68) (mkF m 30 #[rv a, iv 0, iv 2, rv b66, iv 0, rv bu] [(.ref bu)]) (fun _ k => XS.aload X68.here hx rfl (hb hby own_d_jdk_52_method_16_28) rfl rfl k) ?_
    refine own_to (T' := T68) (mkF m 32 #[rv a, iv 0, iv 2, rv b66, iv 0, rv bu] [(.int (0 : Int32)), (.ref bu)]) (fun _ k => XS.iload X68.here hx rfl (hb hby own_d_jdk_52_method_16_30) rfl k) ?_
    obtain ⟨_, _, ⟨T69, L69, k69, n69⟩, -, X69, ⟨Lc69, hQ69, l69, y69, z69⟩, st69⟩ := Jvm.LawKit.callS X68 hx (y := (⟨"java/lang/StringUTF16", "getChar", "([BI)C"⟩ : MethodName)) hown (mvT hZ (hw _ (List.mem_of_getElem? (i := 85) rfl))) (mvT hZ (hw _ (List.mem_of_getElem? (i := 86) rfl))) (mvT hZ (hw _ (List.mem_of_getElem? (i := 18) rfl))) (mvT hZ (hw _ (List.mem_of_getElem? (i := 87) rfl))) (by decide) (backOf (W := 0) (own_rmGC_2_0 l Z a0 hw [] x0 x1 G1 bu kbu T68.heap n0 (Nat.le_trans Z0 KP.1) OL hx0 Vu O2 P5 OAD OHI OLO) hZ (hw _ (List.mem_of_getElem? (i := 87) rfl)) (hw _ (List.mem_of_getElem? (i := 18) rfl)) (by decide) (by decide)) (g := (mkF m 32 #[rv a, iv 0, iv 2, rv b66, iv 0, rv bu] [(.int (0 : Int32)), (.ref bu)])) rfl (by rw [hml]; rfl) (argsL := [(.ref bu), (.int (0 : Int32))]) (rest := []) (lenOf own_pd5 rfl) rfl (by show 2 * 0 + _ ≤ _; exact Nat.le_of_eq rfl) (hb hby own_d_jdk_52_method_16_32) (fun _ _ => ⟨rfl, rfl, (by decide : 2 + 0 ≤ _), (by decide : 6 + 0 ≤ _)⟩)
    dsimp only [Pt.U, Pt.locs, Pt.cells, Pt.slots] at X69 l69 y69 z69 st69 hQ69
    subst l69 y69 z69
    obtain ⟨rfl, N69q, e69⟩ := hQ69
    have N69 := Fr.app N68 N69q
    refine own_to (mkF m 35 #[rv a, iv 0, iv 2, rv b66, iv 0, rv bu] [(.int x0)]) st69 ?_
    refine own_to (T' := T69) (mkF m 38 #[rv a, iv 0, iv 2, rv b66, iv 0, rv bu] [(.int (255 : Int32)), (.int x0)]) (fun _ k => XS.sipush X69.here hx rfl (hb hby own_d_jdk_52_method_16_35) k) ?_
    refine own_to (T' := T69) (mkF m 54 #[rv a, iv 0, iv 2, rv b66, iv 0, rv bu] []) (fun _ k => XS.icmpYes X69.here hx rfl (pc0 := 38) (pc' := 54) rfl (hb hby own_d_jdk_52_method_16_38) rfl (tlt hbad).2.2.1 (by decide) (by decide) k) ?_
    refine own_to (T' := T69) (mkF m 56 #[rv a, iv 0, iv 2, rv b66, iv 0, rv bu] [(.ref bu)]) (fun _ k => XS.aload X69.here hx rfl (hb hby own_d_jdk_52_method_16_54) rfl rfl k) ?_
    exact own_retA X69 hx Bd.returns rfl hlk (hb hby own_d_jdk_52_method_16_56) rfl (by decide) (by decide) (by rw [e69]; exact ⟨bu, kbu, rfl, N69, KP, ge_bu, sz_bu, Or.inr Vu⟩)
  · refine own_to (mkF m 12 #[rv a, iv 0, iv 2, rv b66, .unset, .unset] [(.int (1 : Int32))]) st67 ?_
    refine own_to (T' := T67) (mkF m 14 #[rv a, iv 0, iv 2, rv b66, iv 1, .unset] []) (fun _ k => XS.istore X67.here hx rfl (hb hby own_d_jdk_52_method_16_12) rfl (l' := #[rv a, iv 0, iv 2, rv b66, iv 1, .unset]) rfl k) ?_
    refine own_to (T' := T67) (mkF m 16 #[rv a, iv 0, iv 2, rv b66, iv 1, .unset] [(.int (1 : Int32))]) (fun _ k => XS.iload X67.here hx rfl (hb hby own_d_jdk_52_method_16_14) rfl k) ?_
    refine own_to (T' := T67) (mkF m 17 #[rv a, iv 0, iv 2, rv b66, iv 1, .unset] [(.int (2 : Int32)), (.int (1 : Int32))]) (fun _ k => XS.iloadN X67.here hx rfl (hb hby own_d_jdk_52_method_16_16) rfl k) ?_
    refine own_to (T' := T67) (mkF m 20 #[rv a, iv 0, iv 2, rv b66, iv 1, .unset] []) (fun _ k => XS.icmpNo X67.here hx rfl (hb hby own_d_jdk_52_method_16_17) rfl (feq (by decide : ¬ ((1 : Int32) = (2 : Int32)))).1 k) ?_
    refine own_to (T' := T67) (mkF m 21 #[rv a, iv 0, iv 2, rv b66, iv 1, .unset] [(.ref a)]) (fun _ k => XS.aloadN X67.here hx rfl (hb hby own_d_jdk_52_method_16_20) rfl rfl k) ?_
    refine own_to (T' := T67) (mkF m 22 #[rv a, iv 0, iv 2, rv b66, iv 1, .unset] [(.int (0 : Int32)), (.ref a)]) (fun _ k => XS.iloadN X67.here hx rfl (hb hby own_d_jdk_52_method_16_21) rfl k) ?_
    refine own_to (T' := T67) (mkF m 23 #[rv a, iv 0, iv 2, rv b66, iv 1, .unset] [(.int (2 : Int32)), (.int (0 : Int32)), (.ref a)]) (fun _ k => XS.iloadN X67.here hx rfl (hb hby own_d_jdk_52_method_16_22) rfl k) ?_
    have KP0 := KP
    have lt0_a := Va.lt
    obtain ⟨_, _, ⟨T70, L70, k70, n70⟩, -, X70, ⟨Lc70, hQ70, l70, y70, z70⟩, st70⟩ := Jvm.LawKit.callS X67 hx (y := (⟨"java/lang/StringUTF16", "toBytes", "([CII)[B"⟩ : MethodName)) hown (mvT hZ (hw _ (List.mem_of_getElem? (i := 69) rfl))) (mvT hZ (hw _ (List.mem_of_getElem? (i := 70) rfl))) (mvT hZ (hw _ (List.mem_of_getElem? (i := 18) rfl))) (mvT hZ (hw _ (List.mem_of_getElem? (i := 71) rfl))) (by decide) (backOf (W := 0) (own_rmTS_2 l Z a0 hw [] x0 x1 G1 a ka T67.heap n0 (Nat.le_trans Z0 KP.1) OL Va O2 P5 OAD OHI OLO) hZ (hw _ (List.mem_of_getElem? (i := 71) rfl)) (hw _ (List.mem_of_getElem? (i := 18) rfl)) (by decide) (by decide)) (g := (mkF m 23 #[rv a, iv 0, iv 2, rv b66, iv 1, .unset] [(.int (2 : Int32)), (.int (0 : Int32)), (.ref a)])) rfl (by rw [hml]; rfl) (argsL := [(.ref a), (.int (0 : Int32)), (.int (2 : Int32))]) (rest := []) (lenOf own_pd4 rfl) rfl (by show 2 * 0 + _ ≤ _; exact Nat.le_of_eq rfl) (hb hby own_d_jdk_52_method_16_23) (fun _ _ => ⟨rfl, rfl, (by decide : 1 + 1 ≤ _), (by decide : 2 + 4 ≤ _)⟩)
    dsimp only [Pt.U, Pt.locs, Pt.cells, Pt.slots] at X70 l70 y70 z70 st70 hQ70
    subst l70 y70 z70
    obtain ⟨bu, kbu, rfl, N70q, K70, ge_bu, sz0_bu, Vu⟩ := hQ70
    have N70 := Fr.app N67 N70q
    have OL := OL.keep K70 all0
    have KP := KP.trans K70 all0
    have Va := Va.keep K70 nin0
    refine own_to (mkF m 26 #[rv a, iv 0, iv 2, rv b66, iv 1, .unset] [(.ref bu)]) st70 ?_
    have sz_bu : h0.size ≤ bu := Nat.le_trans KP0.1 sz0_bu
    have ne_a_bu : a ≠ bu := Nat.ne_of_lt (Nat.lt_of_lt_of_le lt0_a sz0_bu)
    refine own_to (T' := T70) (mkF m 28 #[rv a, iv 0, iv 2, rv b66, iv 1, rv bu] []) (fun _ k => XS.astore X70.here hx rfl (hb hby own_d_jdk_52_method_16_26) rfl rfl (l' := #[rv a, iv 0, iv 2, rv b66, iv 1, rv bu]) rfl k) ?_
    refine own_to (T' := T70) (mkF m 30 #[rv a, iv 0, iv 2, rv b66, iv 1, rv bu] [(.ref bu)]) (fun _ k => XS.aload X70.here hx rfl (hb hby own_d_jdk_52_method_16_28) rfl rfl k) ?_
    refine own_to (T' := T70) (mkF m 32 #[rv a, iv 0, iv 2, rv b66, iv 1, rv bu] [(.int (1 : Int32)), (.ref bu)]) (fun _ k => XS.iload X70.here hx rfl (hb hby own_d_jdk_52_method_16_30) rfl k) ?_
    obtain ⟨_, _, ⟨T71, L71, k71, n71⟩, -, X71, ⟨Lc71, hQ71, l71, y71, z71⟩, st71⟩ := Jvm.LawKit.callS X70 hx (y := (⟨"java/lang/StringUTF16", "getChar", "([BI)C"⟩ : MethodName)) hown (mvT hZ (hw _ (List.mem_of_getElem? (i := 85) rfl))) (mvT hZ (hw _ (List.mem_of_getElem? (i := 86) rfl))) (mvT hZ (hw _ (List.mem_of_getElem? (i := 18) rfl))) (mvT hZ (hw _ (List.mem_of_getElem? (i := 87) rfl))) (by decide) (backOf (W := 0) (own_rmGC_2_1 l Z a0 hw [] x0 x1 G1 bu kbu T70.heap n0 (Nat.le_trans Z0 KP.1) OL hx1 Vu O2 P5 OAD OHI OLO) hZ (hw _ (List.mem_of_getElem? (i := 87) rfl)) (hw _ (List.mem_of_getElem? (i := 18) rfl)) (by decide) (by decide)) (g := (mkF m 32 #[rv a, iv 0, iv 2, rv b66, iv 1, rv bu] [(.int (1 : Int32)), (.ref bu)])) rfl (by rw [hml]; rfl) (argsL := [(.ref bu), (.int (1 : Int32))]) (rest := []) (lenOf own_pd5 rfl) rfl (by show 2 * 0 + _ ≤ _; exact Nat.le_of_eq rfl) (hb hby own_d_jdk_52_method_16_32) (fun _ _ => ⟨rfl, rfl, (by decide : 2 + 0 ≤ _), (by decide : 6 + 0 ≤ _)⟩)
    dsimp only [Pt.U, Pt.locs, Pt.cells, Pt.slots] at X71 l71 y71 z71 st71 hQ71
    subst l71 y71 z71
    obtain ⟨rfl, N71q, e71⟩ := hQ71
    have N71 := Fr.app N70 N71q
    refine own_to (mkF m 35 #[rv a, iv 0, iv 2, rv b66, iv 1, rv bu] [(.int x1)]) st71 ?_
    refine own_to (T' := T71) (mkF m 38 #[rv a, iv 0, iv 2, rv b66, iv 1, rv bu] [(.int (255 : Int32)), (.int x1)]) (fun _ k => XS.sipush X71.here hx rfl (hb hby own_d_jdk_52_method_16_35) k) ?_
    refine own_to (T' := T71) (mkF m 54 #[rv a, iv 0, iv 2, rv b66, iv 1, rv bu] []) (fun _ k => XS.icmpYes X71.here hx rfl (pc0 := 38) (pc' := 54) rfl (hb hby own_d_jdk_52_method_16_38) rfl (tlt hbad).2.2.1 (by decide) (by decide) k) ?_
    refine own_to (T' := T71) (mkF m 56 #[rv a, iv 0, iv 2, rv b66, iv 1, rv bu] [(.ref bu)]) (fun _ k => XS.aload X71.here hx rfl (hb hby own_d_jdk_52_method_16_54) rfl rfl k) ?_
    exact own_retA X71 hx Bd.returns rfl hlk (hb hby own_d_jdk_52_method_16_56) rfl (by decide) (by decide) (by rw [e71]; exact ⟨bu, kbu, rfl, N71, KP, ge_bu, sz_bu, Or.inr Vu⟩)
def own_QCF_2_0 (Z : State) (x0 x1 : Int32) (b : Addr) (kb : ClassId) (h0 : Heap) (n0 : Nat) (v : Option Value) (h : Heap) (L : List Loc) : Prop := v = some (.int (0 : Int32)) ∧ Fr n0 L ∧ h = h0
set_option maxRecDepth 65536 in
set_option maxHeartbeats 40000000 in
theorem own_rmCF_2_0 (l : Launch) (Z : State) (a0 : Array Value) (hw : ∀ d ∈ tables_1, d.before a0 Z = true) (ws : List Jvm.Cond) (x0 x1 : Int32) (b : Addr) (kb : ClassId) (h0 : Heap) (n0 : Nat) (Z0 : n0 ≤ h0.size) (OL : Old Z n0 h0) (Vb : Arv Z h0 b kb .byte (2 : Int32) [(.int (x0.toInt8.toInt32)), (.int (x1.toInt8.toInt32))] (.int (0 : Int32))) :
    MetFree l (⟨"java/lang/StringUTF16", "coderFromArrayLen", "([BI)B"⟩ : MethodName) (head1 (Jvm.Cond.code (⟨"java/lang/StringUTF16", "coderFromArrayLen", "([BI)B"⟩ : MethodName) jdk_52_method_15_code 2 (some .byte) :: ws) ({ frames := 0, cells := 0, slots := 0, locals := 0 } : Room)) (fun aa_ U => aa_ = #[(.ref b), (.int (2 : Int32))] ∧ Z.Warmed39 U.vm ∧ U.heap = h0) (fun _ _ _ _ _ => True) (fun _ U o U' => ∃ v L, o = .returned v ∧ own_QCF_2_0 Z x0 x1 b kb h0 n0 v U'.heap L ∧ FrameEnd U o U' L ({ frames := 0, cells := 0, slots := 0, locals := 0 } : Room).cells ({ frames := 0, cells := 0, slots := 0, locals := 0 } : Room).slots) := by
  refine MetFree.of_bodySF (plainFor_of_name own_pn0) hisR ?_
  intro p e s m args below meth c s₁ Bd hml0 hP hK
  obtain ⟨rfl, hZ, hh⟩ := hP
  have hx := Bd.exec
  have hby := Bd.bytes
  have hlk : meth.locks = false := BodyLoose.notSynchronized Bd
  have hml : c.maxLocals = 2 := hml0
  have hown : s.vm.findClass "java/lang/StringUTF16" = some m.cls := findClass_of_methodNamed Bd.named
  have hnm := (name_of_methodNamed Bd.named Bd.method).1
  have X0 : Stand p l e ({ frames := 0, cells := 0, slots := 0, locals := 0 } : Room) s m #[(.ref b), (.int (2 : Int32))] below meth c s₁ [] 0 0 := Stand.of_body Bd
  have e0 : s₁.heap = h0 := by rw [← hh, Bd.state]; rfl
  have N0 := Fr.nil n0
  have KP : Keep h0 h0 [] := Keep.refl _ _
  refine own_start (Fin := (own_Fin s (own_QCF_2_0 Z x0 x1 b kb h0 n0) ({ frames := 0, cells := 0, slots := 0, locals := 0 } : Room).cells ({ frames := 0, cells := 0, slots := 0, locals := 0 } : Room).slots)) (own_from (mkF m 0 #[rv b, iv 2] []) (castTop (own_ef_CF_2_0 m b (2 : Int32))) ?_)
  refine own_to (T' := s₁) (mkF m 1 #[rv b, iv 2] [(.int (2 : Int32))]) (fun _ k => XS.iloadN X0.here hx rfl (hb hby own_d_jdk_52_method_15_0) rfl k) ?_
  refine own_to (T' := s₁) (mkF m 2 #[rv b, iv 2] [(.ref b), (.int (2 : Int32))]) (fun _ k => XS.aloadN X0.here hx rfl (hb hby own_d_jdk_52_method_15_1) rfl rfl k) ?_
  obtain ⟨cl72, Ar72, -, S72, M72, -, -⟩ := id Vb
  refine own_to (mkF m 3 #[rv b, iv 2] [(.int (2 : Int32)), (.int (2 : Int32))]) (by have q := X0.arraylength hx (by rw [e0]; exact Ar72.1) (State.isArrayOf_alike hZ.alike Ar72.2.1) (g := (mkF m 2 #[rv b, iv 2] [(.ref b), (.int (2 : Int32))])) rfl rfl (hb hby own_d_jdk_52_method_15_2); rw [len_of S72 M72] at q; exact q) ?_
  refine own_to (T' := s₁) (mkF m 4 #[rv b, iv 2] [(.int (0 : Int32))]) (fun _ k => XS.isub X0.here hx rfl (hb hby own_d_jdk_52_method_15_3) rfl k) ?_
  refine own_to (T' := s₁) (mkF m 6 #[rv b, iv 2] [(.int (31 : Int32)), (.int (0 : Int32))]) (fun _ k => XS.bipush X0.here hx rfl (hb hby own_d_jdk_52_method_15_4) k) ?_
  refine own_to (T' := s₁) (mkF m 7 #[rv b, iv 2] [(.int (0 : Int32))]) (fun _ k => XS.iushr X0.here hx rfl (hb hby own_d_jdk_52_method_15_6) rfl k) ?_
  refine own_to (T' := s₁) (mkF m 8 #[rv b, iv 2] [(.int ((0 : Int32).toInt8.toInt32))]) (fun _ k => XS.i2b X0.here hx rfl (hb hby own_d_jdk_52_method_15_7) rfl k) ?_
  exact own_retN X0 hx (t := .byte) Bd.returns (by simp) hlk (hb hby own_d_jdk_52_method_15_8) (by decide) (by decide) (by rw [e0]; exact ⟨rfl, N0, rfl⟩)
def own_QCF_2_1 (Z : State) (x0 x1 : Int32) (b : Addr) (kb : ClassId) (h0 : Heap) (n0 : Nat) (v : Option Value) (h : Heap) (L : List Loc) : Prop := v = some (.int (1 : Int32)) ∧ Fr n0 L ∧ h = h0
set_option maxRecDepth 65536 in
set_option maxHeartbeats 40000000 in
theorem own_rmCF_2_1 (l : Launch) (Z : State) (a0 : Array Value) (hw : ∀ d ∈ tables_1, d.before a0 Z = true) (ws : List Jvm.Cond) (x0 x1 : Int32) (b : Addr) (kb : ClassId) (h0 : Heap) (n0 : Nat) (Z0 : n0 ≤ h0.size) (OL : Old Z n0 h0) (Vb : Arv Z h0 b kb .byte (4 : Int32) [(.int ((x0 >>> ((0 : Int32) &&& 31)).toInt8.toInt32)), (.int ((x0 >>> ((8 : Int32) &&& 31)).toInt8.toInt32)), (.int ((x1 >>> ((0 : Int32) &&& 31)).toInt8.toInt32)), (.int ((x1 >>> ((8 : Int32) &&& 31)).toInt8.toInt32))] (.int (0 : Int32))) :
    MetFree l (⟨"java/lang/StringUTF16", "coderFromArrayLen", "([BI)B"⟩ : MethodName) (head1 (Jvm.Cond.code (⟨"java/lang/StringUTF16", "coderFromArrayLen", "([BI)B"⟩ : MethodName) jdk_52_method_15_code 2 (some .byte) :: ws) ({ frames := 0, cells := 0, slots := 0, locals := 0 } : Room)) (fun aa_ U => aa_ = #[(.ref b), (.int (2 : Int32))] ∧ Z.Warmed39 U.vm ∧ U.heap = h0) (fun _ _ _ _ _ => True) (fun _ U o U' => ∃ v L, o = .returned v ∧ own_QCF_2_1 Z x0 x1 b kb h0 n0 v U'.heap L ∧ FrameEnd U o U' L ({ frames := 0, cells := 0, slots := 0, locals := 0 } : Room).cells ({ frames := 0, cells := 0, slots := 0, locals := 0 } : Room).slots) := by
  refine MetFree.of_bodySF (plainFor_of_name own_pn0) hisR ?_
  intro p e s m args below meth c s₁ Bd hml0 hP hK
  obtain ⟨rfl, hZ, hh⟩ := hP
  have hx := Bd.exec
  have hby := Bd.bytes
  have hlk : meth.locks = false := BodyLoose.notSynchronized Bd
  have hml : c.maxLocals = 2 := hml0
  have hown : s.vm.findClass "java/lang/StringUTF16" = some m.cls := findClass_of_methodNamed Bd.named
  have hnm := (name_of_methodNamed Bd.named Bd.method).1
  have X0 : Stand p l e ({ frames := 0, cells := 0, slots := 0, locals := 0 } : Room) s m #[(.ref b), (.int (2 : Int32))] below meth c s₁ [] 0 0 := Stand.of_body Bd
  have e0 : s₁.heap = h0 := by rw [← hh, Bd.state]; rfl
  have N0 := Fr.nil n0
  have KP : Keep h0 h0 [] := Keep.refl _ _
  refine own_start (Fin := (own_Fin s (own_QCF_2_1 Z x0 x1 b kb h0 n0) ({ frames := 0, cells := 0, slots := 0, locals := 0 } : Room).cells ({ frames := 0, cells := 0, slots := 0, locals := 0 } : Room).slots)) (own_from (mkF m 0 #[rv b, iv 2] []) (castTop (own_ef_CF_2_1 m b (2 : Int32))) ?_)
  refine own_to (T' := s₁) (mkF m 1 #[rv b, iv 2] [(.int (2 : Int32))]) (fun _ k => XS.iloadN X0.here hx rfl (hb hby own_d_jdk_52_method_15_0) rfl k) ?_
  refine own_to (T' := s₁) (mkF m 2 #[rv b, iv 2] [(.ref b), (.int (2 : Int32))]) (fun _ k => XS.aloadN X0.here hx rfl (hb hby own_d_jdk_52_method_15_1) rfl rfl k) ?_
  obtain ⟨cl73, Ar73, -, S73, M73, -, -⟩ := id Vb
  refine own_to (mkF m 3 #[rv b, iv 2] [(.int (4 : Int32)), (.int (2 : Int32))]) (by have q := X0.arraylength hx (by rw [e0]; exact Ar73.1) (State.isArrayOf_alike hZ.alike Ar73.2.1) (g := (mkF m 2 #[rv b, iv 2] [(.ref b), (.int (2 : Int32))])) rfl rfl (hb hby own_d_jdk_52_method_15_2); rw [len_of S73 M73] at q; exact q) ?_
  refine own_to (T' := s₁) (mkF m 4 #[rv b, iv 2] [(.int (-2 : Int32))]) (fun _ k => XS.isub X0.here hx rfl (hb hby own_d_jdk_52_method_15_3) rfl k) ?_
  refine own_to (T' := s₁) (mkF m 6 #[rv b, iv 2] [(.int (31 : Int32)), (.int (-2 : Int32))]) (fun _ k => XS.bipush X0.here hx rfl (hb hby own_d_jdk_52_method_15_4) k) ?_
  refine own_to (T' := s₁) (mkF m 7 #[rv b, iv 2] [(.int (1 : Int32))]) (fun _ k => XS.iushr X0.here hx rfl (hb hby own_d_jdk_52_method_15_6) rfl k) ?_
  refine own_to (T' := s₁) (mkF m 8 #[rv b, iv 2] [(.int ((1 : Int32).toInt8.toInt32))]) (fun _ k => XS.i2b X0.here hx rfl (hb hby own_d_jdk_52_method_15_7) rfl k) ?_
  exact own_retN X0 hx (t := .byte) Bd.returns (by simp) hlk (hb hby own_d_jdk_52_method_15_8) (by decide) (by decide) (by rw [e0]; exact ⟨rfl, N0, rfl⟩)
def own_QI4_2 (Z : State) (x0 x1 : Int32) (G1 : Int32) (sx a : Addr) (ka : ClassId) (h0 : Heap) (n0 : Nat) (v : Option Value) (h : Heap) (L : List Loc) : Prop := v = none ∧ Fr n0 L ∧ Keep h0 h [sx] ∧ ∃ (t : Addr) (kb : ClassId), n0 ≤ t ∧ h0.size ≤ t ∧ ((¬ ((255 : Int32) < x0) ∧ ¬ ((255 : Int32) < x1) ∧ own_StrG Z h sx t kb (0 : Int32) (2 : Int32) [(.int (x0.toInt8.toInt32)), (.int (x1.toInt8.toInt32))]) ∨ own_StrG Z h sx t kb (1 : Int32) (4 : Int32) [(.int ((x0 >>> ((0 : Int32) &&& 31)).toInt8.toInt32)), (.int ((x0 >>> ((8 : Int32) &&& 31)).toInt8.toInt32)), (.int ((x1 >>> ((0 : Int32) &&& 31)).toInt8.toInt32)), (.int ((x1 >>> ((8 : Int32) &&& 31)).toInt8.toInt32))])
set_option maxRecDepth 65536 in
set_option maxHeartbeats 40000000 in
theorem own_rmI4_2 (l : Launch) (Z : State) (a0 : Array Value) (hw : ∀ d ∈ tables_1, d.before a0 Z = true) (ws : List Jvm.Cond) (x0 x1 : Int32) (G1 : Int32) (sx a : Addr) (ka : ClassId) (h0 : Heap) (n0 : Nat) (Z0 : n0 ≤ h0.size) (OL : Old Z n0 h0) (ge_sx : n0 ≤ sx) (ne_sx_a : sx ≠ a) (E_sx : Exa Z h0 sx "java/lang/String") (F_value_sx : Fld Z h0 sx "java/lang/String" "value" "[B" .null) (F_coder_sx : Fld Z h0 sx "java/lang/String" "coder" "B" (.int (0 : Int32))) (hx0 : own_C16 x0) (hx1 : own_C16 x1) (Va : Arv Z h0 a ka .char (2 : Int32) [(.int x0), (.int x1)] (.int (0 : Int32))) (O2 : Sta Z Z.heap "java/lang/String" "COMPACT_STRINGS" "Z" (.int G1)) (P5 : ¬ (G1 = (0 : Int32))) (OAD : Sta Z Z.heap "java/lang/StringUTF16" "$assertionsDisabled" "Z" (.int (1 : Int32))) (OHI : Sta Z Z.heap "java/lang/StringUTF16" "HI_BYTE_SHIFT" "I" (.int (0 : Int32))) (OLO : Sta Z Z.heap "java/lang/StringUTF16" "LO_BYTE_SHIFT" "I" (.int (8 : Int32))) :
    MetFree l (⟨"java/lang/String", "<init>", "([CIILjava/lang/Void;)V"⟩ : MethodName) (head1 (Jvm.Cond.code (⟨"java/lang/String", "<init>", "([CIILjava/lang/Void;)V"⟩ : MethodName) jdk_42_method_149_code 6 none :: ws) ({ frames := 4, cells := 2, slots := 6, locals := 100 } : Room)) (fun aa_ U => aa_ = #[(.ref sx), (.ref a), (.int (0 : Int32)), (.int (2 : Int32)), .null] ∧ Z.Warmed39 U.vm ∧ U.heap = h0) (fun _ _ _ _ _ => True) (fun _ U o U' => ∃ v L, o = .returned v ∧ own_QI4_2 Z x0 x1 G1 sx a ka h0 n0 v U'.heap L ∧ FrameEnd U o U' L ({ frames := 4, cells := 2, slots := 6, locals := 100 } : Room).cells ({ frames := 4, cells := 2, slots := 6, locals := 100 } : Room).slots) := by
  refine MetFree.of_bodySF (plainFor_of_name own_pn1) hisR ?_
  intro p e s m args below meth c s₁ Bd hml0 hP hK
  obtain ⟨rfl, hZ, hh⟩ := hP
  have hx := Bd.exec
  have hby := Bd.bytes
  have hlk : meth.locks = false := BodyLoose.notSynchronized Bd
  have hml : c.maxLocals = 6 := hml0
  have hown : s.vm.findClass "java/lang/String" = some m.cls := findClass_of_methodNamed Bd.named
  have hnm := (name_of_methodNamed Bd.named Bd.method).1
  have X0 : Stand p l e ({ frames := 4, cells := 2, slots := 6, locals := 100 } : Room) s m #[(.ref sx), (.ref a), (.int (0 : Int32)), (.int (2 : Int32)), .null] below meth c s₁ [] 0 0 := Stand.of_body Bd
  have e0 : s₁.heap = h0 := by rw [← hh, Bd.state]; rfl
  have N0 := Fr.nil n0
  have KP : Keep h0 h0 [sx] := Keep.refl _ _
  refine own_start (Fin := (own_Fin s (own_QI4_2 Z x0 x1 G1 sx a ka h0 n0) ({ frames := 4, cells := 2, slots := 6, locals := 100 } : Room).cells ({ frames := 4, cells := 2, slots := 6, locals := 100 } : Room).slots)) (own_from (mkF m 0 #[rv sx, rv a, iv 0, iv 2, .val .null, .unset] []) (castTop (own_ef_I4_2 m sx a (0 : Int32) (2 : Int32))) ?_)
  refine own_to (T' := s₁) (mkF m 1 #[rv sx, rv a, iv 0, iv 2, .val .null, .unset] [(.ref sx)]) (fun _ k => XS.aloadN X0.here hx rfl (hb hby own_d_jdk_42_method_149_0) rfl rfl k) ?_
  obtain ⟨T74, X74, e74, st74⟩ := initO X0 hx hZ hown (hw _ (List.mem_of_getElem? (i := 12) rfl)) (hw _ (List.mem_of_getElem? (i := 13) rfl)) (hw _ (List.mem_of_getElem? (i := 14) rfl)) e0 (g := (mkF m 1 #[rv sx, rv a, iv 0, iv 2, .val .null, .unset] [(.ref sx)])) rfl (by rw [hml]; rfl) rfl (hb hby own_d_jdk_42_method_149_1) (by decide) (W := 0) (by show 2 * 0 + _ ≤ _; exact Nat.le_of_eq rfl) (by decide)
  refine own_to (mkF m 4 #[rv sx, rv a, iv 0, iv 2, .val .null, .unset] []) st74 ?_
  refine own_to (T' := T74) (mkF m 5 #[rv sx, rv a, iv 0, iv 2, .val .null, .unset] [(.int (2 : Int32))]) (fun _ k => XS.iloadN X74.here hx rfl (hb hby own_d_jdk_42_method_149_4) rfl k) ?_
  refine own_to (T' := T74) (mkF m 27 #[rv sx, rv a, iv 0, iv 2, .val .null, .unset] []) (fun _ k => XS.ifYes X74.here hx rfl (pc0 := 5) (pc' := 27) rfl (hb hby own_d_jdk_42_method_149_5) rfl ((if0 _ _).trans (feq (by decide : ¬ ((2 : Int32) = (0 : Int32)))).2) (by decide) (by decide) k) ?_
  obtain ⟨T75, X75, e75, st75⟩ := getS2 X74 hx hZ hown (host := "") (Or.inl (hw _ (List.mem_of_getElem? (i := 15) rfl))) Via.refl e74 (O2.ext OL.2) (g := (mkF m 27 #[rv sx, rv a, iv 0, iv 2, .val .null, .unset] [])) rfl (hb hby own_d_jdk_42_method_149_27)
  refine own_to (mkF m 30 #[rv sx, rv a, iv 0, iv 2, .val .null, .unset] [(.int G1)]) st75 ?_
  refine own_to (T' := T75) (mkF m 33 #[rv sx, rv a, iv 0, iv 2, .val .null, .unset] []) (fun _ k => XS.ifNo X75.here hx rfl (hb hby own_d_jdk_42_method_149_30) rfl ((if0 _ _).trans (feq P5).1) k) ?_
  refine own_to (T' := T75) (mkF m 34 #[rv sx, rv a, iv 0, iv 2, .val .null, .unset] [(.ref a)]) (fun _ k => XS.aloadN X75.here hx rfl (hb hby own_d_jdk_42_method_149_33) rfl rfl k) ?_
  refine own_to (T' := T75) (mkF m 35 #[rv sx, rv a, iv 0, iv 2, .val .null, .unset] [(.int (0 : Int32)), (.ref a)]) (fun _ k => XS.iloadN X75.here hx rfl (hb hby own_d_jdk_42_method_149_34) rfl k) ?_
  refine own_to (T' := T75) (mkF m 36 #[rv sx, rv a, iv 0, iv 2, .val .null, .unset] [(.int (2 : Int32)), (.int (0 : Int32)), (.ref a)]) (fun _ k => XS.iloadN X75.here hx rfl (hb hby own_d_jdk_42_method_149_35) rfl k) ?_
  have KP0 := KP
  have lt0_sx := E_sx.lt
  have lt0_a := Va.lt
  obtain ⟨_, _, ⟨T76, L76, k76, n76⟩, -, X76, ⟨Lc76, hQ76, l76, y76, z76⟩, st76⟩ := Jvm.LawKit.callS X75 hx (y := (⟨"java/lang/StringUTF16", "compress", "([CII)[B"⟩ : MethodName)) hown (mvT hZ (hw _ (List.mem_of_getElem? (i := 16) rfl))) (mvT hZ (hw _ (List.mem_of_getElem? (i := 17) rfl))) (mvT hZ (hw _ (List.mem_of_getElem? (i := 18) rfl))) (mvT hZ (hw _ (List.mem_of_getElem? (i := 19) rfl))) (by decide) (backOf (W := 0) (own_rmC3_2 l Z a0 hw [] x0 x1 G1 a ka h0 n0 (Nat.le_trans Z0 KP.1) OL hx0 hx1 Va O2 P5 OAD OHI OLO) hZ (hw _ (List.mem_of_getElem? (i := 19) rfl)) (hw _ (List.mem_of_getElem? (i := 18) rfl)) (by decide) (by decide)) (g := (mkF m 36 #[rv sx, rv a, iv 0, iv 2, .val .null, .unset] [(.int (2 : Int32)), (.int (0 : Int32)), (.ref a)])) rfl (by rw [hml]; rfl) (argsL := [(.ref a), (.int (0 : Int32)), (.int (2 : Int32))]) (rest := []) (lenOf own_pd4 rfl) rfl (by show 2 * 0 + _ ≤ _; exact Nat.le_of_eq rfl) (hb hby own_d_jdk_42_method_149_36) (fun _ _ => ⟨rfl, e75, (by decide : 0 + 2 ≤ _), (by decide : 0 + 6 ≤ _)⟩)
  dsimp only [Pt.U, Pt.locs, Pt.cells, Pt.slots] at X76 l76 y76 z76 st76 hQ76
  subst l76 y76 z76
  obtain ⟨bb, kbb, rfl, N76q, K76, ge_bb, sz0_bb, hor76⟩ := hQ76
  have N76 := Fr.app N0 N76q
  have OL := OL.keep K76 all0
  have KP := KP.trans K76 all0
  have E_sx := E_sx.keep K76
  have F_value_sx := F_value_sx.keep K76 nin0
  have F_coder_sx := F_coder_sx.keep K76 nin0
  have Va := Va.keep K76 nin0
  rcases hor76 with ⟨hg0, hg1, Vb⟩ | Vb
  · refine own_to (mkF m 39 #[rv sx, rv a, iv 0, iv 2, .val .null, .unset] [(.ref bb)]) st76 ?_
    have sz_bb : h0.size ≤ bb := Nat.le_trans KP0.1 sz0_bb
    have ne_sx_bb : sx ≠ bb := Nat.ne_of_lt (Nat.lt_of_lt_of_le lt0_sx sz0_bb)
    have ne_a_bb : a ≠ bb := Nat.ne_of_lt (Nat.lt_of_lt_of_le lt0_a sz0_bb)
    refine own_to (T' := T76) (mkF m 41 #[rv sx, rv a, iv 0, iv 2, .val .null, rv bb] []) (fun _ k => XS.astore X76.here hx rfl (hb hby own_d_jdk_42_method_149_39) rfl rfl (l' := #[rv sx, rv a, iv 0, iv 2, .val .null, rv bb]) rfl k) ?_
    refine own_to (T' := T76) (mkF m 42 #[rv sx, rv a, iv 0, iv 2, .val .null, rv bb] [(.ref sx)]) (fun _ k => XS.aloadN X76.here hx rfl (hb hby own_d_jdk_42_method_149_41) rfl rfl k) ?_
    refine own_to (T' := T76) (mkF m 44 #[rv sx, rv a, iv 0, iv 2, .val .null, rv bb] [(.ref bb), (.ref sx)]) (fun _ k => XS.aload X76.here hx rfl (hb hby own_d_jdk_42_method_149_42) rfl rfl k) ?_
    refine own_to (T' := T76) (mkF m 45 #[rv sx, rv a, iv 0, iv 2, .val .null, rv bb] [(.int (2 : Int32)), (.ref bb), (.ref sx)]) (fun _ k => XS.iloadN X76.here hx rfl (hb hby own_d_jdk_42_method_149_44) rfl k) ?_
    obtain ⟨_, _, ⟨T77, L77, k77, n77⟩, -, X77, ⟨Lc77, hQ77, l77, y77, z77⟩, st77⟩ := Jvm.LawKit.callS X76 hx (y := (⟨"java/lang/StringUTF16", "coderFromArrayLen", "([BI)B"⟩ : MethodName)) hown (mvT hZ (hw _ (List.mem_of_getElem? (i := 24) rfl))) (mvT hZ (hw _ (List.mem_of_getElem? (i := 25) rfl))) (mvT hZ (hw _ (List.mem_of_getElem? (i := 18) rfl))) (mvT hZ (hw _ (List.mem_of_getElem? (i := 26) rfl))) (by decide) (backOf (W := 1) (own_rmCF_2_0 l Z a0 hw [] x0 x1 bb kbb T76.heap n0 (Nat.le_trans Z0 KP.1) OL Vb) hZ (hw _ (List.mem_of_getElem? (i := 26) rfl)) (hw _ (List.mem_of_getElem? (i := 18) rfl)) (by decide) (by decide)) (g := (mkF m 45 #[rv sx, rv a, iv 0, iv 2, .val .null, rv bb] [(.int (2 : Int32)), (.ref bb), (.ref sx)])) rfl (by rw [hml]; rfl) (argsL := [(.ref bb), (.int (2 : Int32))]) (rest := [(.ref sx)]) (lenOf own_pd6 rfl) rfl (by show 2 * 0 + _ ≤ _; exact Nat.le_of_eq rfl) (hb hby own_d_jdk_42_method_149_45) (fun _ _ => ⟨rfl, rfl, (by decide : 2 + 0 ≤ _), (by decide : 6 + 0 ≤ _)⟩)
    dsimp only [Pt.U, Pt.locs, Pt.cells, Pt.slots] at X77 l77 y77 z77 st77 hQ77
    subst l77 y77 z77
    obtain ⟨rfl, N77q, e77⟩ := hQ77
    have N77 := Fr.app N76 N77q
    refine own_to (mkF m 48 #[rv sx, rv a, iv 0, iv 2, .val .null, rv bb] [(.int (0 : Int32)), (.ref sx)]) st77 ?_
    obtain ⟨T78, h78, X78, e78, W78, st78⟩ := putFN X77 hx hZ hown (hw _ (List.mem_of_getElem? (i := 27) rfl)) Via.refl e77 F_coder_sx E_sx (Or.inr ⟨(hw _ (List.mem_of_getElem? (i := 28) rfl)), rfl, hnm⟩) (hw _ (List.mem_of_getElem? (i := 2) rfl)) (ty := .byte) (v' := (.int (0 : Int32))) (by decide) rfl rfl (g := (mkF m 48 #[rv sx, rv a, iv 0, iv 2, .val .null, rv bb] [(.int (0 : Int32)), (.ref sx)])) rfl rfl (hb hby own_d_jdk_42_method_149_48)
    refine own_to (mkF m 51 #[rv sx, rv a, iv 0, iv 2, .val .null, rv bb] []) st78 ?_
    have N78 := Fr.snoc X78 N77 ge_sx
    have tmp78 : Fld Z h78 sx "java/lang/String" "coder" "B" (.int (0 : Int32)) := F_coder_sx.same W78
    have OL := OL.wr W78 ge_sx
    have KP := KP.wr W78 (Or.inl (List.mem_of_getElem? (i := 0) rfl))
    have E_sx := E_sx.wr W78
    have F_value_sx := F_value_sx.other W78 (Or.inr (slot_ne (Or.inr (hw _ (List.mem_of_getElem? (i := 30) rfl))) (Or.inr (hw _ (List.mem_of_getElem? (i := 28) rfl))) (by decide) (t := (.array .byte)) (t' := .byte) (by decide) (by decide)))
    have Va := Va.other W78 (Ne.symm ne_sx_a)
    have Vb := Vb.other W78 (Ne.symm ne_sx_bb)
    have F_coder_sx := tmp78
    refine own_to (T' := T78) (mkF m 52 #[rv sx, rv a, iv 0, iv 2, .val .null, rv bb] [(.ref sx)]) (fun _ k => XS.aloadN X78.here hx rfl (hb hby own_d_jdk_42_method_149_51) rfl rfl k) ?_
    refine own_to (T' := T78) (mkF m 54 #[rv sx, rv a, iv 0, iv 2, .val .null, rv bb] [(.ref bb), (.ref sx)]) (fun _ k => XS.aload X78.here hx rfl (hb hby own_d_jdk_42_method_149_52) rfl rfl k) ?_
    obtain ⟨T79, h79, X79, e79, W79, st79⟩ := putF X78 hx hZ hown (host := "") (Or.inl (hw _ (List.mem_of_getElem? (i := 29) rfl))) Via.refl e78 F_value_sx E_sx (Or.inr ⟨(hw _ (List.mem_of_getElem? (i := 30) rfl)), rfl, hnm⟩) (hw _ (List.mem_of_getElem? (i := 2) rfl)) (ty := (.array .byte)) (by decide) rfl rfl (g := (mkF m 54 #[rv sx, rv a, iv 0, iv 2, .val .null, rv bb] [(.ref bb), (.ref sx)])) rfl rfl (hb hby own_d_jdk_42_method_149_54)
    refine own_to (mkF m 57 #[rv sx, rv a, iv 0, iv 2, .val .null, rv bb] []) st79 ?_
    have N79 := Fr.snoc X79 N78 ge_sx
    have tmp79 : Fld Z h79 sx "java/lang/String" "value" "[B" (.ref bb) := F_value_sx.same W79
    have OL := OL.wr W79 ge_sx
    have KP := KP.wr W79 (Or.inl (List.mem_of_getElem? (i := 0) rfl))
    have E_sx := E_sx.wr W79
    have F_coder_sx := F_coder_sx.other W79 (Or.inr (slot_ne (Or.inr (hw _ (List.mem_of_getElem? (i := 28) rfl))) (Or.inr (hw _ (List.mem_of_getElem? (i := 30) rfl))) (by decide) (t := .byte) (t' := (.array .byte)) (by decide) (by decide)))
    have Va := Va.other W79 (Ne.symm ne_sx_a)
    have Vb := Vb.other W79 (Ne.symm ne_sx_bb)
    have F_value_sx := tmp79
    exact own_ret0 X79 hx Bd.returns hlk (hb hby own_d_jdk_42_method_149_57) (by decide) (by decide) (by rw [e79]; exact ⟨rfl, N79, KP, bb, kbb, ge_bb, sz_bb, Or.inl ⟨hg0, hg1, ⟨E_sx, F_value_sx, F_coder_sx, Vb⟩⟩⟩)
  · refine own_to (mkF m 39 #[rv sx, rv a, iv 0, iv 2, .val .null, .unset] [(.ref bb)]) st76 ?_
    have sz_bb : h0.size ≤ bb := Nat.le_trans KP0.1 sz0_bb
    have ne_sx_bb : sx ≠ bb := Nat.ne_of_lt (Nat.lt_of_lt_of_le lt0_sx sz0_bb)
    have ne_a_bb : a ≠ bb := Nat.ne_of_lt (Nat.lt_of_lt_of_le lt0_a sz0_bb)
    refine own_to (T' := T76) (mkF m 41 #[rv sx, rv a, iv 0, iv 2, .val .null, rv bb] []) (fun _ k => XS.astore X76.here hx rfl (hb hby own_d_jdk_42_method_149_39) rfl rfl (l' := #[rv sx, rv a, iv 0, iv 2, .val .null, rv bb]) rfl k) ?_
    refine own_to (T' := T76) (mkF m 42 #[rv sx, rv a, iv 0, iv 2, .val .null, rv bb] [(.ref sx)]) (fun _ k => XS.aloadN X76.here hx rfl (hb hby own_d_jdk_42_method_149_41) rfl rfl k) ?_
    refine own_to (T' := T76) (mkF m 44 #[rv sx, rv a, iv 0, iv 2, .val .null, rv bb] [(.ref bb), (.ref sx)]) (fun _ k => XS.aload X76.here hx rfl (hb hby own_d_jdk_42_method_149_42) rfl rfl k) ?_
    refine own_to (T' := T76) (mkF m 45 #[rv sx, rv a, iv 0, iv 2, .val .null, rv bb] [(.int (2 : Int32)), (.ref bb), (.ref sx)]) (fun _ k => XS.iloadN X76.here hx rfl (hb hby own_d_jdk_42_method_149_44) rfl k) ?_
    obtain ⟨_, _, ⟨T80, L80, k80, n80⟩, -, X80, ⟨Lc80, hQ80, l80, y80, z80⟩, st80⟩ := Jvm.LawKit.callS X76 hx (y := (⟨"java/lang/StringUTF16", "coderFromArrayLen", "([BI)B"⟩ : MethodName)) hown (mvT hZ (hw _ (List.mem_of_getElem? (i := 24) rfl))) (mvT hZ (hw _ (List.mem_of_getElem? (i := 25) rfl))) (mvT hZ (hw _ (List.mem_of_getElem? (i := 18) rfl))) (mvT hZ (hw _ (List.mem_of_getElem? (i := 26) rfl))) (by decide) (backOf (W := 1) (own_rmCF_2_1 l Z a0 hw [] x0 x1 bb kbb T76.heap n0 (Nat.le_trans Z0 KP.1) OL Vb) hZ (hw _ (List.mem_of_getElem? (i := 26) rfl)) (hw _ (List.mem_of_getElem? (i := 18) rfl)) (by decide) (by decide)) (g := (mkF m 45 #[rv sx, rv a, iv 0, iv 2, .val .null, rv bb] [(.int (2 : Int32)), (.ref bb), (.ref sx)])) rfl (by rw [hml]; rfl) (argsL := [(.ref bb), (.int (2 : Int32))]) (rest := [(.ref sx)]) (lenOf own_pd6 rfl) rfl (by show 2 * 0 + _ ≤ _; exact Nat.le_of_eq rfl) (hb hby own_d_jdk_42_method_149_45) (fun _ _ => ⟨rfl, rfl, (by decide : 2 + 0 ≤ _), (by decide : 6 + 0 ≤ _)⟩)
    dsimp only [Pt.U, Pt.locs, Pt.cells, Pt.slots] at X80 l80 y80 z80 st80 hQ80
    subst l80 y80 z80
    obtain ⟨rfl, N80q, e80⟩ := hQ80
    have N80 := Fr.app N76 N80q
    refine own_to (mkF m 48 #[rv sx, rv a, iv 0, iv 2, .val .null, rv bb] [(.int (1 : Int32)), (.ref sx)]) st80 ?_
    obtain ⟨T81, h81, X81, e81, W81, st81⟩ := putFN X80 hx hZ hown (hw _ (List.mem_of_getElem? (i := 27) rfl)) Via.refl e80 F_coder_sx E_sx (Or.inr ⟨(hw _ (List.mem_of_getElem? (i := 28) rfl)), rfl, hnm⟩) (hw _ (List.mem_of_getElem? (i := 2) rfl)) (ty := .byte) (v' := (.int (1 : Int32))) (by decide) rfl rfl (g := (mkF m 48 #[rv sx, rv a, iv 0, iv 2, .val .null, rv bb] [(.int (1 : Int32)), (.ref sx)])) rfl rfl (hb hby own_d_jdk_42_method_149_48)
    refine own_to (mkF m 51 #[rv sx, rv a, iv 0, iv 2, .val .null, rv bb] []) st81 ?_
    have N81 := Fr.snoc X81 N80 ge_sx
    have tmp81 : Fld Z h81 sx "java/lang/String" "coder" "B" (.int (1 : Int32)) := F_coder_sx.same W81
    have OL := OL.wr W81 ge_sx
    have KP := KP.wr W81 (Or.inl (List.mem_of_getElem? (i := 0) rfl))
    have E_sx := E_sx.wr W81
    have F_value_sx := F_value_sx.other W81 (Or.inr (slot_ne (Or.inr (hw _ (List.mem_of_getElem? (i := 30) rfl))) (Or.inr (hw _ (List.mem_of_getElem? (i := 28) rfl))) (by decide) (t := (.array .byte)) (t' := .byte) (by decide) (by decide)))
    have Va := Va.other W81 (Ne.symm ne_sx_a)
    have Vb := Vb.other W81 (Ne.symm ne_sx_bb)
    have F_coder_sx := tmp81
    refine own_to (T' := T81) (mkF m 52 #[rv sx, rv a, iv 0, iv 2, .val .null, rv bb] [(.ref sx)]) (fun _ k => XS.aloadN X81.here hx rfl (hb hby own_d_jdk_42_method_149_51) rfl rfl k) ?_
    refine own_to (T' := T81) (mkF m 54 #[rv sx, rv a, iv 0, iv 2, .val .null, rv bb] [(.ref bb), (.ref sx)]) (fun _ k => XS.aload X81.here hx rfl (hb hby own_d_jdk_42_method_149_52) rfl rfl k) ?_
    obtain ⟨T82, h82, X82, e82, W82, st82⟩ := putF X81 hx hZ hown (host := "") (Or.inl (hw _ (List.mem_of_getElem? (i := 29) rfl))) Via.refl e81 F_value_sx E_sx (Or.inr ⟨(hw _ (List.mem_of_getElem? (i := 30) rfl)), rfl, hnm⟩) (hw _ (List.mem_of_getElem? (i := 2) rfl)) (ty := (.array .byte)) (by decide) rfl rfl (g := (mkF m 54 #[rv sx, rv a, iv 0, iv 2, .val .null, rv bb] [(.ref bb), (.ref sx)])) rfl rfl (hb hby own_d_jdk_42_method_149_54)
    refine own_to (mkF m 57 #[rv sx, rv a, iv 0, iv 2, .val .null, rv bb] []) st82 ?_
    have N82 := Fr.snoc X82 N81 ge_sx
    have tmp82 : Fld Z h82 sx "java/lang/String" "value" "[B" (.ref bb) := F_value_sx.same W82
    have OL := OL.wr W82 ge_sx
    have KP := KP.wr W82 (Or.inl (List.mem_of_getElem? (i := 0) rfl))
    have E_sx := E_sx.wr W82
    have F_coder_sx := F_coder_sx.other W82 (Or.inr (slot_ne (Or.inr (hw _ (List.mem_of_getElem? (i := 28) rfl))) (Or.inr (hw _ (List.mem_of_getElem? (i := 30) rfl))) (by decide) (t := .byte) (t' := (.array .byte)) (by decide) (by decide)))
    have Va := Va.other W82 (Ne.symm ne_sx_a)
    have Vb := Vb.other W82 (Ne.symm ne_sx_bb)
    have F_value_sx := tmp82
    exact own_ret0 X82 hx Bd.returns hlk (hb hby own_d_jdk_42_method_149_57) (by decide) (by decide) (by rw [e82]; exact ⟨rfl, N82, KP, bb, kbb, ge_bb, sz_bb, Or.inr ⟨E_sx, F_value_sx, F_coder_sx, Vb⟩⟩)
def own_QI1_2 (Z : State) (x0 x1 : Int32) (G1 : Int32) (sx a : Addr) (ka : ClassId) (h0 : Heap) (n0 : Nat) (v : Option Value) (h : Heap) (L : List Loc) : Prop := v = none ∧ Fr n0 L ∧ Keep h0 h [sx] ∧ ∃ (t : Addr) (kb : ClassId), n0 ≤ t ∧ h0.size ≤ t ∧ ((¬ ((255 : Int32) < x0) ∧ ¬ ((255 : Int32) < x1) ∧ own_StrG Z h sx t kb (0 : Int32) (2 : Int32) [(.int (x0.toInt8.toInt32)), (.int (x1.toInt8.toInt32))]) ∨ own_StrG Z h sx t kb (1 : Int32) (4 : Int32) [(.int ((x0 >>> ((0 : Int32) &&& 31)).toInt8.toInt32)), (.int ((x0 >>> ((8 : Int32) &&& 31)).toInt8.toInt32)), (.int ((x1 >>> ((0 : Int32) &&& 31)).toInt8.toInt32)), (.int ((x1 >>> ((8 : Int32) &&& 31)).toInt8.toInt32))])
set_option maxRecDepth 65536 in
set_option maxHeartbeats 40000000 in
theorem own_rmI1_2 (l : Launch) (Z : State) (a0 : Array Value) (hw : ∀ d ∈ tables_1, d.before a0 Z = true) (ws : List Jvm.Cond) (x0 x1 : Int32) (G1 : Int32) (sx a : Addr) (ka : ClassId) (h0 : Heap) (n0 : Nat) (Z0 : n0 ≤ h0.size) (OL : Old Z n0 h0) (ge_sx : n0 ≤ sx) (ne_sx_a : sx ≠ a) (E_sx : Exa Z h0 sx "java/lang/String") (F_value_sx : Fld Z h0 sx "java/lang/String" "value" "[B" .null) (F_coder_sx : Fld Z h0 sx "java/lang/String" "coder" "B" (.int (0 : Int32))) (hx0 : own_C16 x0) (hx1 : own_C16 x1) (Va : Arv Z h0 a ka .char (2 : Int32) [(.int x0), (.int x1)] (.int (0 : Int32))) (O2 : Sta Z Z.heap "java/lang/String" "COMPACT_STRINGS" "Z" (.int G1)) (P5 : ¬ (G1 = (0 : Int32))) (OAD : Sta Z Z.heap "java/lang/StringUTF16" "$assertionsDisabled" "Z" (.int (1 : Int32))) (OHI : Sta Z Z.heap "java/lang/StringUTF16" "HI_BYTE_SHIFT" "I" (.int (0 : Int32))) (OLO : Sta Z Z.heap "java/lang/StringUTF16" "LO_BYTE_SHIFT" "I" (.int (8 : Int32))) :
    MetFree l (⟨"java/lang/String", "<init>", "([C)V"⟩ : MethodName) (head1 (Jvm.Cond.code (⟨"java/lang/String", "<init>", "([C)V"⟩ : MethodName) jdk_42_method_3_code 2 none :: ws) ({ frames := 5, cells := 2, slots := 6, locals := 120 } : Room)) (fun aa_ U => aa_ = #[(.ref sx), (.ref a)] ∧ Z.Warmed39 U.vm ∧ U.heap = h0) (fun _ _ _ _ _ => True) (fun _ U o U' => ∃ v L, o = .returned v ∧ own_QI1_2 Z x0 x1 G1 sx a ka h0 n0 v U'.heap L ∧ FrameEnd U o U' L ({ frames := 5, cells := 2, slots := 6, locals := 120 } : Room).cells ({ frames := 5, cells := 2, slots := 6, locals := 120 } : Room).slots) := by
  refine MetFree.of_bodySF (plainFor_of_name own_pn1) hisR ?_
  intro p e s m args below meth c s₁ Bd hml0 hP hK
  obtain ⟨rfl, hZ, hh⟩ := hP
  have hx := Bd.exec
  have hby := Bd.bytes
  have hlk : meth.locks = false := BodyLoose.notSynchronized Bd
  have hml : c.maxLocals = 2 := hml0
  have hown : s.vm.findClass "java/lang/String" = some m.cls := findClass_of_methodNamed Bd.named
  have hnm := (name_of_methodNamed Bd.named Bd.method).1
  have X0 : Stand p l e ({ frames := 5, cells := 2, slots := 6, locals := 120 } : Room) s m #[(.ref sx), (.ref a)] below meth c s₁ [] 0 0 := Stand.of_body Bd
  have e0 : s₁.heap = h0 := by rw [← hh, Bd.state]; rfl
  have N0 := Fr.nil n0
  have KP : Keep h0 h0 [sx] := Keep.refl _ _
  refine own_start (Fin := (own_Fin s (own_QI1_2 Z x0 x1 G1 sx a ka h0 n0) ({ frames := 5, cells := 2, slots := 6, locals := 120 } : Room).cells ({ frames := 5, cells := 2, slots := 6, locals := 120 } : Room).slots)) (own_from (mkF m 0 #[rv sx, rv a] []) (castTop (own_ef_I1_2 m sx a)) ?_)
  refine own_to (T' := s₁) (mkF m 1 #[rv sx, rv a] [(.ref sx)]) (fun _ k => XS.aloadN X0.here hx rfl (hb hby own_d_jdk_42_method_3_0) rfl rfl k) ?_
  refine own_to (T' := s₁) (mkF m 2 #[rv sx, rv a] [(.ref a), (.ref sx)]) (fun _ k => XS.aloadN X0.here hx rfl (hb hby own_d_jdk_42_method_3_1) rfl rfl k) ?_
  refine own_to (T' := s₁) (mkF m 3 #[rv sx, rv a] [(.int (0 : Int32)), (.ref a), (.ref sx)]) (fun _ k => XS.iconst X0.here hx rfl (hb hby own_d_jdk_42_method_3_2) k) ?_
  refine own_to (T' := s₁) (mkF m 4 #[rv sx, rv a] [(.ref a), (.int (0 : Int32)), (.ref a), (.ref sx)]) (fun _ k => XS.aloadN X0.here hx rfl (hb hby own_d_jdk_42_method_3_3) rfl rfl k) ?_
  obtain ⟨cl83, Ar83, -, S83, M83, -, -⟩ := id Va
  refine own_to (mkF m 5 #[rv sx, rv a] [(.int (2 : Int32)), (.int (0 : Int32)), (.ref a), (.ref sx)]) (by have q := X0.arraylength hx (by rw [e0]; exact Ar83.1) (State.isArrayOf_alike hZ.alike Ar83.2.1) (g := (mkF m 4 #[rv sx, rv a] [(.ref a), (.int (0 : Int32)), (.ref a), (.ref sx)])) rfl rfl (hb hby own_d_jdk_42_method_3_4); rw [len_of S83 M83] at q; exact q) ?_
  refine own_to (T' := s₁) (mkF m 6 #[rv sx, rv a] [.null, (.int (2 : Int32)), (.int (0 : Int32)), (.ref a), (.ref sx)]) (fun _ k => XS.aconstNull X0.here hx rfl (hb hby own_d_jdk_42_method_3_5) k) ?_
  obtain ⟨_, _, ⟨T84, L84, k84, n84⟩, -, X84, ⟨Lc84, hQ84, l84, y84, z84⟩, st84⟩ := X0.specialBack hx (y := (⟨"java/lang/String", "<init>", "([CIILjava/lang/Void;)V"⟩ : MethodName)) rfl hown (mvT hZ (hw _ (List.mem_of_getElem? (i := 8) rfl))) (mvT hZ (hw _ (List.mem_of_getElem? (i := 9) rfl))) (mvT hZ (hw _ (List.mem_of_getElem? (i := 11) rfl))) (by decide) (backOf (W := 0) (own_rmI4_2 l Z a0 hw [] x0 x1 G1 sx a ka h0 n0 (Nat.le_trans Z0 KP.1) OL ge_sx ne_sx_a E_sx F_value_sx F_coder_sx hx0 hx1 Va O2 P5 OAD OHI OLO) hZ (hw _ (List.mem_of_getElem? (i := 11) rfl)) (hw _ (List.mem_of_getElem? (i := 3) rfl)) (by decide) (by decide)) (g := (mkF m 6 #[rv sx, rv a] [.null, (.int (2 : Int32)), (.int (0 : Int32)), (.ref a), (.ref sx)])) rfl (by rw [hml]; rfl) (Steps.refl _) (a := sx) (argsL := [(.ref a), (.int (0 : Int32)), (.int (2 : Int32)), .null]) (rest := []) (lenOf own_pd7 rfl) rfl (by show 2 * 0 + _ ≤ _; exact Nat.le_of_eq rfl) (hb hby own_d_jdk_42_method_3_6) (fun _ _ => ⟨rfl, e0, (by decide : 0 + 2 ≤ _), (by decide : 0 + 6 ≤ _)⟩)
  dsimp only [Pt.U, Pt.locs, Pt.cells, Pt.slots] at X84 l84 y84 z84 st84 hQ84
  subst l84 y84 z84
  obtain ⟨rfl, N84q, K84, hrest84⟩ := hQ84
  have N84 := Fr.app N0 N84q
  have OL := OL.keep K84 (allS ge_sx all0)
  have KP := KP.trans K84 (allS (Or.inl (List.mem_of_getElem? (i := 0) rfl)) all0)
  have Va := Va.keep K84 (ninS (Ne.symm ne_sx_a) nin0)
  refine own_via (mkF m 9 #[rv sx, rv a] []) st84 ?_
  exact own_ret0 X84 hx Bd.returns hlk (hb hby own_d_jdk_42_method_3_9) (by decide) (by decide) (by exact ⟨rfl, N84, KP, hrest84⟩)
def own_QC5_3 (Z : State) (x0 x1 x2 : Int32) (a : Addr) (ka : ClassId) (b : Addr) (kb : ClassId) (h0 : Heap) (n0 : Nat) (v : Option Value) (h : Heap) (L : List Loc) : Prop := Fr n0 L ∧ Keep h0 h [b] ∧ ((v = some (.int (3 : Int32)) ∧ ¬ ((255 : Int32) < x0) ∧ ¬ ((255 : Int32) < x1) ∧ ¬ ((255 : Int32) < x2) ∧ Arv Z h b kb .byte (3 : Int32) [(.int (x0.toInt8.toInt32)), (.int (x1.toInt8.toInt32)), (.int (x2.toInt8.toInt32))] (.int (0 : Int32))) ∨ (v = some (.int (0 : Int32)) ∧ (255 : Int32) < x0) ∨ (v = some (.int (1 : Int32)) ∧ (255 : Int32) < x1) ∨ (v = some (.int (2 : Int32)) ∧ (255 : Int32) < x2))
set_option maxRecDepth 65536 in
set_option maxHeartbeats 40000000 in
theorem own_rmC5_3 (l : Launch) (Z : State) (a0 : Array Value) (hw : ∀ d ∈ tables_1, d.before a0 Z = true) (ws : List Jvm.Cond) (x0 x1 x2 : Int32) (a : Addr) (ka : ClassId) (b : Addr) (kb : ClassId) (h0 : Heap) (n0 : Nat) (Z0 : n0 ≤ h0.size) (OL : Old Z n0 h0) (ne_a_b : a ≠ b) (ge_b : n0 ≤ b) (Va : Arv Z h0 a ka .char (3 : Int32) [(.int x0), (.int x1), (.int x2)] (.int (0 : Int32))) (Vb : Arv Z h0 b kb .byte (3 : Int32) [(.int (0 : Int32)), (.int (0 : Int32)), (.int (0 : Int32))] (.int (0 : Int32))) :
    MetFree l (⟨"java/lang/StringUTF16", "compress", "([CI[BII)I"⟩ : MethodName) (head1 (Jvm.Cond.code (⟨"java/lang/StringUTF16", "compress", "([CI[BII)I"⟩ : MethodName) jdk_52_method_21_code 7 (some .int) :: ws) ({ frames := 0, cells := 0, slots := 0, locals := 0 } : Room)) (fun aa_ U => aa_ = #[(.ref a), (.int (0 : Int32)), (.ref b), (.int (0 : Int32)), (.int (3 : Int32))] ∧ Z.Warmed39 U.vm ∧ U.heap = h0) (fun _ _ _ _ _ => True) (fun _ U o U' => ∃ v L, o = .returned v ∧ own_QC5_3 Z x0 x1 x2 a ka b kb h0 n0 v U'.heap L ∧ FrameEnd U o U' L ({ frames := 0, cells := 0, slots := 0, locals := 0 } : Room).cells ({ frames := 0, cells := 0, slots := 0, locals := 0 } : Room).slots) := by
  refine MetFree.of_bodySF (plainFor_of_name own_pn0) hisR ?_
  intro p e s m args below meth c s₁ Bd hml0 hP hK
  obtain ⟨rfl, hZ, hh⟩ := hP
  have hx := Bd.exec
  have hby := Bd.bytes
  have hlk : meth.locks = false := BodyLoose.notSynchronized Bd
  have hml : c.maxLocals = 7 := hml0
  have hown : s.vm.findClass "java/lang/StringUTF16" = some m.cls := findClass_of_methodNamed Bd.named
  have hnm := (name_of_methodNamed Bd.named Bd.method).1
  have X0 : Stand p l e ({ frames := 0, cells := 0, slots := 0, locals := 0 } : Room) s m #[(.ref a), (.int (0 : Int32)), (.ref b), (.int (0 : Int32)), (.int (3 : Int32))] below meth c s₁ [] 0 0 := Stand.of_body Bd
  have e0 : s₁.heap = h0 := by rw [← hh, Bd.state]; rfl
  have N0 := Fr.nil n0
  have KP : Keep h0 h0 [b] := Keep.refl _ _
  refine own_start (Fin := (own_Fin s (own_QC5_3 Z x0 x1 x2 a ka b kb h0 n0) ({ frames := 0, cells := 0, slots := 0, locals := 0 } : Room).cells ({ frames := 0, cells := 0, slots := 0, locals := 0 } : Room).slots)) (own_from (mkF m 0 #[rv a, iv 0, rv b, iv 0, iv 3, .unset, .unset] []) (castTop (own_ef_C5_3 m a (0 : Int32) b (0 : Int32) (3 : Int32))) ?_)
  refine own_to (T' := s₁) (mkF m 1 #[rv a, iv 0, rv b, iv 0, iv 3, .unset, .unset] [(.int (0 : Int32))]) (fun _ k => XS.iconst X0.here hx rfl (hb hby own_d_jdk_52_method_21_0) k) ?_
  refine own_to (T' := s₁) (mkF m 3 #[rv a, iv 0, rv b, iv 0, iv 3, iv 0, .unset] []) (fun _ k => XS.istore X0.here hx rfl (hb hby own_d_jdk_52_method_21_1) rfl (l' := #[rv a, iv 0, rv b, iv 0, iv 3, iv 0, .unset]) rfl k) ?_
  refine own_to (T' := s₁) (mkF m 5 #[rv a, iv 0, rv b, iv 0, iv 3, iv 0, .unset] [(.int (0 : Int32))]) (fun _ k => XS.iload X0.here hx rfl (hb hby own_d_jdk_52_method_21_3) rfl k) ?_
  refine own_to (T' := s₁) (mkF m 7 #[rv a, iv 0, rv b, iv 0, iv 3, iv 0, .unset] [(.int (3 : Int32)), (.int (0 : Int32))]) (fun _ k => XS.iload X0.here hx rfl (hb hby own_d_jdk_52_method_21_5) rfl k) ?_
  refine own_to (T' := s₁) (mkF m 10 #[rv a, iv 0, rv b, iv 0, iv 3, iv 0, .unset] []) (fun _ k => XS.icmpNo X0.here hx rfl (hb hby own_d_jdk_52_method_21_7) rfl (tlt (by decide : (0 : Int32) < (3 : Int32))).2.1 k) ?_
  refine own_to (T' := s₁) (mkF m 11 #[rv a, iv 0, rv b, iv 0, iv 3, iv 0, .unset] [(.ref a)]) (fun _ k => XS.aloadN X0.here hx rfl (hb hby own_d_jdk_52_method_21_10) rfl rfl k) ?_
  refine own_to (T' := s₁) (mkF m 12 #[rv a, iv 0, rv b, iv 0, iv 3, iv 0, .unset] [(.int (0 : Int32)), (.ref a)]) (fun _ k => XS.iloadN X0.here hx rfl (hb hby own_d_jdk_52_method_21_11) rfl k) ?_
  obtain ⟨cl85, Ar85, -, S85, -, H85, -⟩ := id Va
  refine own_to (mkF m 13 #[rv a, iv 0, rv b, iv 0, iv 3, iv 0, .unset] [(.int x0)]) (X0.caload hx (j := (0 : Int32)) (v := (.int x0)) (by rw [e0]; exact Ar85.1) (State.isArrayOf_alike hZ.alike Ar85.2.1) Ar85.2.2 (inb_of S85 ⟨by decide, by decide⟩) (H85.at (inb_of S85 ⟨by decide, by decide⟩) rfl) (g := (mkF m 12 #[rv a, iv 0, rv b, iv 0, iv 3, iv 0, .unset] [(.int (0 : Int32)), (.ref a)])) rfl rfl (hb hby own_d_jdk_52_method_21_12)) ?_
  refine own_to (T' := s₁) (mkF m 15 #[rv a, iv 0, rv b, iv 0, iv 3, iv 0, iv x0] []) (fun _ k => XS.istore X0.here hx rfl (hb hby own_d_jdk_52_method_21_13) rfl (l' := #[rv a, iv 0, rv b, iv 0, iv 3, iv 0, iv x0]) rfl k) ?_
  refine own_to (T' := s₁) (mkF m 17 #[rv a, iv 0, rv b, iv 0, iv 3, iv 0, iv x0] [(.int x0)]) (fun _ k => XS.iload X0.here hx rfl (hb hby own_d_jdk_52_method_21_15) rfl k) ?_
  refine own_to (T' := s₁) (mkF m 20 #[rv a, iv 0, rv b, iv 0, iv 3, iv 0, iv x0] [(.int (255 : Int32)), (.int x0)]) (fun _ k => XS.sipush X0.here hx rfl (hb hby own_d_jdk_52_method_21_17) k) ?_
  by_cases hb0 : (255 : Int32) < x0
  · refine own_to (T' := s₁) (mkF m 23 #[rv a, iv 0, rv b, iv 0, iv 3, iv 0, iv x0] []) (fun _ k => XS.icmpNo X0.here hx rfl (hb hby own_d_jdk_52_method_21_20) rfl (tlt hb0).2.2.2 k) ?_
    refine own_to (T' := s₁) (mkF m 25 #[rv a, iv 0, rv b, iv 0, iv 3, iv 0, iv x0] [(.int (0 : Int32))]) (fun _ k => XS.iload X0.here hx rfl (hb hby own_d_jdk_52_method_21_23) rfl k) ?_
    exact own_retI X0 hx Bd.returns hlk (hb hby own_d_jdk_52_method_21_25) (by decide) (by decide) (by rw [e0]; exact ⟨N0, KP, (Or.inr (Or.inl ⟨rfl, hb0⟩))⟩)
  · refine own_to (T' := s₁) (mkF m 26 #[rv a, iv 0, rv b, iv 0, iv 3, iv 0, iv x0] []) (fun _ k => XS.icmpYes X0.here hx rfl (pc0 := 20) (pc' := 26) rfl (hb hby own_d_jdk_52_method_21_20) rfl (flt hb0).2.2.2 (by decide) (by decide) k) ?_
    refine own_to (T' := s₁) (mkF m 27 #[rv a, iv 0, rv b, iv 0, iv 3, iv 0, iv x0] [(.ref b)]) (fun _ k => XS.aloadN X0.here hx rfl (hb hby own_d_jdk_52_method_21_26) rfl rfl k) ?_
    refine own_to (T' := s₁) (mkF m 28 #[rv a, iv 0, rv b, iv 0, iv 3, iv 0, iv x0] [(.int (0 : Int32)), (.ref b)]) (fun _ k => XS.iloadN X0.here hx rfl (hb hby own_d_jdk_52_method_21_27) rfl k) ?_
    refine own_to (T' := s₁) (mkF m 30 #[rv a, iv 0, rv b, iv 0, iv 3, iv 0, iv x0] [(.int x0), (.int (0 : Int32)), (.ref b)]) (fun _ k => XS.iload X0.here hx rfl (hb hby own_d_jdk_52_method_21_28) rfl k) ?_
    refine own_to (T' := s₁) (mkF m 31 #[rv a, iv 0, rv b, iv 0, iv 3, iv 0, iv x0] [(.int (x0.toInt8.toInt32)), (.int (0 : Int32)), (.ref b)]) (fun _ k => XS.i2b X0.here hx rfl (hb hby own_d_jdk_52_method_21_30) rfl k) ?_
    obtain ⟨cl86, Ar86, q86, S86, M86, H86, G86⟩ := id Vb
    obtain ⟨T86, h86, X86, e86, W86, st86⟩ := stB X0 hx hZ e0 Ar86 (j := (0 : Int32)) (inb_of S86 ⟨by decide, by decide⟩) (g := (mkF m 31 #[rv a, iv 0, rv b, iv 0, iv 3, iv 0, iv x0] [(.int (x0.toInt8.toInt32)), (.int (0 : Int32)), (.ref b)])) rfl rfl (hb hby own_d_jdk_52_method_21_31)
    refine own_to (mkF m 32 #[rv a, iv 0, rv b, iv 0, iv 3, iv 0, iv x0] []) st86 ?_
    have N86 := Fr.snoc X86 N0 ge_b
    have tmp86 : Arv Z h86 b kb .byte (3 : Int32) [(.int ((x0.toInt8.toInt32).toInt8.toInt32)), (.int (0 : Int32)), (.int (0 : Int32))] (.int (0 : Int32)) := Arv.set Ar86 q86 S86 M86 H86 G86 (fits_nar_byte _) W86 0 rfl (Nat.le_of_ble_eq_true rfl)
    rw [own_b8] at tmp86
    have OL := OL.wr W86 ge_b
    have KP := KP.wr W86 (Or.inl (List.mem_of_getElem? (i := 0) rfl))
    have Va := Va.other W86 ne_a_b
    have Vb := tmp86
    refine own_to (T' := T86) (mkF m 35 #[rv a, iv 1, rv b, iv 0, iv 3, iv 0, iv x0] []) (fun _ k => XS.iinc X86.here hx rfl (hb hby own_d_jdk_52_method_21_32) rfl (l' := #[rv a, iv 1, rv b, iv 0, iv 3, iv 0, iv x0]) rfl k) ?_
    refine own_to (T' := T86) (mkF m 38 #[rv a, iv 1, rv b, iv 1, iv 3, iv 0, iv x0] []) (fun _ k => XS.iinc X86.here hx rfl (hb hby own_d_jdk_52_method_21_35) rfl (l' := #[rv a, iv 1, rv b, iv 1, iv 3, iv 0, iv x0]) rfl k) ?_
    refine own_to (T' := T86) (mkF m 41 #[rv a, iv 1, rv b, iv 1, iv 3, iv 1, iv x0] []) (fun _ k => XS.iinc X86.here hx rfl (hb hby own_d_jdk_52_method_21_38) rfl (l' := #[rv a, iv 1, rv b, iv 1, iv 3, iv 1, iv x0]) rfl k) ?_
    refine own_to (T' := T86) (mkF m 3 #[rv a, iv 1, rv b, iv 1, iv 3, iv 1, iv x0] []) (fun _ k => XS.goto X86.here hx rfl (pc0 := 41) (pc' := 3) rfl (hb hby own_d_jdk_52_method_21_41) (by decide) (by decide) k) ?_
    refine own_to (T' := T86) (mkF m 5 #[rv a, iv 1, rv b, iv 1, iv 3, iv 1, iv x0] [(.int (1 : Int32))]) (fun _ k => XS.iload X86.here hx rfl (hb hby own_d_jdk_52_method_21_3) rfl k) ?_
    refine own_to (T' := T86) (mkF m 7 #[rv a, iv 1, rv b, iv 1, iv 3, iv 1, iv x0] [(.int (3 : Int32)), (.int (1 : Int32))]) (fun _ k => XS.iload X86.here hx rfl (hb hby own_d_jdk_52_method_21_5) rfl k) ?_
    refine own_to (T' := T86) (mkF m 10 #[rv a, iv 1, rv b, iv 1, iv 3, iv 1, iv x0] []) (fun _ k => XS.icmpNo X86.here hx rfl (hb hby own_d_jdk_52_method_21_7) rfl (tlt (by decide : (1 : Int32) < (3 : Int32))).2.1 k) ?_
    refine own_to (T' := T86) (mkF m 11 #[rv a, iv 1, rv b, iv 1, iv 3, iv 1, iv x0] [(.ref a)]) (fun _ k => XS.aloadN X86.here hx rfl (hb hby own_d_jdk_52_method_21_10) rfl rfl k) ?_
    refine own_to (T' := T86) (mkF m 12 #[rv a, iv 1, rv b, iv 1, iv 3, iv 1, iv x0] [(.int (1 : Int32)), (.ref a)]) (fun _ k => XS.iloadN X86.here hx rfl (hb hby own_d_jdk_52_method_21_11) rfl k) ?_
    obtain ⟨cl87, Ar87, -, S87, -, H87, -⟩ := id Va
    refine own_to (mkF m 13 #[rv a, iv 1, rv b, iv 1, iv 3, iv 1, iv x0] [(.int x1)]) (X86.caload hx (j := (1 : Int32)) (v := (.int x1)) (by rw [e86]; exact Ar87.1) (State.isArrayOf_alike hZ.alike Ar87.2.1) Ar87.2.2 (inb_of S87 ⟨by decide, by decide⟩) (H87.at (inb_of S87 ⟨by decide, by decide⟩) rfl) (g := (mkF m 12 #[rv a, iv 1, rv b, iv 1, iv 3, iv 1, iv x0] [(.int (1 : Int32)), (.ref a)])) rfl rfl (hb hby own_d_jdk_52_method_21_12)) ?_
    refine own_to (T' := T86) (mkF m 15 #[rv a, iv 1, rv b, iv 1, iv 3, iv 1, iv x1] []) (fun _ k => XS.istore X86.here hx rfl (hb hby own_d_jdk_52_method_21_13) rfl (l' := #[rv a, iv 1, rv b, iv 1, iv 3, iv 1, iv x1]) rfl k) ?_
    refine own_to (T' := T86) (mkF m 17 #[rv a, iv 1, rv b, iv 1, iv 3, iv 1, iv x1] [(.int x1)]) (fun _ k => XS.iload X86.here hx rfl (hb hby own_d_jdk_52_method_21_15) rfl k) ?_
    refine own_to (T' := T86) (mkF m 20 #[rv a, iv 1, rv b, iv 1, iv 3, iv 1, iv x1] [(.int (255 : Int32)), (.int x1)]) (fun _ k => XS.sipush X86.here hx rfl (hb hby own_d_jdk_52_method_21_17) k) ?_
    by_cases hb1 : (255 : Int32) < x1
    · refine own_to (T' := T86) (mkF m 23 #[rv a, iv 1, rv b, iv 1, iv 3, iv 1, iv x1] []) (fun _ k => XS.icmpNo X86.here hx rfl (hb hby own_d_jdk_52_method_21_20) rfl (tlt hb1).2.2.2 k) ?_
      refine own_to (T' := T86) (mkF m 25 #[rv a, iv 1, rv b, iv 1, iv 3, iv 1, iv x1] [(.int (1 : Int32))]) (fun _ k => XS.iload X86.here hx rfl (hb hby own_d_jdk_52_method_21_23) rfl k) ?_
      exact own_retI X86 hx Bd.returns hlk (hb hby own_d_jdk_52_method_21_25) (by decide) (by decide) (by rw [e86]; exact ⟨N86, KP, (Or.inr (Or.inr (Or.inl ⟨rfl, hb1⟩)))⟩)
    · refine own_to (T' := T86) (mkF m 26 #[rv a, iv 1, rv b, iv 1, iv 3, iv 1, iv x1] []) (fun _ k => XS.icmpYes X86.here hx rfl (pc0 := 20) (pc' := 26) rfl (hb hby own_d_jdk_52_method_21_20) rfl (flt hb1).2.2.2 (by decide) (by decide) k) ?_
      refine own_to (T' := T86) (mkF m 27 #[rv a, iv 1, rv b, iv 1, iv 3, iv 1, iv x1] [(.ref b)]) (fun _ k => XS.aloadN X86.here hx rfl (hb hby own_d_jdk_52_method_21_26) rfl rfl k) ?_
      refine own_to (T' := T86) (mkF m 28 #[rv a, iv 1, rv b, iv 1, iv 3, iv 1, iv x1] [(.int (1 : Int32)), (.ref b)]) (fun _ k => XS.iloadN X86.here hx rfl (hb hby own_d_jdk_52_method_21_27) rfl k) ?_
      refine own_to (T' := T86) (mkF m 30 #[rv a, iv 1, rv b, iv 1, iv 3, iv 1, iv x1] [(.int x1), (.int (1 : Int32)), (.ref b)]) (fun _ k => XS.iload X86.here hx rfl (hb hby own_d_jdk_52_method_21_28) rfl k) ?_
      refine own_to (T' := T86) (mkF m 31 #[rv a, iv 1, rv b, iv 1, iv 3, iv 1, iv x1] [(.int (x1.toInt8.toInt32)), (.int (1 : Int32)), (.ref b)]) (fun _ k => XS.i2b X86.here hx rfl (hb hby own_d_jdk_52_method_21_30) rfl k) ?_
      obtain ⟨cl88, Ar88, q88, S88, M88, H88, G88⟩ := id Vb
      obtain ⟨T88, h88, X88, e88, W88, st88⟩ := stB X86 hx hZ e86 Ar88 (j := (1 : Int32)) (inb_of S88 ⟨by decide, by decide⟩) (g := (mkF m 31 #[rv a, iv 1, rv b, iv 1, iv 3, iv 1, iv x1] [(.int (x1.toInt8.toInt32)), (.int (1 : Int32)), (.ref b)])) rfl rfl (hb hby own_d_jdk_52_method_21_31)
      refine own_to (mkF m 32 #[rv a, iv 1, rv b, iv 1, iv 3, iv 1, iv x1] []) st88 ?_
      have N88 := Fr.snoc X88 N86 ge_b
      have tmp88 : Arv Z h88 b kb .byte (3 : Int32) [(.int (x0.toInt8.toInt32)), (.int ((x1.toInt8.toInt32).toInt8.toInt32)), (.int (0 : Int32))] (.int (0 : Int32)) := Arv.set Ar88 q88 S88 M88 H88 G88 (fits_nar_byte _) W88 1 rfl (Nat.le_of_ble_eq_true rfl)
      rw [own_b8] at tmp88
      have OL := OL.wr W88 ge_b
      have KP := KP.wr W88 (Or.inl (List.mem_of_getElem? (i := 0) rfl))
      have Va := Va.other W88 ne_a_b
      have Vb := tmp88
      refine own_to (T' := T88) (mkF m 35 #[rv a, iv 2, rv b, iv 1, iv 3, iv 1, iv x1] []) (fun _ k => XS.iinc X88.here hx rfl (hb hby own_d_jdk_52_method_21_32) rfl (l' := #[rv a, iv 2, rv b, iv 1, iv 3, iv 1, iv x1]) rfl k) ?_
      refine own_to (T' := T88) (mkF m 38 #[rv a, iv 2, rv b, iv 2, iv 3, iv 1, iv x1] []) (fun _ k => XS.iinc X88.here hx rfl (hb hby own_d_jdk_52_method_21_35) rfl (l' := #[rv a, iv 2, rv b, iv 2, iv 3, iv 1, iv x1]) rfl k) ?_
      refine own_to (T' := T88) (mkF m 41 #[rv a, iv 2, rv b, iv 2, iv 3, iv 2, iv x1] []) (fun _ k => XS.iinc X88.here hx rfl (hb hby own_d_jdk_52_method_21_38) rfl (l' := #[rv a, iv 2, rv b, iv 2, iv 3, iv 2, iv x1]) rfl k) ?_
      refine own_to (T' := T88) (mkF m 3 #[rv a, iv 2, rv b, iv 2, iv 3, iv 2, iv x1] []) (fun _ k => XS.goto X88.here hx rfl (pc0 := 41) (pc' := 3) rfl (hb hby own_d_jdk_52_method_21_41) (by decide) (by decide) k) ?_
      refine own_to (T' := T88) (mkF m 5 #[rv a, iv 2, rv b, iv 2, iv 3, iv 2, iv x1] [(.int (2 : Int32))]) (fun _ k => XS.iload X88.here hx rfl (hb hby own_d_jdk_52_method_21_3) rfl k) ?_
      refine own_to (T' := T88) (mkF m 7 #[rv a, iv 2, rv b, iv 2, iv 3, iv 2, iv x1] [(.int (3 : Int32)), (.int (2 : Int32))]) (fun _ k => XS.iload X88.here hx rfl (hb hby own_d_jdk_52_method_21_5) rfl k) ?_
      refine own_to (T' := T88) (mkF m 10 #[rv a, iv 2, rv b, iv 2, iv 3, iv 2, iv x1] []) (fun _ k => XS.icmpNo X88.here hx rfl (hb hby own_d_jdk_52_method_21_7) rfl (tlt (by decide : (2 : Int32) < (3 : Int32))).2.1 k) ?_
      refine own_to (T' := T88) (mkF m 11 #[rv a, iv 2, rv b, iv 2, iv 3, iv 2, iv x1] [(.ref a)]) (fun _ k => XS.aloadN X88.here hx rfl (hb hby own_d_jdk_52_method_21_10) rfl rfl k) ?_
      refine own_to (T' := T88) (mkF m 12 #[rv a, iv 2, rv b, iv 2, iv 3, iv 2, iv x1] [(.int (2 : Int32)), (.ref a)]) (fun _ k => XS.iloadN X88.here hx rfl (hb hby own_d_jdk_52_method_21_11) rfl k) ?_
      obtain ⟨cl89, Ar89, -, S89, -, H89, -⟩ := id Va
      refine own_to (mkF m 13 #[rv a, iv 2, rv b, iv 2, iv 3, iv 2, iv x1] [(.int x2)]) (X88.caload hx (j := (2 : Int32)) (v := (.int x2)) (by rw [e88]; exact Ar89.1) (State.isArrayOf_alike hZ.alike Ar89.2.1) Ar89.2.2 (inb_of S89 ⟨by decide, by decide⟩) (H89.at (inb_of S89 ⟨by decide, by decide⟩) rfl) (g := (mkF m 12 #[rv a, iv 2, rv b, iv 2, iv 3, iv 2, iv x1] [(.int (2 : Int32)), (.ref a)])) rfl rfl (hb hby own_d_jdk_52_method_21_12)) ?_
      refine own_to (T' := T88) (mkF m 15 #[rv a, iv 2, rv b, iv 2, iv 3, iv 2, iv x2] []) (fun _ k => XS.istore X88.here hx rfl (hb hby own_d_jdk_52_method_21_13) rfl (l' := #[rv a, iv 2, rv b, iv 2, iv 3, iv 2, iv x2]) rfl k) ?_
      refine own_to (T' := T88) (mkF m 17 #[rv a, iv 2, rv b, iv 2, iv 3, iv 2, iv x2] [(.int x2)]) (fun _ k => XS.iload X88.here hx rfl (hb hby own_d_jdk_52_method_21_15) rfl k) ?_
      refine own_to (T' := T88) (mkF m 20 #[rv a, iv 2, rv b, iv 2, iv 3, iv 2, iv x2] [(.int (255 : Int32)), (.int x2)]) (fun _ k => XS.sipush X88.here hx rfl (hb hby own_d_jdk_52_method_21_17) k) ?_
      by_cases hb2 : (255 : Int32) < x2
      · refine own_to (T' := T88) (mkF m 23 #[rv a, iv 2, rv b, iv 2, iv 3, iv 2, iv x2] []) (fun _ k => XS.icmpNo X88.here hx rfl (hb hby own_d_jdk_52_method_21_20) rfl (tlt hb2).2.2.2 k) ?_
        refine own_to (T' := T88) (mkF m 25 #[rv a, iv 2, rv b, iv 2, iv 3, iv 2, iv x2] [(.int (2 : Int32))]) (fun _ k => XS.iload X88.here hx rfl (hb hby own_d_jdk_52_method_21_23) rfl k) ?_
        exact own_retI X88 hx Bd.returns hlk (hb hby own_d_jdk_52_method_21_25) (by decide) (by decide) (by rw [e88]; exact ⟨N88, KP, (Or.inr (Or.inr (Or.inr ⟨rfl, hb2⟩)))⟩)
      · refine own_to (T' := T88) (mkF m 26 #[rv a, iv 2, rv b, iv 2, iv 3, iv 2, iv x2] []) (fun _ k => XS.icmpYes X88.here hx rfl (pc0 := 20) (pc' := 26) rfl (hb hby own_d_jdk_52_method_21_20) rfl (flt hb2).2.2.2 (by decide) (by decide) k) ?_
        refine own_to (T' := T88) (mkF m 27 #[rv a, iv 2, rv b, iv 2, iv 3, iv 2, iv x2] [(.ref b)]) (fun _ k => XS.aloadN X88.here hx rfl (hb hby own_d_jdk_52_method_21_26) rfl rfl k) ?_
        refine own_to (T' := T88) (mkF m 28 #[rv a, iv 2, rv b, iv 2, iv 3, iv 2, iv x2] [(.int (2 : Int32)), (.ref b)]) (fun _ k => XS.iloadN X88.here hx rfl (hb hby own_d_jdk_52_method_21_27) rfl k) ?_
        refine own_to (T' := T88) (mkF m 30 #[rv a, iv 2, rv b, iv 2, iv 3, iv 2, iv x2] [(.int x2), (.int (2 : Int32)), (.ref b)]) (fun _ k => XS.iload X88.here hx rfl (hb hby own_d_jdk_52_method_21_28) rfl k) ?_
        refine own_to (T' := T88) (mkF m 31 #[rv a, iv 2, rv b, iv 2, iv 3, iv 2, iv x2] [(.int (x2.toInt8.toInt32)), (.int (2 : Int32)), (.ref b)]) (fun _ k => XS.i2b X88.here hx rfl (hb hby own_d_jdk_52_method_21_30) rfl k) ?_
        obtain ⟨cl90, Ar90, q90, S90, M90, H90, G90⟩ := id Vb
        obtain ⟨T90, h90, X90, e90, W90, st90⟩ := stB X88 hx hZ e88 Ar90 (j := (2 : Int32)) (inb_of S90 ⟨by decide, by decide⟩) (g := (mkF m 31 #[rv a, iv 2, rv b, iv 2, iv 3, iv 2, iv x2] [(.int (x2.toInt8.toInt32)), (.int (2 : Int32)), (.ref b)])) rfl rfl (hb hby own_d_jdk_52_method_21_31)
        refine own_to (mkF m 32 #[rv a, iv 2, rv b, iv 2, iv 3, iv 2, iv x2] []) st90 ?_
        have N90 := Fr.snoc X90 N88 ge_b
        have tmp90 : Arv Z h90 b kb .byte (3 : Int32) [(.int (x0.toInt8.toInt32)), (.int (x1.toInt8.toInt32)), (.int ((x2.toInt8.toInt32).toInt8.toInt32))] (.int (0 : Int32)) := Arv.set Ar90 q90 S90 M90 H90 G90 (fits_nar_byte _) W90 2 rfl (Nat.le_of_ble_eq_true rfl)
        rw [own_b8] at tmp90
        have OL := OL.wr W90 ge_b
        have KP := KP.wr W90 (Or.inl (List.mem_of_getElem? (i := 0) rfl))
        have Va := Va.other W90 ne_a_b
        have Vb := tmp90
        refine own_to (T' := T90) (mkF m 35 #[rv a, iv 3, rv b, iv 2, iv 3, iv 2, iv x2] []) (fun _ k => XS.iinc X90.here hx rfl (hb hby own_d_jdk_52_method_21_32) rfl (l' := #[rv a, iv 3, rv b, iv 2, iv 3, iv 2, iv x2]) rfl k) ?_
        refine own_to (T' := T90) (mkF m 38 #[rv a, iv 3, rv b, iv 3, iv 3, iv 2, iv x2] []) (fun _ k => XS.iinc X90.here hx rfl (hb hby own_d_jdk_52_method_21_35) rfl (l' := #[rv a, iv 3, rv b, iv 3, iv 3, iv 2, iv x2]) rfl k) ?_
        refine own_to (T' := T90) (mkF m 41 #[rv a, iv 3, rv b, iv 3, iv 3, iv 3, iv x2] []) (fun _ k => XS.iinc X90.here hx rfl (hb hby own_d_jdk_52_method_21_38) rfl (l' := #[rv a, iv 3, rv b, iv 3, iv 3, iv 3, iv x2]) rfl k) ?_
        refine own_to (T' := T90) (mkF m 3 #[rv a, iv 3, rv b, iv 3, iv 3, iv 3, iv x2] []) (fun _ k => XS.goto X90.here hx rfl (pc0 := 41) (pc' := 3) rfl (hb hby own_d_jdk_52_method_21_41) (by decide) (by decide) k) ?_
        refine own_to (T' := T90) (mkF m 5 #[rv a, iv 3, rv b, iv 3, iv 3, iv 3, iv x2] [(.int (3 : Int32))]) (fun _ k => XS.iload X90.here hx rfl (hb hby own_d_jdk_52_method_21_3) rfl k) ?_
        refine own_to (T' := T90) (mkF m 7 #[rv a, iv 3, rv b, iv 3, iv 3, iv 3, iv x2] [(.int (3 : Int32)), (.int (3 : Int32))]) (fun _ k => XS.iload X90.here hx rfl (hb hby own_d_jdk_52_method_21_5) rfl k) ?_
        refine own_to (T' := T90) (mkF m 44 #[rv a, iv 3, rv b, iv 3, iv 3, iv 3, iv x2] []) (fun _ k => XS.icmpYes X90.here hx rfl (pc0 := 7) (pc' := 44) rfl (hb hby own_d_jdk_52_method_21_7) rfl (flt (by decide : ¬ ((3 : Int32) < (3 : Int32)))).2.1 (by decide) (by decide) k) ?_
        refine own_to (T' := T90) (mkF m 46 #[rv a, iv 3, rv b, iv 3, iv 3, iv 3, iv x2] [(.int (3 : Int32))]) (fun _ k => XS.iload X90.here hx rfl (hb hby own_d_jdk_52_method_21_44) rfl k) ?_
        exact own_retI X90 hx Bd.returns hlk (hb hby own_d_jdk_52_method_21_46) (by decide) (by decide) (by rw [e90]; exact ⟨N90, KP, Or.inl ⟨rfl, hb0, hb1, hb2, Vb⟩⟩)
def own_QNL_3 (Z : State)  (h0 : Heap) (n0 : Nat) (v : Option Value) (h : Heap) (L : List Loc) : Prop := v = some (.int (6 : Int32)) ∧ Fr n0 L ∧ h = h0
set_option maxRecDepth 65536 in
set_option maxHeartbeats 40000000 in
theorem own_rmNL_3 (l : Launch) (Z : State) (a0 : Array Value) (hw : ∀ d ∈ tables_1, d.before a0 Z = true) (ws : List Jvm.Cond)  (h0 : Heap) (n0 : Nat) (Z0 : n0 ≤ h0.size) (OL : Old Z n0 h0)  :
    MetFree l (⟨"java/lang/StringUTF16", "newBytesLength", "(I)I"⟩ : MethodName) (head1 (Jvm.Cond.code (⟨"java/lang/StringUTF16", "newBytesLength", "(I)I"⟩ : MethodName) jdk_52_method_3_code 1 (some .int) :: ws) ({ frames := 0, cells := 0, slots := 0, locals := 0 } : Room)) (fun aa_ U => aa_ = #[(.int (3 : Int32))] ∧ Z.Warmed39 U.vm ∧ U.heap = h0) (fun _ _ _ _ _ => True) (fun _ U o U' => ∃ v L, o = .returned v ∧ own_QNL_3 Z  h0 n0 v U'.heap L ∧ FrameEnd U o U' L ({ frames := 0, cells := 0, slots := 0, locals := 0 } : Room).cells ({ frames := 0, cells := 0, slots := 0, locals := 0 } : Room).slots) := by
  refine MetFree.of_bodySF (plainFor_of_name own_pn0) hisR ?_
  intro p e s m args below meth c s₁ Bd hml0 hP hK
  obtain ⟨rfl, hZ, hh⟩ := hP
  have hx := Bd.exec
  have hby := Bd.bytes
  have hlk : meth.locks = false := BodyLoose.notSynchronized Bd
  have hml : c.maxLocals = 1 := hml0
  have hown : s.vm.findClass "java/lang/StringUTF16" = some m.cls := findClass_of_methodNamed Bd.named
  have hnm := (name_of_methodNamed Bd.named Bd.method).1
  have X0 : Stand p l e ({ frames := 0, cells := 0, slots := 0, locals := 0 } : Room) s m #[(.int (3 : Int32))] below meth c s₁ [] 0 0 := Stand.of_body Bd
  have e0 : s₁.heap = h0 := by rw [← hh, Bd.state]; rfl
  have N0 := Fr.nil n0
  have KP : Keep h0 h0 [] := Keep.refl _ _
  refine own_start (Fin := (own_Fin s (own_QNL_3 Z  h0 n0) ({ frames := 0, cells := 0, slots := 0, locals := 0 } : Room).cells ({ frames := 0, cells := 0, slots := 0, locals := 0 } : Room).slots)) (own_from (mkF m 0 #[iv 3] []) (castTop (own_ef_NL_3 m (3 : Int32))) ?_)
  refine own_to (T' := s₁) (mkF m 1 #[iv 3] [(.int (3 : Int32))]) (fun _ k => XS.iloadN X0.here hx rfl (hb hby own_d_jdk_52_method_3_0) rfl k) ?_
  refine own_to (T' := s₁) (mkF m 12 #[iv 3] []) (fun _ k => XS.ifYes X0.here hx rfl (pc0 := 1) (pc' := 12) rfl (hb hby own_d_jdk_52_method_3_1) rfl ((if0 _ _).trans (flt (by decide : ¬ ((3 : Int32) < (0 : Int32)))).2.1) (by decide) (by decide) k) ?_
  refine own_to (T' := s₁) (mkF m 13 #[iv 3] [(.int (3 : Int32))]) (fun _ k => XS.iloadN X0.here hx rfl (hb hby own_d_jdk_52_method_3_12) rfl k) ?_
  refine own_to (mkF m 15 #[iv 3] [(.int (1073741823 : Int32)), (.int (3 : Int32))]) (X0.ldcInt hx hown (mvT hZ (hw _ (List.mem_of_getElem? (i := 78) rfl))) (g := (mkF m 13 #[iv 3] [(.int (3 : Int32))])) rfl (hb hby own_d_jdk_52_method_3_13)) ?_
  refine own_to (T' := s₁) (mkF m 55 #[iv 3] []) (fun _ k => XS.icmpYes X0.here hx rfl (pc0 := 15) (pc' := 55) rfl (hb hby own_d_jdk_52_method_3_15) rfl (tlt (by decide : (3 : Int32) < (1073741823 : Int32))).1 (by decide) (by decide) k) ?_
  refine own_to (T' := s₁) (mkF m 56 #[iv 3] [(.int (3 : Int32))]) (fun _ k => XS.iloadN X0.here hx rfl (hb hby own_d_jdk_52_method_3_55) rfl k) ?_
  refine own_to (T' := s₁) (mkF m 57 #[iv 3] [(.int (1 : Int32)), (.int (3 : Int32))]) (fun _ k => XS.iconst X0.here hx rfl (hb hby own_d_jdk_52_method_3_56) k) ?_
  refine own_to (T' := s₁) (mkF m 58 #[iv 3] [(.int (6 : Int32))]) (fun _ k => XS.ishl X0.here hx rfl (hb hby own_d_jdk_52_method_3_57) rfl k) ?_
  exact own_retI X0 hx Bd.returns hlk (hb hby own_d_jdk_52_method_3_58) (by decide) (by decide) (by rw [e0]; exact ⟨rfl, N0, rfl⟩)
def own_QNF_3 (Z : State)  (h0 : Heap) (n0 : Nat) (v : Option Value) (h : Heap) (L : List Loc) : Prop := ∃ (b : Addr) (kb : ClassId), v = some (.ref b) ∧ Fr n0 L ∧ Keep h0 h [] ∧ n0 ≤ b ∧ h0.size ≤ b ∧ Arv Z h b kb .byte (6 : Int32) [(.int (0 : Int32)), (.int (0 : Int32)), (.int (0 : Int32)), (.int (0 : Int32)), (.int (0 : Int32)), (.int (0 : Int32))] (.int (0 : Int32))
set_option maxRecDepth 65536 in
set_option maxHeartbeats 40000000 in
theorem own_rmNF_3 (l : Launch) (Z : State) (a0 : Array Value) (hw : ∀ d ∈ tables_1, d.before a0 Z = true) (ws : List Jvm.Cond)  (h0 : Heap) (n0 : Nat) (Z0 : n0 ≤ h0.size) (OL : Old Z n0 h0)  :
    MetFree l (⟨"java/lang/StringUTF16", "newBytesFor", "(I)[B"⟩ : MethodName) (head1 (Jvm.Cond.code (⟨"java/lang/StringUTF16", "newBytesFor", "(I)[B"⟩ : MethodName) jdk_52_method_2_code 1 (some (.array .byte)) :: ws) ({ frames := 1, cells := 1, slots := 6, locals := 20 } : Room)) (fun aa_ U => aa_ = #[(.int (3 : Int32))] ∧ Z.Warmed39 U.vm ∧ U.heap = h0) (fun _ _ _ _ _ => True) (fun _ U o U' => ∃ v L, o = .returned v ∧ own_QNF_3 Z  h0 n0 v U'.heap L ∧ FrameEnd U o U' L ({ frames := 1, cells := 1, slots := 6, locals := 20 } : Room).cells ({ frames := 1, cells := 1, slots := 6, locals := 20 } : Room).slots) := by
  refine MetFree.of_bodySF (plainFor_of_name own_pn0) hisR ?_
  intro p e s m args below meth c s₁ Bd hml0 hP hK
  obtain ⟨rfl, hZ, hh⟩ := hP
  have hx := Bd.exec
  have hby := Bd.bytes
  have hlk : meth.locks = false := BodyLoose.notSynchronized Bd
  have hml : c.maxLocals = 1 := hml0
  have hown : s.vm.findClass "java/lang/StringUTF16" = some m.cls := findClass_of_methodNamed Bd.named
  have hnm := (name_of_methodNamed Bd.named Bd.method).1
  have X0 : Stand p l e ({ frames := 1, cells := 1, slots := 6, locals := 20 } : Room) s m #[(.int (3 : Int32))] below meth c s₁ [] 0 0 := Stand.of_body Bd
  have e0 : s₁.heap = h0 := by rw [← hh, Bd.state]; rfl
  have N0 := Fr.nil n0
  have KP : Keep h0 h0 [] := Keep.refl _ _
  refine own_start (Fin := (own_Fin s (own_QNF_3 Z  h0 n0) ({ frames := 1, cells := 1, slots := 6, locals := 20 } : Room).cells ({ frames := 1, cells := 1, slots := 6, locals := 20 } : Room).slots)) (own_from (mkF m 0 #[iv 3] []) (castTop (own_ef_NF_3 m (3 : Int32))) ?_)
  refine own_to (T' := s₁) (mkF m 1 #[iv 3] [(.int (3 : Int32))]) (fun _ k => XS.iloadN X0.here hx rfl (hb hby own_d_jdk_52_method_2_0) rfl k) ?_
  obtain ⟨_, _, ⟨T91, L91, k91, n91⟩, -, X91, ⟨Lc91, hQ91, l91, y91, z91⟩, st91⟩ := Jvm.LawKit.callS X0 hx (y := (⟨"java/lang/StringUTF16", "newBytesLength", "(I)I"⟩ : MethodName)) hown (mvT hZ (hw _ (List.mem_of_getElem? (i := 75) rfl))) (mvT hZ (hw _ (List.mem_of_getElem? (i := 76) rfl))) (mvT hZ (hw _ (List.mem_of_getElem? (i := 18) rfl))) (mvT hZ (hw _ (List.mem_of_getElem? (i := 77) rfl))) (by decide) (backOf (W := 0) (own_rmNL_3 l Z a0 hw [] h0 n0 (Nat.le_trans Z0 KP.1) OL) hZ (hw _ (List.mem_of_getElem? (i := 77) rfl)) (hw _ (List.mem_of_getElem? (i := 18) rfl)) (by decide) (by decide)) (g := (mkF m 1 #[iv 3] [(.int (3 : Int32))])) rfl (by rw [hml]; rfl) (argsL := [(.int (3 : Int32))]) (rest := []) (lenOf own_pd0 rfl) rfl (by show 2 * 0 + _ ≤ _; exact Nat.le_of_eq rfl) (hb hby own_d_jdk_52_method_2_1) (fun _ _ => ⟨rfl, e0, (by decide : 0 + 0 ≤ _), (by decide : 0 + 0 ≤ _)⟩)
  dsimp only [Pt.U, Pt.locs, Pt.cells, Pt.slots] at X91 l91 y91 z91 st91 hQ91
  subst l91 y91 z91
  obtain ⟨rfl, N91q, e91⟩ := hQ91
  have N91 := Fr.app N0 N91q
  refine own_to (mkF m 4 #[iv 3] [(.int (6 : Int32))]) st91 ?_
  obtain ⟨T92, h92, k92, X92, e92, E92, A92, B92, st92⟩ := newPE X91 hx hZ (hw _ (List.mem_of_getElem? (i := 20) rfl)) e91 (g := (mkF m 4 #[iv 3] [(.int (6 : Int32))])) rfl (hb hby own_d_jdk_52_method_2_4) rfl (by decide) (cap := 6) (by decide) (by decide) (by decide) (by decide) (ad := "[B") (by decide)
  obtain ⟨b92, g92⟩ : ∃ z, z = h0.size := ⟨_, rfl⟩
  rw [← g92] at A92 B92 st92
  have sz_b92 : h0.size ≤ b92 := Nat.le_trans KP.1 (Nat.le_of_eq g92.symm)
  have ge_b92 : n0 ≤ b92 := Nat.le_trans Z0 sz_b92
  have OL := OL.ext E92
  have KP := KP.ext E92
  have V_b92 : Arv Z h92 b92 k92 .byte (6 : Int32) [(.int (0 : Int32)), (.int (0 : Int32)), (.int (0 : Int32)), (.int (0 : Int32)), (.int (0 : Int32)), (.int (0 : Int32))] (.int (0 : Int32)) := (Arv.new A92 (by decide)).pad (pad_rep [] (.int (0 : Int32)) 6)
  refine own_to (mkF m 6 #[iv 3] [(.ref b92)]) st92 ?_
  exact own_retA X92 hx Bd.returns rfl hlk (hb hby own_d_jdk_52_method_2_6) rfl (by decide) (by decide) (by rw [e92]; exact ⟨b92, k92, rfl, N91, KP, ge_b92, sz_b92, V_b92⟩)
def own_QPC_3_0 (Z : State) (u0 u1 u2 u3 u4 u5 cc : Int32) (G1 : Int32) (b : Addr) (kb : ClassId) (h0 : Heap) (n0 : Nat) (v : Option Value) (h : Heap) (L : List Loc) : Prop := v = none ∧ Fr n0 L ∧ Keep h0 h [b] ∧ Arv Z h b kb .byte (6 : Int32) [(.int ((cc >>> ((0 : Int32) &&& 31)).toInt8.toInt32)), (.int ((cc >>> ((8 : Int32) &&& 31)).toInt8.toInt32)), (.int u2), (.int u3), (.int u4), (.int u5)] (.int (0 : Int32))
set_option maxRecDepth 65536 in
set_option maxHeartbeats 40000000 in
theorem own_rmPC_3_0 (l : Launch) (Z : State) (a0 : Array Value) (hw : ∀ d ∈ tables_1, d.before a0 Z = true) (ws : List Jvm.Cond) (u0 u1 u2 u3 u4 u5 cc : Int32) (G1 : Int32) (b : Addr) (kb : ClassId) (h0 : Heap) (n0 : Nat) (Z0 : n0 ≤ h0.size) (OL : Old Z n0 h0) (ge_b : n0 ≤ b) (Vb : Arv Z h0 b kb .byte (6 : Int32) [(.int u0), (.int u1), (.int u2), (.int u3), (.int u4), (.int u5)] (.int (0 : Int32))) (O2 : Sta Z Z.heap "java/lang/String" "COMPACT_STRINGS" "Z" (.int G1)) (P5 : ¬ (G1 = (0 : Int32))) (OAD : Sta Z Z.heap "java/lang/StringUTF16" "$assertionsDisabled" "Z" (.int (1 : Int32))) (OHI : Sta Z Z.heap "java/lang/StringUTF16" "HI_BYTE_SHIFT" "I" (.int (0 : Int32))) (OLO : Sta Z Z.heap "java/lang/StringUTF16" "LO_BYTE_SHIFT" "I" (.int (8 : Int32))) :
    MetFree l (⟨"java/lang/StringUTF16", "putChar", "([BII)V"⟩ : MethodName) (head1 (Jvm.Cond.code (⟨"java/lang/StringUTF16", "putChar", "([BII)V"⟩ : MethodName) jdk_52_method_4_code 3 none :: ws) ({ frames := 0, cells := 0, slots := 0, locals := 0 } : Room)) (fun aa_ U => aa_ = #[(.ref b), (.int (0 : Int32)), (.int cc)] ∧ Z.Warmed39 U.vm ∧ U.heap = h0) (fun _ _ _ _ _ => True) (fun _ U o U' => ∃ v L, o = .returned v ∧ own_QPC_3_0 Z u0 u1 u2 u3 u4 u5 cc G1 b kb h0 n0 v U'.heap L ∧ FrameEnd U o U' L ({ frames := 0, cells := 0, slots := 0, locals := 0 } : Room).cells ({ frames := 0, cells := 0, slots := 0, locals := 0 } : Room).slots) := by
  refine MetFree.of_bodySF (plainFor_of_name own_pn0) hisR ?_
  intro p e s m args below meth c s₁ Bd hml0 hP hK
  obtain ⟨rfl, hZ, hh⟩ := hP
  have hx := Bd.exec
  have hby := Bd.bytes
  have hlk : meth.locks = false := BodyLoose.notSynchronized Bd
  have hml : c.maxLocals = 3 := hml0
  have hown : s.vm.findClass "java/lang/StringUTF16" = some m.cls := findClass_of_methodNamed Bd.named
  have hnm := (name_of_methodNamed Bd.named Bd.method).1
  have X0 : Stand p l e ({ frames := 0, cells := 0, slots := 0, locals := 0 } : Room) s m #[(.ref b), (.int (0 : Int32)), (.int cc)] below meth c s₁ [] 0 0 := Stand.of_body Bd
  have e0 : s₁.heap = h0 := by rw [← hh, Bd.state]; rfl
  have N0 := Fr.nil n0
  have KP : Keep h0 h0 [b] := Keep.refl _ _
  refine own_start (Fin := (own_Fin s (own_QPC_3_0 Z u0 u1 u2 u3 u4 u5 cc G1 b kb h0 n0) ({ frames := 0, cells := 0, slots := 0, locals := 0 } : Room).cells ({ frames := 0, cells := 0, slots := 0, locals := 0 } : Room).slots)) (own_from (mkF m 0 #[rv b, iv 0, iv cc] []) (castTop (own_ef_PC_3_0 m b (0 : Int32) cc)) ?_)
  obtain ⟨T93, X93, e93, st93⟩ := getS2 X0 hx hZ hown (host := "") (Or.inl (hw _ (List.mem_of_getElem? (i := 82) rfl))) Via.refl e0 (OAD.ext OL.2) (g := (mkF m 0 #[rv b, iv 0, iv cc] [])) rfl (hb hby own_d_jdk_52_method_4_0)
  refine own_to (mkF m 3 #[rv b, iv 0, iv cc] [(.int (1 : Int32))]) st93 ?_
  refine own_to (T' := T93) (mkF m 28 #[rv b, iv 0, iv cc] []) (fun _ k => XS.ifYes X93.here hx rfl (pc0 := 3) (pc' := 28) rfl (hb hby own_d_jdk_52_method_4_3) rfl ((if0 _ _).trans (feq (by decide : ¬ ((1 : Int32) = (0 : Int32)))).2) (by decide) (by decide) k) ?_
  refine own_to (T' := T93) (mkF m 29 #[rv b, iv 0, iv cc] [(.int (0 : Int32))]) (fun _ k => XS.iloadN X93.here hx rfl (hb hby own_d_jdk_52_method_4_28) rfl k) ?_
  refine own_to (T' := T93) (mkF m 30 #[rv b, iv 0, iv cc] [(.int (1 : Int32)), (.int (0 : Int32))]) (fun _ k => XS.iconst X93.here hx rfl (hb hby own_d_jdk_52_method_4_29) k) ?_
  refine own_to (T' := T93) (mkF m 31 #[rv b, iv 0, iv cc] [(.int (0 : Int32))]) (fun _ k => XS.ishl X93.here hx rfl (hb hby own_d_jdk_52_method_4_30) rfl k) ?_
  refine own_to (T' := T93) (mkF m 32 #[rv b, iv 0, iv cc] []) (fun _ k => XS.istoreN X93.here hx rfl (hb hby own_d_jdk_52_method_4_31) rfl (l' := #[rv b, iv 0, iv cc]) rfl k) ?_
  refine own_to (T' := T93) (mkF m 33 #[rv b, iv 0, iv cc] [(.ref b)]) (fun _ k => XS.aloadN X93.here hx rfl (hb hby own_d_jdk_52_method_4_32) rfl rfl k) ?_
  refine own_to (T' := T93) (mkF m 34 #[rv b, iv 0, iv cc] [(.int (0 : Int32)), (.ref b)]) (fun _ k => XS.iloadN X93.here hx rfl (hb hby own_d_jdk_52_method_4_33) rfl k) ?_
  refine own_to (T' := T93) (mkF m 37 #[rv b, iv 1, iv cc] [(.int (0 : Int32)), (.ref b)]) (fun _ k => XS.iinc X93.here hx rfl (hb hby own_d_jdk_52_method_4_34) rfl (l' := #[rv b, iv 1, iv cc]) rfl k) ?_
  refine own_to (T' := T93) (mkF m 38 #[rv b, iv 1, iv cc] [(.int cc), (.int (0 : Int32)), (.ref b)]) (fun _ k => XS.iloadN X93.here hx rfl (hb hby own_d_jdk_52_method_4_37) rfl k) ?_
  obtain ⟨T94, X94, e94, st94⟩ := getS2 X93 hx hZ hown (host := "") (Or.inl (hw _ (List.mem_of_getElem? (i := 83) rfl))) Via.refl e93 (OHI.ext OL.2) (g := (mkF m 38 #[rv b, iv 1, iv cc] [(.int cc), (.int (0 : Int32)), (.ref b)])) rfl (hb hby own_d_jdk_52_method_4_38)
  refine own_to (mkF m 41 #[rv b, iv 1, iv cc] [(.int (0 : Int32)), (.int cc), (.int (0 : Int32)), (.ref b)]) st94 ?_
  refine own_to (T' := T94) (mkF m 42 #[rv b, iv 1, iv cc] [(.int (cc >>> ((0 : Int32) &&& 31))), (.int (0 : Int32)), (.ref b)]) (fun _ k => XS.ishr X94.here hx rfl (hb hby own_d_jdk_52_method_4_41) rfl k) ?_
  refine own_to (T' := T94) (mkF m 43 #[rv b, iv 1, iv cc] [(.int ((cc >>> ((0 : Int32) &&& 31)).toInt8.toInt32)), (.int (0 : Int32)), (.ref b)]) (fun _ k => XS.i2b X94.here hx rfl (hb hby own_d_jdk_52_method_4_42) rfl k) ?_
  obtain ⟨cl95, Ar95, q95, S95, M95, H95, G95⟩ := id Vb
  obtain ⟨T95, h95, X95, e95, W95, st95⟩ := stB X94 hx hZ e94 Ar95 (j := (0 : Int32)) (inb_of S95 ⟨by decide, by decide⟩) (g := (mkF m 43 #[rv b, iv 1, iv cc] [(.int ((cc >>> ((0 : Int32) &&& 31)).toInt8.toInt32)), (.int (0 : Int32)), (.ref b)])) rfl rfl (hb hby own_d_jdk_52_method_4_43)
  refine own_to (mkF m 44 #[rv b, iv 1, iv cc] []) st95 ?_
  have N95 := Fr.snoc X95 N0 ge_b
  have tmp95 : Arv Z h95 b kb .byte (6 : Int32) [(.int (((cc >>> ((0 : Int32) &&& 31)).toInt8.toInt32).toInt8.toInt32)), (.int u1), (.int u2), (.int u3), (.int u4), (.int u5)] (.int (0 : Int32)) := Arv.set Ar95 q95 S95 M95 H95 G95 (fits_nar_byte _) W95 0 rfl (Nat.le_of_ble_eq_true rfl)
  rw [own_b8] at tmp95
  have OL := OL.wr W95 ge_b
  have KP := KP.wr W95 (Or.inl (List.mem_of_getElem? (i := 0) rfl))
  have Vb := tmp95
  refine own_to (T' := T95) (mkF m 45 #[rv b, iv 1, iv cc] [(.ref b)]) (fun _ k => XS.aloadN X95.here hx rfl (hb hby own_d_jdk_52_method_4_44) rfl rfl k) ?_
  refine own_to (T' := T95) (mkF m 46 #[rv b, iv 1, iv cc] [(.int (1 : Int32)), (.ref b)]) (fun _ k => XS.iloadN X95.here hx rfl (hb hby own_d_jdk_52_method_4_45) rfl k) ?_
  refine own_to (T' := T95) (mkF m 47 #[rv b, iv 1, iv cc] [(.int cc), (.int (1 : Int32)), (.ref b)]) (fun _ k => XS.iloadN X95.here hx rfl (hb hby own_d_jdk_52_method_4_46) rfl k) ?_
  obtain ⟨T96, X96, e96, st96⟩ := getS2 X95 hx hZ hown (host := "") (Or.inl (hw _ (List.mem_of_getElem? (i := 84) rfl))) Via.refl e95 (OLO.ext OL.2) (g := (mkF m 47 #[rv b, iv 1, iv cc] [(.int cc), (.int (1 : Int32)), (.ref b)])) rfl (hb hby own_d_jdk_52_method_4_47)
  refine own_to (mkF m 50 #[rv b, iv 1, iv cc] [(.int (8 : Int32)), (.int cc), (.int (1 : Int32)), (.ref b)]) st96 ?_
  refine own_to (T' := T96) (mkF m 51 #[rv b, iv 1, iv cc] [(.int (cc >>> ((8 : Int32) &&& 31))), (.int (1 : Int32)), (.ref b)]) (fun _ k => XS.ishr X96.here hx rfl (hb hby own_d_jdk_52_method_4_50) rfl k) ?_
  refine own_to (T' := T96) (mkF m 52 #[rv b, iv 1, iv cc] [(.int ((cc >>> ((8 : Int32) &&& 31)).toInt8.toInt32)), (.int (1 : Int32)), (.ref b)]) (fun _ k => XS.i2b X96.here hx rfl (hb hby own_d_jdk_52_method_4_51) rfl k) ?_
  obtain ⟨cl97, Ar97, q97, S97, M97, H97, G97⟩ := id Vb
  obtain ⟨T97, h97, X97, e97, W97, st97⟩ := stB X96 hx hZ e96 Ar97 (j := (1 : Int32)) (inb_of S97 ⟨by decide, by decide⟩) (g := (mkF m 52 #[rv b, iv 1, iv cc] [(.int ((cc >>> ((8 : Int32) &&& 31)).toInt8.toInt32)), (.int (1 : Int32)), (.ref b)])) rfl rfl (hb hby own_d_jdk_52_method_4_52)
  refine own_to (mkF m 53 #[rv b, iv 1, iv cc] []) st97 ?_
  have N97 := Fr.snoc X97 N95 ge_b
  have tmp97 : Arv Z h97 b kb .byte (6 : Int32) [(.int ((cc >>> ((0 : Int32) &&& 31)).toInt8.toInt32)), (.int (((cc >>> ((8 : Int32) &&& 31)).toInt8.toInt32).toInt8.toInt32)), (.int u2), (.int u3), (.int u4), (.int u5)] (.int (0 : Int32)) := Arv.set Ar97 q97 S97 M97 H97 G97 (fits_nar_byte _) W97 1 rfl (Nat.le_of_ble_eq_true rfl)
  rw [own_b8] at tmp97
  have OL := OL.wr W97 ge_b
  have KP := KP.wr W97 (Or.inl (List.mem_of_getElem? (i := 0) rfl))
  have Vb := tmp97
  exact own_ret0 X97 hx Bd.returns hlk (hb hby own_d_jdk_52_method_4_53) (by decide) (by decide) (by rw [e97]; exact ⟨rfl, N97, KP, Vb⟩)
def own_QPC_3_1 (Z : State) (u0 u1 u2 u3 u4 u5 cc : Int32) (G1 : Int32) (b : Addr) (kb : ClassId) (h0 : Heap) (n0 : Nat) (v : Option Value) (h : Heap) (L : List Loc) : Prop := v = none ∧ Fr n0 L ∧ Keep h0 h [b] ∧ Arv Z h b kb .byte (6 : Int32) [(.int u0), (.int u1), (.int ((cc >>> ((0 : Int32) &&& 31)).toInt8.toInt32)), (.int ((cc >>> ((8 : Int32) &&& 31)).toInt8.toInt32)), (.int u4), (.int u5)] (.int (0 : Int32))
set_option maxRecDepth 65536 in
set_option maxHeartbeats 40000000 in
theorem own_rmPC_3_1 (l : Launch) (Z : State) (a0 : Array Value) (hw : ∀ d ∈ tables_1, d.before a0 Z = true) (ws : List Jvm.Cond) (u0 u1 u2 u3 u4 u5 cc : Int32) (G1 : Int32) (b : Addr) (kb : ClassId) (h0 : Heap) (n0 : Nat) (Z0 : n0 ≤ h0.size) (OL : Old Z n0 h0) (ge_b : n0 ≤ b) (Vb : Arv Z h0 b kb .byte (6 : Int32) [(.int u0), (.int u1), (.int u2), (.int u3), (.int u4), (.int u5)] (.int (0 : Int32))) (O2 : Sta Z Z.heap "java/lang/String" "COMPACT_STRINGS" "Z" (.int G1)) (P5 : ¬ (G1 = (0 : Int32))) (OAD : Sta Z Z.heap "java/lang/StringUTF16" "$assertionsDisabled" "Z" (.int (1 : Int32))) (OHI : Sta Z Z.heap "java/lang/StringUTF16" "HI_BYTE_SHIFT" "I" (.int (0 : Int32))) (OLO : Sta Z Z.heap "java/lang/StringUTF16" "LO_BYTE_SHIFT" "I" (.int (8 : Int32))) :
    MetFree l (⟨"java/lang/StringUTF16", "putChar", "([BII)V"⟩ : MethodName) (head1 (Jvm.Cond.code (⟨"java/lang/StringUTF16", "putChar", "([BII)V"⟩ : MethodName) jdk_52_method_4_code 3 none :: ws) ({ frames := 0, cells := 0, slots := 0, locals := 0 } : Room)) (fun aa_ U => aa_ = #[(.ref b), (.int (1 : Int32)), (.int cc)] ∧ Z.Warmed39 U.vm ∧ U.heap = h0) (fun _ _ _ _ _ => True) (fun _ U o U' => ∃ v L, o = .returned v ∧ own_QPC_3_1 Z u0 u1 u2 u3 u4 u5 cc G1 b kb h0 n0 v U'.heap L ∧ FrameEnd U o U' L ({ frames := 0, cells := 0, slots := 0, locals := 0 } : Room).cells ({ frames := 0, cells := 0, slots := 0, locals := 0 } : Room).slots) := by
  refine MetFree.of_bodySF (plainFor_of_name own_pn0) hisR ?_
  intro p e s m args below meth c s₁ Bd hml0 hP hK
  obtain ⟨rfl, hZ, hh⟩ := hP
  have hx := Bd.exec
  have hby := Bd.bytes
  have hlk : meth.locks = false := BodyLoose.notSynchronized Bd
  have hml : c.maxLocals = 3 := hml0
  have hown : s.vm.findClass "java/lang/StringUTF16" = some m.cls := findClass_of_methodNamed Bd.named
  have hnm := (name_of_methodNamed Bd.named Bd.method).1
  have X0 : Stand p l e ({ frames := 0, cells := 0, slots := 0, locals := 0 } : Room) s m #[(.ref b), (.int (1 : Int32)), (.int cc)] below meth c s₁ [] 0 0 := Stand.of_body Bd
  have e0 : s₁.heap = h0 := by rw [← hh, Bd.state]; rfl
  have N0 := Fr.nil n0
  have KP : Keep h0 h0 [b] := Keep.refl _ _
  refine own_start (Fin := (own_Fin s (own_QPC_3_1 Z u0 u1 u2 u3 u4 u5 cc G1 b kb h0 n0) ({ frames := 0, cells := 0, slots := 0, locals := 0 } : Room).cells ({ frames := 0, cells := 0, slots := 0, locals := 0 } : Room).slots)) (own_from (mkF m 0 #[rv b, iv 1, iv cc] []) (castTop (own_ef_PC_3_1 m b (1 : Int32) cc)) ?_)
  obtain ⟨T98, X98, e98, st98⟩ := getS2 X0 hx hZ hown (host := "") (Or.inl (hw _ (List.mem_of_getElem? (i := 82) rfl))) Via.refl e0 (OAD.ext OL.2) (g := (mkF m 0 #[rv b, iv 1, iv cc] [])) rfl (hb hby own_d_jdk_52_method_4_0)
  refine own_to (mkF m 3 #[rv b, iv 1, iv cc] [(.int (1 : Int32))]) st98 ?_
  refine own_to (T' := T98) (mkF m 28 #[rv b, iv 1, iv cc] []) (fun _ k => XS.ifYes X98.here hx rfl (pc0 := 3) (pc' := 28) rfl (hb hby own_d_jdk_52_method_4_3) rfl ((if0 _ _).trans (feq (by decide : ¬ ((1 : Int32) = (0 : Int32)))).2) (by decide) (by decide) k) ?_
  refine own_to (T' := T98) (mkF m 29 #[rv b, iv 1, iv cc] [(.int (1 : Int32))]) (fun _ k => XS.iloadN X98.here hx rfl (hb hby own_d_jdk_52_method_4_28) rfl k) ?_
  refine own_to (T' := T98) (mkF m 30 #[rv b, iv 1, iv cc] [(.int (1 : Int32)), (.int (1 : Int32))]) (fun _ k => XS.iconst X98.here hx rfl (hb hby own_d_jdk_52_method_4_29) k) ?_
  refine own_to (T' := T98) (mkF m 31 #[rv b, iv 1, iv cc] [(.int (2 : Int32))]) (fun _ k => XS.ishl X98.here hx rfl (hb hby own_d_jdk_52_method_4_30) rfl k) ?_
  refine own_to (T' := T98) (mkF m 32 #[rv b, iv 2, iv cc] []) (fun _ k => XS.istoreN X98.here hx rfl (hb hby own_d_jdk_52_method_4_31) rfl (l' := #[rv b, iv 2, iv cc]) rfl k) ?_
  refine own_to (T' := T98) (mkF m 33 #[rv b, iv 2, iv cc] [(.ref b)]) (fun _ k => XS.aloadN X98.here hx rfl (hb hby own_d_jdk_52_method_4_32) rfl rfl k) ?_
  refine own_to (T' := T98) (mkF m 34 #[rv b, iv 2, iv cc] [(.int (2 : Int32)), (.ref b)]) (fun _ k => XS.iloadN X98.here hx rfl (hb hby own_d_jdk_52_method_4_33) rfl k) ?_
  refine own_to (T' := T98) (mkF m 37 #[rv b, iv 3, iv cc] [(.int (2 : Int32)), (.ref b)]) (fun _ k => XS.iinc X98.here hx rfl (hb hby own_d_jdk_52_method_4_34) rfl (l' := #[rv b, iv 3, iv cc]) rfl k) ?_
  refine own_to (T' := T98) (mkF m 38 #[rv b, iv 3, iv cc] [(.int cc), (.int (2 : Int32)), (.ref b)]) (fun _ k => XS.iloadN X98.here hx rfl (hb hby own_d_jdk_52_method_4_37) rfl k) ?_
  obtain ⟨T99, X99, e99, st99⟩ := getS2 X98 hx hZ hown (host := "") (Or.inl (hw _ (List.mem_of_getElem? (i := 83) rfl))) Via.refl e98 (OHI.ext OL.2) (g := (mkF m 38 #[rv b, iv 3, iv cc] [(.int cc), (.int (2 : Int32)), (.ref b)])) rfl (hb hby own_d_jdk_52_method_4_38)
  refine own_to (mkF m 41 #[rv b, iv 3, iv cc] [(.int (0 : Int32)), (.int cc), (.int (2 : Int32)), (.ref b)]) st99 ?_
  refine own_to (T' := T99) (mkF m 42 #[rv b, iv 3, iv cc] [(.int (cc >>> ((0 : Int32) &&& 31))), (.int (2 : Int32)), (.ref b)]) (fun _ k => XS.ishr X99.here hx rfl (hb hby own_d_jdk_52_method_4_41) rfl k) ?_
  refine own_to (T' := T99) (mkF m 43 #[rv b, iv 3, iv cc] [(.int ((cc >>> ((0 : Int32) &&& 31)).toInt8.toInt32)), (.int (2 : Int32)), (.ref b)]) (fun _ k => XS.i2b X99.here hx rfl (hb hby own_d_jdk_52_method_4_42) rfl k) ?_
  obtain ⟨cl100, Ar100, q100, S100, M100, H100, G100⟩ := id Vb
  obtain ⟨T100, h100, X100, e100, W100, st100⟩ := stB X99 hx hZ e99 Ar100 (j := (2 : Int32)) (inb_of S100 ⟨by decide, by decide⟩) (g := (mkF m 43 #[rv b, iv 3, iv cc] [(.int ((cc >>> ((0 : Int32) &&& 31)).toInt8.toInt32)), (.int (2 : Int32)), (.ref b)])) rfl rfl (hb hby own_d_jdk_52_method_4_43)
  refine own_to (mkF m 44 #[rv b, iv 3, iv cc] []) st100 ?_
  have N100 := Fr.snoc X100 N0 ge_b
  have tmp100 : Arv Z h100 b kb .byte (6 : Int32) [(.int u0), (.int u1), (.int (((cc >>> ((0 : Int32) &&& 31)).toInt8.toInt32).toInt8.toInt32)), (.int u3), (.int u4), (.int u5)] (.int (0 : Int32)) := Arv.set Ar100 q100 S100 M100 H100 G100 (fits_nar_byte _) W100 2 rfl (Nat.le_of_ble_eq_true rfl)
  rw [own_b8] at tmp100
  have OL := OL.wr W100 ge_b
  have KP := KP.wr W100 (Or.inl (List.mem_of_getElem? (i := 0) rfl))
  have Vb := tmp100
  refine own_to (T' := T100) (mkF m 45 #[rv b, iv 3, iv cc] [(.ref b)]) (fun _ k => XS.aloadN X100.here hx rfl (hb hby own_d_jdk_52_method_4_44) rfl rfl k) ?_
  refine own_to (T' := T100) (mkF m 46 #[rv b, iv 3, iv cc] [(.int (3 : Int32)), (.ref b)]) (fun _ k => XS.iloadN X100.here hx rfl (hb hby own_d_jdk_52_method_4_45) rfl k) ?_
  refine own_to (T' := T100) (mkF m 47 #[rv b, iv 3, iv cc] [(.int cc), (.int (3 : Int32)), (.ref b)]) (fun _ k => XS.iloadN X100.here hx rfl (hb hby own_d_jdk_52_method_4_46) rfl k) ?_
  obtain ⟨T101, X101, e101, st101⟩ := getS2 X100 hx hZ hown (host := "") (Or.inl (hw _ (List.mem_of_getElem? (i := 84) rfl))) Via.refl e100 (OLO.ext OL.2) (g := (mkF m 47 #[rv b, iv 3, iv cc] [(.int cc), (.int (3 : Int32)), (.ref b)])) rfl (hb hby own_d_jdk_52_method_4_47)
  refine own_to (mkF m 50 #[rv b, iv 3, iv cc] [(.int (8 : Int32)), (.int cc), (.int (3 : Int32)), (.ref b)]) st101 ?_
  refine own_to (T' := T101) (mkF m 51 #[rv b, iv 3, iv cc] [(.int (cc >>> ((8 : Int32) &&& 31))), (.int (3 : Int32)), (.ref b)]) (fun _ k => XS.ishr X101.here hx rfl (hb hby own_d_jdk_52_method_4_50) rfl k) ?_
  refine own_to (T' := T101) (mkF m 52 #[rv b, iv 3, iv cc] [(.int ((cc >>> ((8 : Int32) &&& 31)).toInt8.toInt32)), (.int (3 : Int32)), (.ref b)]) (fun _ k => XS.i2b X101.here hx rfl (hb hby own_d_jdk_52_method_4_51) rfl k) ?_
  obtain ⟨cl102, Ar102, q102, S102, M102, H102, G102⟩ := id Vb
  obtain ⟨T102, h102, X102, e102, W102, st102⟩ := stB X101 hx hZ e101 Ar102 (j := (3 : Int32)) (inb_of S102 ⟨by decide, by decide⟩) (g := (mkF m 52 #[rv b, iv 3, iv cc] [(.int ((cc >>> ((8 : Int32) &&& 31)).toInt8.toInt32)), (.int (3 : Int32)), (.ref b)])) rfl rfl (hb hby own_d_jdk_52_method_4_52)
  refine own_to (mkF m 53 #[rv b, iv 3, iv cc] []) st102 ?_
  have N102 := Fr.snoc X102 N100 ge_b
  have tmp102 : Arv Z h102 b kb .byte (6 : Int32) [(.int u0), (.int u1), (.int ((cc >>> ((0 : Int32) &&& 31)).toInt8.toInt32)), (.int (((cc >>> ((8 : Int32) &&& 31)).toInt8.toInt32).toInt8.toInt32)), (.int u4), (.int u5)] (.int (0 : Int32)) := Arv.set Ar102 q102 S102 M102 H102 G102 (fits_nar_byte _) W102 3 rfl (Nat.le_of_ble_eq_true rfl)
  rw [own_b8] at tmp102
  have OL := OL.wr W102 ge_b
  have KP := KP.wr W102 (Or.inl (List.mem_of_getElem? (i := 0) rfl))
  have Vb := tmp102
  exact own_ret0 X102 hx Bd.returns hlk (hb hby own_d_jdk_52_method_4_53) (by decide) (by decide) (by rw [e102]; exact ⟨rfl, N102, KP, Vb⟩)
def own_QPC_3_2 (Z : State) (u0 u1 u2 u3 u4 u5 cc : Int32) (G1 : Int32) (b : Addr) (kb : ClassId) (h0 : Heap) (n0 : Nat) (v : Option Value) (h : Heap) (L : List Loc) : Prop := v = none ∧ Fr n0 L ∧ Keep h0 h [b] ∧ Arv Z h b kb .byte (6 : Int32) [(.int u0), (.int u1), (.int u2), (.int u3), (.int ((cc >>> ((0 : Int32) &&& 31)).toInt8.toInt32)), (.int ((cc >>> ((8 : Int32) &&& 31)).toInt8.toInt32))] (.int (0 : Int32))
set_option maxRecDepth 65536 in
set_option maxHeartbeats 40000000 in
theorem own_rmPC_3_2 (l : Launch) (Z : State) (a0 : Array Value) (hw : ∀ d ∈ tables_1, d.before a0 Z = true) (ws : List Jvm.Cond) (u0 u1 u2 u3 u4 u5 cc : Int32) (G1 : Int32) (b : Addr) (kb : ClassId) (h0 : Heap) (n0 : Nat) (Z0 : n0 ≤ h0.size) (OL : Old Z n0 h0) (ge_b : n0 ≤ b) (Vb : Arv Z h0 b kb .byte (6 : Int32) [(.int u0), (.int u1), (.int u2), (.int u3), (.int u4), (.int u5)] (.int (0 : Int32))) (O2 : Sta Z Z.heap "java/lang/String" "COMPACT_STRINGS" "Z" (.int G1)) (P5 : ¬ (G1 = (0 : Int32))) (OAD : Sta Z Z.heap "java/lang/StringUTF16" "$assertionsDisabled" "Z" (.int (1 : Int32))) (OHI : Sta Z Z.heap "java/lang/StringUTF16" "HI_BYTE_SHIFT" "I" (.int (0 : Int32))) (OLO : Sta Z Z.heap "java/lang/StringUTF16" "LO_BYTE_SHIFT" "I" (.int (8 : Int32))) :
    MetFree l (⟨"java/lang/StringUTF16", "putChar", "([BII)V"⟩ : MethodName) (head1 (Jvm.Cond.code (⟨"java/lang/StringUTF16", "putChar", "([BII)V"⟩ : MethodName) jdk_52_method_4_code 3 none :: ws) ({ frames := 0, cells := 0, slots := 0, locals := 0 } : Room)) (fun aa_ U => aa_ = #[(.ref b), (.int (2 : Int32)), (.int cc)] ∧ Z.Warmed39 U.vm ∧ U.heap = h0) (fun _ _ _ _ _ => True) (fun _ U o U' => ∃ v L, o = .returned v ∧ own_QPC_3_2 Z u0 u1 u2 u3 u4 u5 cc G1 b kb h0 n0 v U'.heap L ∧ FrameEnd U o U' L ({ frames := 0, cells := 0, slots := 0, locals := 0 } : Room).cells ({ frames := 0, cells := 0, slots := 0, locals := 0 } : Room).slots) := by
  refine MetFree.of_bodySF (plainFor_of_name own_pn0) hisR ?_
  intro p e s m args below meth c s₁ Bd hml0 hP hK
  obtain ⟨rfl, hZ, hh⟩ := hP
  have hx := Bd.exec
  have hby := Bd.bytes
  have hlk : meth.locks = false := BodyLoose.notSynchronized Bd
  have hml : c.maxLocals = 3 := hml0
  have hown : s.vm.findClass "java/lang/StringUTF16" = some m.cls := findClass_of_methodNamed Bd.named
  have hnm := (name_of_methodNamed Bd.named Bd.method).1
  have X0 : Stand p l e ({ frames := 0, cells := 0, slots := 0, locals := 0 } : Room) s m #[(.ref b), (.int (2 : Int32)), (.int cc)] below meth c s₁ [] 0 0 := Stand.of_body Bd
  have e0 : s₁.heap = h0 := by rw [← hh, Bd.state]; rfl
  have N0 := Fr.nil n0
  have KP : Keep h0 h0 [b] := Keep.refl _ _
  refine own_start (Fin := (own_Fin s (own_QPC_3_2 Z u0 u1 u2 u3 u4 u5 cc G1 b kb h0 n0) ({ frames := 0, cells := 0, slots := 0, locals := 0 } : Room).cells ({ frames := 0, cells := 0, slots := 0, locals := 0 } : Room).slots)) (own_from (mkF m 0 #[rv b, iv 2, iv cc] []) (castTop (own_ef_PC_3_2 m b (2 : Int32) cc)) ?_)
  obtain ⟨T103, X103, e103, st103⟩ := getS2 X0 hx hZ hown (host := "") (Or.inl (hw _ (List.mem_of_getElem? (i := 82) rfl))) Via.refl e0 (OAD.ext OL.2) (g := (mkF m 0 #[rv b, iv 2, iv cc] [])) rfl (hb hby own_d_jdk_52_method_4_0)
  refine own_to (mkF m 3 #[rv b, iv 2, iv cc] [(.int (1 : Int32))]) st103 ?_
  refine own_to (T' := T103) (mkF m 28 #[rv b, iv 2, iv cc] []) (fun _ k => XS.ifYes X103.here hx rfl (pc0 := 3) (pc' := 28) rfl (hb hby own_d_jdk_52_method_4_3) rfl ((if0 _ _).trans (feq (by decide : ¬ ((1 : Int32) = (0 : Int32)))).2) (by decide) (by decide) k) ?_
  refine own_to (T' := T103) (mkF m 29 #[rv b, iv 2, iv cc] [(.int (2 : Int32))]) (fun _ k => XS.iloadN X103.here hx rfl (hb hby own_d_jdk_52_method_4_28) rfl k) ?_
  refine own_to (T' := T103) (mkF m 30 #[rv b, iv 2, iv cc] [(.int (1 : Int32)), (.int (2 : Int32))]) (fun _ k => XS.iconst X103.here hx rfl (hb hby own_d_jdk_52_method_4_29) k) ?_
  refine own_to (T' := T103) (mkF m 31 #[rv b, iv 2, iv cc] [(.int (4 : Int32))]) (fun _ k => XS.ishl X103.here hx rfl (hb hby own_d_jdk_52_method_4_30) rfl k) ?_
  refine own_to (T' := T103) (mkF m 32 #[rv b, iv 4, iv cc] []) (fun _ k => XS.istoreN X103.here hx rfl (hb hby own_d_jdk_52_method_4_31) rfl (l' := #[rv b, iv 4, iv cc]) rfl k) ?_
  refine own_to (T' := T103) (mkF m 33 #[rv b, iv 4, iv cc] [(.ref b)]) (fun _ k => XS.aloadN X103.here hx rfl (hb hby own_d_jdk_52_method_4_32) rfl rfl k) ?_
  refine own_to (T' := T103) (mkF m 34 #[rv b, iv 4, iv cc] [(.int (4 : Int32)), (.ref b)]) (fun _ k => XS.iloadN X103.here hx rfl (hb hby own_d_jdk_52_method_4_33) rfl k) ?_
  refine own_to (T' := T103) (mkF m 37 #[rv b, iv 5, iv cc] [(.int (4 : Int32)), (.ref b)]) (fun _ k => XS.iinc X103.here hx rfl (hb hby own_d_jdk_52_method_4_34) rfl (l' := #[rv b, iv 5, iv cc]) rfl k) ?_
  refine own_to (T' := T103) (mkF m 38 #[rv b, iv 5, iv cc] [(.int cc), (.int (4 : Int32)), (.ref b)]) (fun _ k => XS.iloadN X103.here hx rfl (hb hby own_d_jdk_52_method_4_37) rfl k) ?_
  obtain ⟨T104, X104, e104, st104⟩ := getS2 X103 hx hZ hown (host := "") (Or.inl (hw _ (List.mem_of_getElem? (i := 83) rfl))) Via.refl e103 (OHI.ext OL.2) (g := (mkF m 38 #[rv b, iv 5, iv cc] [(.int cc), (.int (4 : Int32)), (.ref b)])) rfl (hb hby own_d_jdk_52_method_4_38)
  refine own_to (mkF m 41 #[rv b, iv 5, iv cc] [(.int (0 : Int32)), (.int cc), (.int (4 : Int32)), (.ref b)]) st104 ?_
  refine own_to (T' := T104) (mkF m 42 #[rv b, iv 5, iv cc] [(.int (cc >>> ((0 : Int32) &&& 31))), (.int (4 : Int32)), (.ref b)]) (fun _ k => XS.ishr X104.here hx rfl (hb hby own_d_jdk_52_method_4_41) rfl k) ?_
  refine own_to (T' := T104) (mkF m 43 #[rv b, iv 5, iv cc] [(.int ((cc >>> ((0 : Int32) &&& 31)).toInt8.toInt32)), (.int (4 : Int32)), (.ref b)]) (fun _ k => XS.i2b X104.here hx rfl (hb hby own_d_jdk_52_method_4_42) rfl k) ?_
  obtain ⟨cl105, Ar105, q105, S105, M105, H105, G105⟩ := id Vb
  obtain ⟨T105, h105, X105, e105, W105, st105⟩ := stB X104 hx hZ e104 Ar105 (j := (4 : Int32)) (inb_of S105 ⟨by decide, by decide⟩) (g := (mkF m 43 #[rv b, iv 5, iv cc] [(.int ((cc >>> ((0 : Int32) &&& 31)).toInt8.toInt32)), (.int (4 : Int32)), (.ref b)])) rfl rfl (hb hby own_d_jdk_52_method_4_43)
  refine own_to (mkF m 44 #[rv b, iv 5, iv cc] []) st105 ?_
  have N105 := Fr.snoc X105 N0 ge_b
  have tmp105 : Arv Z h105 b kb .byte (6 : Int32) [(.int u0), (.int u1), (.int u2), (.int u3), (.int (((cc >>> ((0 : Int32) &&& 31)).toInt8.toInt32).toInt8.toInt32)), (.int u5)] (.int (0 : Int32)) := Arv.set Ar105 q105 S105 M105 H105 G105 (fits_nar_byte _) W105 4 rfl (Nat.le_of_ble_eq_true rfl)
  rw [own_b8] at tmp105
  have OL := OL.wr W105 ge_b
  have KP := KP.wr W105 (Or.inl (List.mem_of_getElem? (i := 0) rfl))
  have Vb := tmp105
  refine own_to (T' := T105) (mkF m 45 #[rv b, iv 5, iv cc] [(.ref b)]) (fun _ k => XS.aloadN X105.here hx rfl (hb hby own_d_jdk_52_method_4_44) rfl rfl k) ?_
  refine own_to (T' := T105) (mkF m 46 #[rv b, iv 5, iv cc] [(.int (5 : Int32)), (.ref b)]) (fun _ k => XS.iloadN X105.here hx rfl (hb hby own_d_jdk_52_method_4_45) rfl k) ?_
  refine own_to (T' := T105) (mkF m 47 #[rv b, iv 5, iv cc] [(.int cc), (.int (5 : Int32)), (.ref b)]) (fun _ k => XS.iloadN X105.here hx rfl (hb hby own_d_jdk_52_method_4_46) rfl k) ?_
  obtain ⟨T106, X106, e106, st106⟩ := getS2 X105 hx hZ hown (host := "") (Or.inl (hw _ (List.mem_of_getElem? (i := 84) rfl))) Via.refl e105 (OLO.ext OL.2) (g := (mkF m 47 #[rv b, iv 5, iv cc] [(.int cc), (.int (5 : Int32)), (.ref b)])) rfl (hb hby own_d_jdk_52_method_4_47)
  refine own_to (mkF m 50 #[rv b, iv 5, iv cc] [(.int (8 : Int32)), (.int cc), (.int (5 : Int32)), (.ref b)]) st106 ?_
  refine own_to (T' := T106) (mkF m 51 #[rv b, iv 5, iv cc] [(.int (cc >>> ((8 : Int32) &&& 31))), (.int (5 : Int32)), (.ref b)]) (fun _ k => XS.ishr X106.here hx rfl (hb hby own_d_jdk_52_method_4_50) rfl k) ?_
  refine own_to (T' := T106) (mkF m 52 #[rv b, iv 5, iv cc] [(.int ((cc >>> ((8 : Int32) &&& 31)).toInt8.toInt32)), (.int (5 : Int32)), (.ref b)]) (fun _ k => XS.i2b X106.here hx rfl (hb hby own_d_jdk_52_method_4_51) rfl k) ?_
  obtain ⟨cl107, Ar107, q107, S107, M107, H107, G107⟩ := id Vb
  obtain ⟨T107, h107, X107, e107, W107, st107⟩ := stB X106 hx hZ e106 Ar107 (j := (5 : Int32)) (inb_of S107 ⟨by decide, by decide⟩) (g := (mkF m 52 #[rv b, iv 5, iv cc] [(.int ((cc >>> ((8 : Int32) &&& 31)).toInt8.toInt32)), (.int (5 : Int32)), (.ref b)])) rfl rfl (hb hby own_d_jdk_52_method_4_52)
  refine own_to (mkF m 53 #[rv b, iv 5, iv cc] []) st107 ?_
  have N107 := Fr.snoc X107 N105 ge_b
  have tmp107 : Arv Z h107 b kb .byte (6 : Int32) [(.int u0), (.int u1), (.int u2), (.int u3), (.int ((cc >>> ((0 : Int32) &&& 31)).toInt8.toInt32)), (.int (((cc >>> ((8 : Int32) &&& 31)).toInt8.toInt32).toInt8.toInt32))] (.int (0 : Int32)) := Arv.set Ar107 q107 S107 M107 H107 G107 (fits_nar_byte _) W107 5 rfl (Nat.le_of_ble_eq_true rfl)
  rw [own_b8] at tmp107
  have OL := OL.wr W107 ge_b
  have KP := KP.wr W107 (Or.inl (List.mem_of_getElem? (i := 0) rfl))
  have Vb := tmp107
  exact own_ret0 X107 hx Bd.returns hlk (hb hby own_d_jdk_52_method_4_53) (by decide) (by decide) (by rw [e107]; exact ⟨rfl, N107, KP, Vb⟩)
def own_QTS_3 (Z : State) (x0 x1 x2 : Int32) (G1 : Int32) (a : Addr) (ka : ClassId) (h0 : Heap) (n0 : Nat) (v : Option Value) (h : Heap) (L : List Loc) : Prop := ∃ (b : Addr) (kb : ClassId), v = some (.ref b) ∧ Fr n0 L ∧ Keep h0 h [] ∧ n0 ≤ b ∧ h0.size ≤ b ∧ Arv Z h b kb .byte (6 : Int32) [(.int ((x0 >>> ((0 : Int32) &&& 31)).toInt8.toInt32)), (.int ((x0 >>> ((8 : Int32) &&& 31)).toInt8.toInt32)), (.int ((x1 >>> ((0 : Int32) &&& 31)).toInt8.toInt32)), (.int ((x1 >>> ((8 : Int32) &&& 31)).toInt8.toInt32)), (.int ((x2 >>> ((0 : Int32) &&& 31)).toInt8.toInt32)), (.int ((x2 >>> ((8 : Int32) &&& 31)).toInt8.toInt32))] (.int (0 : Int32))
set_option maxRecDepth 65536 in
set_option maxHeartbeats 40000000 in
theorem own_rmTS_3 (l : Launch) (Z : State) (a0 : Array Value) (hw : ∀ d ∈ tables_1, d.before a0 Z = true) (ws : List Jvm.Cond) (x0 x1 x2 : Int32) (G1 : Int32) (a : Addr) (ka : ClassId) (h0 : Heap) (n0 : Nat) (Z0 : n0 ≤ h0.size) (OL : Old Z n0 h0) (Va : Arv Z h0 a ka .char (3 : Int32) [(.int x0), (.int x1), (.int x2)] (.int (0 : Int32))) (O2 : Sta Z Z.heap "java/lang/String" "COMPACT_STRINGS" "Z" (.int G1)) (P5 : ¬ (G1 = (0 : Int32))) (OAD : Sta Z Z.heap "java/lang/StringUTF16" "$assertionsDisabled" "Z" (.int (1 : Int32))) (OHI : Sta Z Z.heap "java/lang/StringUTF16" "HI_BYTE_SHIFT" "I" (.int (0 : Int32))) (OLO : Sta Z Z.heap "java/lang/StringUTF16" "LO_BYTE_SHIFT" "I" (.int (8 : Int32))) :
    MetFree l (⟨"java/lang/StringUTF16", "toBytes", "([CII)[B"⟩ : MethodName) (head1 (Jvm.Cond.code (⟨"java/lang/StringUTF16", "toBytes", "([CII)[B"⟩ : MethodName) jdk_52_method_14_code 5 (some (.array .byte)) :: ws) ({ frames := 2, cells := 1, slots := 6, locals := 40 } : Room)) (fun aa_ U => aa_ = #[(.ref a), (.int (0 : Int32)), (.int (3 : Int32))] ∧ Z.Warmed39 U.vm ∧ U.heap = h0) (fun _ _ _ _ _ => True) (fun _ U o U' => ∃ v L, o = .returned v ∧ own_QTS_3 Z x0 x1 x2 G1 a ka h0 n0 v U'.heap L ∧ FrameEnd U o U' L ({ frames := 2, cells := 1, slots := 6, locals := 40 } : Room).cells ({ frames := 2, cells := 1, slots := 6, locals := 40 } : Room).slots) := by
  refine MetFree.of_bodySF (plainFor_of_name own_pn0) hisR ?_
  intro p e s m args below meth c s₁ Bd hml0 hP hK
  obtain ⟨rfl, hZ, hh⟩ := hP
  have hx := Bd.exec
  have hby := Bd.bytes
  have hlk : meth.locks = false := BodyLoose.notSynchronized Bd
  have hml : c.maxLocals = 5 := hml0
  have hown : s.vm.findClass "java/lang/StringUTF16" = some m.cls := findClass_of_methodNamed Bd.named
  have hnm := (name_of_methodNamed Bd.named Bd.method).1
  have X0 : Stand p l e ({ frames := 2, cells := 1, slots := 6, locals := 40 } : Room) s m #[(.ref a), (.int (0 : Int32)), (.int (3 : Int32))] below meth c s₁ [] 0 0 := Stand.of_body Bd
  have e0 : s₁.heap = h0 := by rw [← hh, Bd.state]; rfl
  have N0 := Fr.nil n0
  have KP : Keep h0 h0 [] := Keep.refl _ _
  refine own_start (Fin := (own_Fin s (own_QTS_3 Z x0 x1 x2 G1 a ka h0 n0) ({ frames := 2, cells := 1, slots := 6, locals := 40 } : Room).cells ({ frames := 2, cells := 1, slots := 6, locals := 40 } : Room).slots)) (own_from (mkF m 0 #[rv a, iv 0, iv 3, .unset, .unset] []) (castTop (own_ef_TS_3 m a (0 : Int32) (3 : Int32))) ?_)
  refine own_to (T' := s₁) (mkF m 1 #[rv a, iv 0, iv 3, .unset, .unset] [(.int (3 : Int32))]) (fun _ k => XS.iloadN X0.here hx rfl (hb hby own_d_jdk_52_method_14_0) rfl k) ?_
  have KP0 := KP
  have lt0_a := Va.lt
  obtain ⟨_, _, ⟨T108, L108, k108, n108⟩, -, X108, ⟨Lc108, hQ108, l108, y108, z108⟩, st108⟩ := Jvm.LawKit.callS X0 hx (y := (⟨"java/lang/StringUTF16", "newBytesFor", "(I)[B"⟩ : MethodName)) hown (mvT hZ (hw _ (List.mem_of_getElem? (i := 72) rfl))) (mvT hZ (hw _ (List.mem_of_getElem? (i := 73) rfl))) (mvT hZ (hw _ (List.mem_of_getElem? (i := 18) rfl))) (mvT hZ (hw _ (List.mem_of_getElem? (i := 74) rfl))) (by decide) (backOf (W := 0) (own_rmNF_3 l Z a0 hw [] h0 n0 (Nat.le_trans Z0 KP.1) OL) hZ (hw _ (List.mem_of_getElem? (i := 74) rfl)) (hw _ (List.mem_of_getElem? (i := 18) rfl)) (by decide) (by decide)) (g := (mkF m 1 #[rv a, iv 0, iv 3, .unset, .unset] [(.int (3 : Int32))])) rfl (by rw [hml]; rfl) (argsL := [(.int (3 : Int32))]) (rest := []) (lenOf own_pd1 rfl) rfl (by show 2 * 0 + _ ≤ _; exact Nat.le_of_eq rfl) (hb hby own_d_jdk_52_method_14_1) (fun _ _ => ⟨rfl, e0, (by decide : 0 + 1 ≤ _), (by decide : 0 + 6 ≤ _)⟩)
  dsimp only [Pt.U, Pt.locs, Pt.cells, Pt.slots] at X108 l108 y108 z108 st108 hQ108
  subst l108 y108 z108
  obtain ⟨bu, kbu, rfl, N108q, K108, ge_bu, sz0_bu, V0_bu⟩ := hQ108
  have N108 := Fr.app N0 N108q
  have OL := OL.keep K108 all0
  have KP := KP.trans K108 all0
  have Va := Va.keep K108 nin0
  refine own_to (mkF m 4 #[rv a, iv 0, iv 3, .unset, .unset] [(.ref bu)]) st108 ?_
  have sz_bu : h0.size ≤ bu := Nat.le_trans KP0.1 sz0_bu
  have ne_a_bu : a ≠ bu := Nat.ne_of_lt (Nat.lt_of_lt_of_le lt0_a sz0_bu)
  have Vu : Arv Z T108.heap bu kbu .byte (6 : Int32) [(.int (0 : Int32)), (.int (0 : Int32)), (.int (0 : Int32)), (.int (0 : Int32)), (.int (0 : Int32)), (.int (0 : Int32))] (.int (0 : Int32)) := V0_bu
  refine own_to (T' := T108) (mkF m 5 #[rv a, iv 0, iv 3, rv bu, .unset] []) (fun _ k => XS.astoreN X108.here hx rfl (hb hby own_d_jdk_52_method_14_4) rfl rfl (l' := #[rv a, iv 0, iv 3, rv bu, .unset]) rfl k) ?_
  refine own_to (T' := T108) (mkF m 6 #[rv a, iv 0, iv 3, rv bu, .unset] [(.int (0 : Int32))]) (fun _ k => XS.iconst X108.here hx rfl (hb hby own_d_jdk_52_method_14_5) k) ?_
  refine own_to (T' := T108) (mkF m 8 #[rv a, iv 0, iv 3, rv bu, iv 0] []) (fun _ k => XS.istore X108.here hx rfl (hb hby own_d_jdk_52_method_14_6) rfl (l' := #[rv a, iv 0, iv 3, rv bu, iv 0]) rfl k) ?_
  refine own_to (T' := T108) (mkF m 10 #[rv a, iv 0, iv 3, rv bu, iv 0] [(.int (0 : Int32))]) (fun _ k => XS.iload X108.here hx rfl (hb hby own_d_jdk_52_method_14_8) rfl k) ?_
  refine own_to (T' := T108) (mkF m 11 #[rv a, iv 0, iv 3, rv bu, iv 0] [(.int (3 : Int32)), (.int (0 : Int32))]) (fun _ k => XS.iloadN X108.here hx rfl (hb hby own_d_jdk_52_method_14_10) rfl k) ?_
  refine own_to (T' := T108) (mkF m 14 #[rv a, iv 0, iv 3, rv bu, iv 0] []) (fun _ k => XS.icmpNo X108.here hx rfl (hb hby own_d_jdk_52_method_14_11) rfl (tlt (by decide : (0 : Int32) < (3 : Int32))).2.1 k) ?_
  refine own_to (T' := T108) (mkF m 15 #[rv a, iv 0, iv 3, rv bu, iv 0] [(.ref bu)]) (fun _ k => XS.aloadN X108.here hx rfl (hb hby own_d_jdk_52_method_14_14) rfl rfl k) ?_
  refine own_to (T' := T108) (mkF m 17 #[rv a, iv 0, iv 3, rv bu, iv 0] [(.int (0 : Int32)), (.ref bu)]) (fun _ k => XS.iload X108.here hx rfl (hb hby own_d_jdk_52_method_14_15) rfl k) ?_
  refine own_to (T' := T108) (mkF m 18 #[rv a, iv 0, iv 3, rv bu, iv 0] [(.ref a), (.int (0 : Int32)), (.ref bu)]) (fun _ k => XS.aloadN X108.here hx rfl (hb hby own_d_jdk_52_method_14_17) rfl rfl k) ?_
  refine own_to (T' := T108) (mkF m 19 #[rv a, iv 0, iv 3, rv bu, iv 0] [(.int (0 : Int32)), (.ref a), (.int (0 : Int32)), (.ref bu)]) (fun _ k => XS.iloadN X108.here hx rfl (hb hby own_d_jdk_52_method_14_18) rfl k) ?_
  obtain ⟨cl109, Ar109, -, S109, -, H109, -⟩ := id Va
  refine own_to (mkF m 20 #[rv a, iv 0, iv 3, rv bu, iv 0] [(.int x0), (.int (0 : Int32)), (.ref bu)]) (X108.caload hx (j := (0 : Int32)) (v := (.int x0)) Ar109.1 (State.isArrayOf_alike hZ.alike Ar109.2.1) Ar109.2.2 (inb_of S109 ⟨by decide, by decide⟩) (H109.at (inb_of S109 ⟨by decide, by decide⟩) rfl) (g := (mkF m 19 #[rv a, iv 0, iv 3, rv bu, iv 0] [(.int (0 : Int32)), (.ref a), (.int (0 : Int32)), (.ref bu)])) rfl rfl (hb hby own_d_jdk_52_method_14_19)) ?_
  obtain ⟨_, _, ⟨T110, L110, k110, n110⟩, -, X110, ⟨Lc110, hQ110, l110, y110, z110⟩, st110⟩ := Jvm.LawKit.callS X108 hx (y := (⟨"java/lang/StringUTF16", "putChar", "([BII)V"⟩ : MethodName)) hown (mvT hZ (hw _ (List.mem_of_getElem? (i := 79) rfl))) (mvT hZ (hw _ (List.mem_of_getElem? (i := 80) rfl))) (mvT hZ (hw _ (List.mem_of_getElem? (i := 18) rfl))) (mvT hZ (hw _ (List.mem_of_getElem? (i := 81) rfl))) (by decide) (backOf (W := 0) (own_rmPC_3_0 l Z a0 hw [] (0 : Int32) (0 : Int32) (0 : Int32) (0 : Int32) (0 : Int32) (0 : Int32) x0 G1 bu kbu T108.heap n0 (Nat.le_trans Z0 KP.1) OL ge_bu Vu O2 P5 OAD OHI OLO) hZ (hw _ (List.mem_of_getElem? (i := 81) rfl)) (hw _ (List.mem_of_getElem? (i := 18) rfl)) (by decide) (by decide)) (g := (mkF m 20 #[rv a, iv 0, iv 3, rv bu, iv 0] [(.int x0), (.int (0 : Int32)), (.ref bu)])) rfl (by rw [hml]; rfl) (argsL := [(.ref bu), (.int (0 : Int32)), (.int x0)]) (rest := []) (lenOf own_pd2 rfl) rfl (by show 2 * 0 + _ ≤ _; exact Nat.le_of_eq rfl) (hb hby own_d_jdk_52_method_14_20) (fun _ _ => ⟨rfl, rfl, (by decide : 1 + 0 ≤ _), (by decide : 6 + 0 ≤ _)⟩)
  dsimp only [Pt.U, Pt.locs, Pt.cells, Pt.slots] at X110 l110 y110 z110 st110 hQ110
  subst l110 y110 z110
  obtain ⟨rfl, N110q, K110, Vq110⟩ := hQ110
  have N110 := Fr.app N108 N110q
  have OL := OL.keep K110 (allS ge_bu all0)
  have KP := KP.trans K110 (allS (Or.inr sz_bu) all0)
  have Va := Va.keep K110 (ninS ne_a_bu nin0)
  refine own_to (mkF m 23 #[rv a, iv 0, iv 3, rv bu, iv 0] []) st110 ?_
  have Vu : Arv Z T110.heap bu kbu .byte (6 : Int32) [(.int ((x0 >>> ((0 : Int32) &&& 31)).toInt8.toInt32)), (.int ((x0 >>> ((8 : Int32) &&& 31)).toInt8.toInt32)), (.int (0 : Int32)), (.int (0 : Int32)), (.int (0 : Int32)), (.int (0 : Int32))] (.int (0 : Int32)) := Vq110
  refine own_to (T' := T110) (mkF m 26 #[rv a, iv 1, iv 3, rv bu, iv 0] []) (fun _ k => XS.iinc X110.here hx rfl (hb hby own_d_jdk_52_method_14_23) rfl (l' := #[rv a, iv 1, iv 3, rv bu, iv 0]) rfl k) ?_
  refine own_to (T' := T110) (mkF m 29 #[rv a, iv 1, iv 3, rv bu, iv 1] []) (fun _ k => XS.iinc X110.here hx rfl (hb hby own_d_jdk_52_method_14_26) rfl (l' := #[rv a, iv 1, iv 3, rv bu, iv 1]) rfl k) ?_
  refine own_to (T' := T110) (mkF m 8 #[rv a, iv 1, iv 3, rv bu, iv 1] []) (fun _ k => XS.goto X110.here hx rfl (pc0 := 29) (pc' := 8) rfl (hb hby own_d_jdk_52_method_14_29) (by decide) (by decide) k) ?_
  refine own_to (T' := T110) (mkF m 10 #[rv a, iv 1, iv 3, rv bu, iv 1] [(.int (1 : Int32))]) (fun _ k => XS.iload X110.here hx rfl (hb hby own_d_jdk_52_method_14_8) rfl k) ?_
  refine own_to (T' := T110) (mkF m 11 #[rv a, iv 1, iv 3, rv bu, iv 1] [(.int (3 : Int32)), (.int (1 : Int32))]) (fun _ k => XS.iloadN X110.here hx rfl (hb hby own_d_jdk_52_method_14_10) rfl k) ?_
  refine own_to (T' := T110) (mkF m 14 #[rv a, iv 1, iv 3, rv bu, iv 1] []) (fun _ k => XS.icmpNo X110.here hx rfl (hb hby own_d_jdk_52_method_14_11) rfl (tlt (by decide : (1 : Int32) < (3 : Int32))).2.1 k) ?_
  refine own_to (T' := T110) (mkF m 15 #[rv a, iv 1, iv 3, rv bu, iv 1] [(.ref bu)]) (fun _ k => XS.aloadN X110.here hx rfl (hb hby own_d_jdk_52_method_14_14) rfl rfl k) ?_
  refine own_to (T' := T110) (mkF m 17 #[rv a, iv 1, iv 3, rv bu, iv 1] [(.int (1 : Int32)), (.ref bu)]) (fun _ k => XS.iload X110.here hx rfl (hb hby own_d_jdk_52_method_14_15) rfl k) ?_
  refine own_to (T' := T110) (mkF m 18 #[rv a, iv 1, iv 3, rv bu, iv 1] [(.ref a), (.int (1 : Int32)), (.ref bu)]) (fun _ k => XS.aloadN X110.here hx rfl (hb hby own_d_jdk_52_method_14_17) rfl rfl k) ?_
  refine own_to (T' := T110) (mkF m 19 #[rv a, iv 1, iv 3, rv bu, iv 1] [(.int (1 : Int32)), (.ref a), (.int (1 : Int32)), (.ref bu)]) (fun _ k => XS.iloadN X110.here hx rfl (hb hby own_d_jdk_52_method_14_18) rfl k) ?_
  obtain ⟨cl111, Ar111, -, S111, -, H111, -⟩ := id Va
  refine own_to (mkF m 20 #[rv a, iv 1, iv 3, rv bu, iv 1] [(.int x1), (.int (1 : Int32)), (.ref bu)]) (X110.caload hx (j := (1 : Int32)) (v := (.int x1)) Ar111.1 (State.isArrayOf_alike hZ.alike Ar111.2.1) Ar111.2.2 (inb_of S111 ⟨by decide, by decide⟩) (H111.at (inb_of S111 ⟨by decide, by decide⟩) rfl) (g := (mkF m 19 #[rv a, iv 1, iv 3, rv bu, iv 1] [(.int (1 : Int32)), (.ref a), (.int (1 : Int32)), (.ref bu)])) rfl rfl (hb hby own_d_jdk_52_method_14_19)) ?_
  obtain ⟨_, _, ⟨T112, L112, k112, n112⟩, -, X112, ⟨Lc112, hQ112, l112, y112, z112⟩, st112⟩ := Jvm.LawKit.callS X110 hx (y := (⟨"java/lang/StringUTF16", "putChar", "([BII)V"⟩ : MethodName)) hown (mvT hZ (hw _ (List.mem_of_getElem? (i := 79) rfl))) (mvT hZ (hw _ (List.mem_of_getElem? (i := 80) rfl))) (mvT hZ (hw _ (List.mem_of_getElem? (i := 18) rfl))) (mvT hZ (hw _ (List.mem_of_getElem? (i := 81) rfl))) (by decide) (backOf (W := 0) (own_rmPC_3_1 l Z a0 hw [] ((x0 >>> ((0 : Int32) &&& 31)).toInt8.toInt32) ((x0 >>> ((8 : Int32) &&& 31)).toInt8.toInt32) (0 : Int32) (0 : Int32) (0 : Int32) (0 : Int32) x1 G1 bu kbu T110.heap n0 (Nat.le_trans Z0 KP.1) OL ge_bu Vu O2 P5 OAD OHI OLO) hZ (hw _ (List.mem_of_getElem? (i := 81) rfl)) (hw _ (List.mem_of_getElem? (i := 18) rfl)) (by decide) (by decide)) (g := (mkF m 20 #[rv a, iv 1, iv 3, rv bu, iv 1] [(.int x1), (.int (1 : Int32)), (.ref bu)])) rfl (by rw [hml]; rfl) (argsL := [(.ref bu), (.int (1 : Int32)), (.int x1)]) (rest := []) (lenOf own_pd2 rfl) rfl (by show 2 * 0 + _ ≤ _; exact Nat.le_of_eq rfl) (hb hby own_d_jdk_52_method_14_20) (fun _ _ => ⟨rfl, rfl, (by decide : 1 + 0 ≤ _), (by decide : 6 + 0 ≤ _)⟩)
  dsimp only [Pt.U, Pt.locs, Pt.cells, Pt.slots] at X112 l112 y112 z112 st112 hQ112
  subst l112 y112 z112
  obtain ⟨rfl, N112q, K112, Vq112⟩ := hQ112
  have N112 := Fr.app N110 N112q
  have OL := OL.keep K112 (allS ge_bu all0)
  have KP := KP.trans K112 (allS (Or.inr sz_bu) all0)
  have Va := Va.keep K112 (ninS ne_a_bu nin0)
  refine own_to (mkF m 23 #[rv a, iv 1, iv 3, rv bu, iv 1] []) st112 ?_
  have Vu : Arv Z T112.heap bu kbu .byte (6 : Int32) [(.int ((x0 >>> ((0 : Int32) &&& 31)).toInt8.toInt32)), (.int ((x0 >>> ((8 : Int32) &&& 31)).toInt8.toInt32)), (.int ((x1 >>> ((0 : Int32) &&& 31)).toInt8.toInt32)), (.int ((x1 >>> ((8 : Int32) &&& 31)).toInt8.toInt32)), (.int (0 : Int32)), (.int (0 : Int32))] (.int (0 : Int32)) := Vq112
  refine own_to (T' := T112) (mkF m 26 #[rv a, iv 2, iv 3, rv bu, iv 1] []) (fun _ k => XS.iinc X112.here hx rfl (hb hby own_d_jdk_52_method_14_23) rfl (l' := #[rv a, iv 2, iv 3, rv bu, iv 1]) rfl k) ?_
  refine own_to (T' := T112) (mkF m 29 #[rv a, iv 2, iv 3, rv bu, iv 2] []) (fun _ k => XS.iinc X112.here hx rfl (hb hby own_d_jdk_52_method_14_26) rfl (l' := #[rv a, iv 2, iv 3, rv bu, iv 2]) rfl k) ?_
  refine own_to (T' := T112) (mkF m 8 #[rv a, iv 2, iv 3, rv bu, iv 2] []) (fun _ k => XS.goto X112.here hx rfl (pc0 := 29) (pc' := 8) rfl (hb hby own_d_jdk_52_method_14_29) (by decide) (by decide) k) ?_
  refine own_to (T' := T112) (mkF m 10 #[rv a, iv 2, iv 3, rv bu, iv 2] [(.int (2 : Int32))]) (fun _ k => XS.iload X112.here hx rfl (hb hby own_d_jdk_52_method_14_8) rfl k) ?_
  refine own_to (T' := T112) (mkF m 11 #[rv a, iv 2, iv 3, rv bu, iv 2] [(.int (3 : Int32)), (.int (2 : Int32))]) (fun _ k => XS.iloadN X112.here hx rfl (hb hby own_d_jdk_52_method_14_10) rfl k) ?_
  refine own_to (T' := T112) (mkF m 14 #[rv a, iv 2, iv 3, rv bu, iv 2] []) (fun _ k => XS.icmpNo X112.here hx rfl (hb hby own_d_jdk_52_method_14_11) rfl (tlt (by decide : (2 : Int32) < (3 : Int32))).2.1 k) ?_
  refine own_to (T' := T112) (mkF m 15 #[rv a, iv 2, iv 3, rv bu, iv 2] [(.ref bu)]) (fun _ k => XS.aloadN X112.here hx rfl (hb hby own_d_jdk_52_method_14_14) rfl rfl k) ?_
  refine own_to (T' := T112) (mkF m 17 #[rv a, iv 2, iv 3, rv bu, iv 2] [(.int (2 : Int32)), (.ref bu)]) (fun _ k => XS.iload X112.here hx rfl (hb hby own_d_jdk_52_method_14_15) rfl k) ?_
  refine own_to (T' := T112) (mkF m 18 #[rv a, iv 2, iv 3, rv bu, iv 2] [(.ref a), (.int (2 : Int32)), (.ref bu)]) (fun _ k => XS.aloadN X112.here hx rfl (hb hby own_d_jdk_52_method_14_17) rfl rfl k) ?_
  refine own_to (T' := T112) (mkF m 19 #[rv a, iv 2, iv 3, rv bu, iv 2] [(.int (2 : Int32)), (.ref a), (.int (2 : Int32)), (.ref bu)]) (fun _ k => XS.iloadN X112.here hx rfl (hb hby own_d_jdk_52_method_14_18) rfl k) ?_
  obtain ⟨cl113, Ar113, -, S113, -, H113, -⟩ := id Va
  refine own_to (mkF m 20 #[rv a, iv 2, iv 3, rv bu, iv 2] [(.int x2), (.int (2 : Int32)), (.ref bu)]) (X112.caload hx (j := (2 : Int32)) (v := (.int x2)) Ar113.1 (State.isArrayOf_alike hZ.alike Ar113.2.1) Ar113.2.2 (inb_of S113 ⟨by decide, by decide⟩) (H113.at (inb_of S113 ⟨by decide, by decide⟩) rfl) (g := (mkF m 19 #[rv a, iv 2, iv 3, rv bu, iv 2] [(.int (2 : Int32)), (.ref a), (.int (2 : Int32)), (.ref bu)])) rfl rfl (hb hby own_d_jdk_52_method_14_19)) ?_
  obtain ⟨_, _, ⟨T114, L114, k114, n114⟩, -, X114, ⟨Lc114, hQ114, l114, y114, z114⟩, st114⟩ := Jvm.LawKit.callS X112 hx (y := (⟨"java/lang/StringUTF16", "putChar", "([BII)V"⟩ : MethodName)) hown (mvT hZ (hw _ (List.mem_of_getElem? (i := 79) rfl))) (mvT hZ (hw _ (List.mem_of_getElem? (i := 80) rfl))) (mvT hZ (hw _ (List.mem_of_getElem? (i := 18) rfl))) (mvT hZ (hw _ (List.mem_of_getElem? (i := 81) rfl))) (by decide) (backOf (W := 0) (own_rmPC_3_2 l Z a0 hw [] ((x0 >>> ((0 : Int32) &&& 31)).toInt8.toInt32) ((x0 >>> ((8 : Int32) &&& 31)).toInt8.toInt32) ((x1 >>> ((0 : Int32) &&& 31)).toInt8.toInt32) ((x1 >>> ((8 : Int32) &&& 31)).toInt8.toInt32) (0 : Int32) (0 : Int32) x2 G1 bu kbu T112.heap n0 (Nat.le_trans Z0 KP.1) OL ge_bu Vu O2 P5 OAD OHI OLO) hZ (hw _ (List.mem_of_getElem? (i := 81) rfl)) (hw _ (List.mem_of_getElem? (i := 18) rfl)) (by decide) (by decide)) (g := (mkF m 20 #[rv a, iv 2, iv 3, rv bu, iv 2] [(.int x2), (.int (2 : Int32)), (.ref bu)])) rfl (by rw [hml]; rfl) (argsL := [(.ref bu), (.int (2 : Int32)), (.int x2)]) (rest := []) (lenOf own_pd2 rfl) rfl (by show 2 * 0 + _ ≤ _; exact Nat.le_of_eq rfl) (hb hby own_d_jdk_52_method_14_20) (fun _ _ => ⟨rfl, rfl, (by decide : 1 + 0 ≤ _), (by decide : 6 + 0 ≤ _)⟩)
  dsimp only [Pt.U, Pt.locs, Pt.cells, Pt.slots] at X114 l114 y114 z114 st114 hQ114
  subst l114 y114 z114
  obtain ⟨rfl, N114q, K114, Vq114⟩ := hQ114
  have N114 := Fr.app N112 N114q
  have OL := OL.keep K114 (allS ge_bu all0)
  have KP := KP.trans K114 (allS (Or.inr sz_bu) all0)
  have Va := Va.keep K114 (ninS ne_a_bu nin0)
  refine own_to (mkF m 23 #[rv a, iv 2, iv 3, rv bu, iv 2] []) st114 ?_
  have Vu : Arv Z T114.heap bu kbu .byte (6 : Int32) [(.int ((x0 >>> ((0 : Int32) &&& 31)).toInt8.toInt32)), (.int ((x0 >>> ((8 : Int32) &&& 31)).toInt8.toInt32)), (.int ((x1 >>> ((0 : Int32) &&& 31)).toInt8.toInt32)), (.int ((x1 >>> ((8 : Int32) &&& 31)).toInt8.toInt32)), (.int ((x2 >>> ((0 : Int32) &&& 31)).toInt8.toInt32)), (.int ((x2 >>> ((8 : Int32) &&& 31)).toInt8.toInt32))] (.int (0 : Int32)) := Vq114
  refine own_to (T' := T114) (mkF m 26 #[rv a, iv 3, iv 3, rv bu, iv 2] []) (fun _ k => XS.iinc X114.here hx rfl (hb hby own_d_jdk_52_method_14_23) rfl (l' := #[rv a, iv 3, iv 3, rv bu, iv 2]) rfl k) ?_
  refine own_to (T' := T114) (mkF m 29 #[rv a, iv 3, iv 3, rv bu, iv 3] []) (fun _ k => XS.iinc X114.here hx rfl (hb hby own_d_jdk_52_method_14_26) rfl (l' := #[rv a, iv 3, iv 3, rv bu, iv 3]) rfl k) ?_
  refine own_to (T' := T114) (mkF m 8 #[rv a, iv 3, iv 3, rv bu, iv 3] []) (fun _ k => XS.goto X114.here hx rfl (pc0 := 29) (pc' := 8) rfl (hb hby own_d_jdk_52_method_14_29) (by decide) (by decide) k) ?_
  refine own_to (T' := T114) (mkF m 10 #[rv a, iv 3, iv 3, rv bu, iv 3] [(.int (3 : Int32))]) (fun _ k => XS.iload X114.here hx rfl (hb hby own_d_jdk_52_method_14_8) rfl k) ?_
  refine own_to (T' := T114) (mkF m 11 #[rv a, iv 3, iv 3, rv bu, iv 3] [(.int (3 : Int32)), (.int (3 : Int32))]) (fun _ k => XS.iloadN X114.here hx rfl (hb hby own_d_jdk_52_method_14_10) rfl k) ?_
  refine own_to (T' := T114) (mkF m 32 #[rv a, iv 3, iv 3, rv bu, iv 3] []) (fun _ k => XS.icmpYes X114.here hx rfl (pc0 := 11) (pc' := 32) rfl (hb hby own_d_jdk_52_method_14_11) rfl (flt (by decide : ¬ ((3 : Int32) < (3 : Int32)))).2.1 (by decide) (by decide) k) ?_
  refine own_to (T' := T114) (mkF m 33 #[rv a, iv 3, iv 3, rv bu, iv 3] [(.ref bu)]) (fun _ k => XS.aloadN X114.here hx rfl (hb hby own_d_jdk_52_method_14_32) rfl rfl k) ?_
  exact own_retA X114 hx Bd.returns rfl hlk (hb hby own_d_jdk_52_method_14_33) rfl (by decide) (by decide) (by exact ⟨bu, kbu, rfl, N114, KP, ge_bu, sz_bu, Vu⟩)
def own_QGC_3_0 (Z : State) (x0 x1 x2 : Int32) (G1 : Int32) (b : Addr) (kb : ClassId) (h0 : Heap) (n0 : Nat) (v : Option Value) (h : Heap) (L : List Loc) : Prop := v = some (.int x0) ∧ Fr n0 L ∧ h = h0
set_option maxRecDepth 65536 in
set_option maxHeartbeats 40000000 in
theorem own_rmGC_3_0 (l : Launch) (Z : State) (a0 : Array Value) (hw : ∀ d ∈ tables_1, d.before a0 Z = true) (ws : List Jvm.Cond) (x0 x1 x2 : Int32) (G1 : Int32) (b : Addr) (kb : ClassId) (h0 : Heap) (n0 : Nat) (Z0 : n0 ≤ h0.size) (OL : Old Z n0 h0) (hx0 : own_C16 x0) (Vb : Arv Z h0 b kb .byte (6 : Int32) [(.int ((x0 >>> ((0 : Int32) &&& 31)).toInt8.toInt32)), (.int ((x0 >>> ((8 : Int32) &&& 31)).toInt8.toInt32)), (.int ((x1 >>> ((0 : Int32) &&& 31)).toInt8.toInt32)), (.int ((x1 >>> ((8 : Int32) &&& 31)).toInt8.toInt32)), (.int ((x2 >>> ((0 : Int32) &&& 31)).toInt8.toInt32)), (.int ((x2 >>> ((8 : Int32) &&& 31)).toInt8.toInt32))] (.int (0 : Int32))) (O2 : Sta Z Z.heap "java/lang/String" "COMPACT_STRINGS" "Z" (.int G1)) (P5 : ¬ (G1 = (0 : Int32))) (OAD : Sta Z Z.heap "java/lang/StringUTF16" "$assertionsDisabled" "Z" (.int (1 : Int32))) (OHI : Sta Z Z.heap "java/lang/StringUTF16" "HI_BYTE_SHIFT" "I" (.int (0 : Int32))) (OLO : Sta Z Z.heap "java/lang/StringUTF16" "LO_BYTE_SHIFT" "I" (.int (8 : Int32))) :
    MetFree l (⟨"java/lang/StringUTF16", "getChar", "([BI)C"⟩ : MethodName) (head1 (Jvm.Cond.code (⟨"java/lang/StringUTF16", "getChar", "([BI)C"⟩ : MethodName) jdk_52_method_5_code 2 (some .char) :: ws) ({ frames := 0, cells := 0, slots := 0, locals := 0 } : Room)) (fun aa_ U => aa_ = #[(.ref b), (.int (0 : Int32))] ∧ Z.Warmed39 U.vm ∧ U.heap = h0) (fun _ _ _ _ _ => True) (fun _ U o U' => ∃ v L, o = .returned v ∧ own_QGC_3_0 Z x0 x1 x2 G1 b kb h0 n0 v U'.heap L ∧ FrameEnd U o U' L ({ frames := 0, cells := 0, slots := 0, locals := 0 } : Room).cells ({ frames := 0, cells := 0, slots := 0, locals := 0 } : Room).slots) := by
  refine MetFree.of_bodySF (plainFor_of_name own_pn0) hisR ?_
  intro p e s m args below meth c s₁ Bd hml0 hP hK
  obtain ⟨rfl, hZ, hh⟩ := hP
  have hx := Bd.exec
  have hby := Bd.bytes
  have hlk : meth.locks = false := BodyLoose.notSynchronized Bd
  have hml : c.maxLocals = 2 := hml0
  have hown : s.vm.findClass "java/lang/StringUTF16" = some m.cls := findClass_of_methodNamed Bd.named
  have hnm := (name_of_methodNamed Bd.named Bd.method).1
  have X0 : Stand p l e ({ frames := 0, cells := 0, slots := 0, locals := 0 } : Room) s m #[(.ref b), (.int (0 : Int32))] below meth c s₁ [] 0 0 := Stand.of_body Bd
  have e0 : s₁.heap = h0 := by rw [← hh, Bd.state]; rfl
  have N0 := Fr.nil n0
  have KP : Keep h0 h0 [] := Keep.refl _ _
  refine own_start (Fin := (own_Fin s (own_QGC_3_0 Z x0 x1 x2 G1 b kb h0 n0) ({ frames := 0, cells := 0, slots := 0, locals := 0 } : Room).cells ({ frames := 0, cells := 0, slots := 0, locals := 0 } : Room).slots)) (own_from (mkF m 0 #[rv b, iv 0] []) (castTop (own_ef_GC_3_0 m b (0 : Int32))) ?_)
  obtain ⟨T115, X115, e115, st115⟩ := getS2 X0 hx hZ hown (host := "") (Or.inl (hw _ (List.mem_of_getElem? (i := 82) rfl))) Via.refl e0 (OAD.ext OL.2) (g := (mkF m 0 #[rv b, iv 0] [])) rfl (hb hby own_d_jdk_52_method_5_0)
  refine own_to (mkF m 3 #[rv b, iv 0] [(.int (1 : Int32))]) st115 ?_
  refine own_to (T' := T115) (mkF m 28 #[rv b, iv 0] []) (fun _ k => XS.ifYes X115.here hx rfl (pc0 := 3) (pc' := 28) rfl (hb hby own_d_jdk_52_method_5_3) rfl ((if0 _ _).trans (feq (by decide : ¬ ((1 : Int32) = (0 : Int32)))).2) (by decide) (by decide) k) ?_
  refine own_to (T' := T115) (mkF m 29 #[rv b, iv 0] [(.int (0 : Int32))]) (fun _ k => XS.iloadN X115.here hx rfl (hb hby own_d_jdk_52_method_5_28) rfl k) ?_
  refine own_to (T' := T115) (mkF m 30 #[rv b, iv 0] [(.int (1 : Int32)), (.int (0 : Int32))]) (fun _ k => XS.iconst X115.here hx rfl (hb hby own_d_jdk_52_method_5_29) k) ?_
  refine own_to (T' := T115) (mkF m 31 #[rv b, iv 0] [(.int (0 : Int32))]) (fun _ k => XS.ishl X115.here hx rfl (hb hby own_d_jdk_52_method_5_30) rfl k) ?_
  refine own_to (T' := T115) (mkF m 32 #[rv b, iv 0] []) (fun _ k => XS.istoreN X115.here hx rfl (hb hby own_d_jdk_52_method_5_31) rfl (l' := #[rv b, iv 0]) rfl k) ?_
  refine own_to (T' := T115) (mkF m 33 #[rv b, iv 0] [(.ref b)]) (fun _ k => XS.aloadN X115.here hx rfl (hb hby own_d_jdk_52_method_5_32) rfl rfl k) ?_
  refine own_to (T' := T115) (mkF m 34 #[rv b, iv 0] [(.int (0 : Int32)), (.ref b)]) (fun _ k => XS.iloadN X115.here hx rfl (hb hby own_d_jdk_52_method_5_33) rfl k) ?_
  refine own_to (T' := T115) (mkF m 37 #[rv b, iv 1] [(.int (0 : Int32)), (.ref b)]) (fun _ k => XS.iinc X115.here hx rfl (hb hby own_d_jdk_52_method_5_34) rfl (l' := #[rv b, iv 1]) rfl k) ?_
  obtain ⟨cl116, Ar116, -, S116, -, H116, -⟩ := id Vb
  refine own_to (mkF m 38 #[rv b, iv 1] [(.int ((x0 >>> ((0 : Int32) &&& 31)).toInt8.toInt32))]) (X115.baloadBytes hx (j := (0 : Int32)) (v := (.int ((x0 >>> ((0 : Int32) &&& 31)).toInt8.toInt32))) (by rw [e115]; exact Ar116.1) (State.isArrayOf_alike hZ.alike Ar116.2.1) Ar116.2.2 (inb_of S116 ⟨by decide, by decide⟩) (H116.at (inb_of S116 ⟨by decide, by decide⟩) rfl) (g := (mkF m 37 #[rv b, iv 1] [(.int (0 : Int32)), (.ref b)])) rfl rfl (hb hby own_d_jdk_52_method_5_37)) ?_
  refine own_to (T' := T115) (mkF m 41 #[rv b, iv 1] [(.int (255 : Int32)), (.int ((x0 >>> ((0 : Int32) &&& 31)).toInt8.toInt32))]) (fun _ k => XS.sipush X115.here hx rfl (hb hby own_d_jdk_52_method_5_38) k) ?_
  refine own_to (T' := T115) (mkF m 42 #[rv b, iv 1] [(.int (((x0 >>> ((0 : Int32) &&& 31)).toInt8.toInt32) &&& (255 : Int32)))]) (fun _ k => XS.iand X115.here hx rfl (hb hby own_d_jdk_52_method_5_41) rfl k) ?_
  obtain ⟨T117, X117, e117, st117⟩ := getS2 X115 hx hZ hown (host := "") (Or.inl (hw _ (List.mem_of_getElem? (i := 83) rfl))) Via.refl e115 (OHI.ext OL.2) (g := (mkF m 42 #[rv b, iv 1] [(.int (((x0 >>> ((0 : Int32) &&& 31)).toInt8.toInt32) &&& (255 : Int32)))])) rfl (hb hby own_d_jdk_52_method_5_42)
  refine own_to (mkF m 45 #[rv b, iv 1] [(.int (0 : Int32)), (.int (((x0 >>> ((0 : Int32) &&& 31)).toInt8.toInt32) &&& (255 : Int32)))]) st117 ?_
  refine own_to (T' := T117) (mkF m 46 #[rv b, iv 1] [(.int ((((x0 >>> ((0 : Int32) &&& 31)).toInt8.toInt32) &&& (255 : Int32)) <<< ((0 : Int32) &&& 31)))]) (fun _ k => XS.ishl X117.here hx rfl (hb hby own_d_jdk_52_method_5_45) rfl k) ?_
  refine own_to (T' := T117) (mkF m 47 #[rv b, iv 1] [(.ref b), (.int ((((x0 >>> ((0 : Int32) &&& 31)).toInt8.toInt32) &&& (255 : Int32)) <<< ((0 : Int32) &&& 31)))]) (fun _ k => XS.aloadN X117.here hx rfl (hb hby own_d_jdk_52_method_5_46) rfl rfl k) ?_
  refine own_to (T' := T117) (mkF m 48 #[rv b, iv 1] [(.int (1 : Int32)), (.ref b), (.int ((((x0 >>> ((0 : Int32) &&& 31)).toInt8.toInt32) &&& (255 : Int32)) <<< ((0 : Int32) &&& 31)))]) (fun _ k => XS.iloadN X117.here hx rfl (hb hby own_d_jdk_52_method_5_47) rfl k) ?_
  obtain ⟨cl118, Ar118, -, S118, -, H118, -⟩ := id Vb
  refine own_to (mkF m 49 #[rv b, iv 1] [(.int ((x0 >>> ((8 : Int32) &&& 31)).toInt8.toInt32)), (.int ((((x0 >>> ((0 : Int32) &&& 31)).toInt8.toInt32) &&& (255 : Int32)) <<< ((0 : Int32) &&& 31)))]) (X117.baloadBytes hx (j := (1 : Int32)) (v := (.int ((x0 >>> ((8 : Int32) &&& 31)).toInt8.toInt32))) (by rw [e117]; exact Ar118.1) (State.isArrayOf_alike hZ.alike Ar118.2.1) Ar118.2.2 (inb_of S118 ⟨by decide, by decide⟩) (H118.at (inb_of S118 ⟨by decide, by decide⟩) rfl) (g := (mkF m 48 #[rv b, iv 1] [(.int (1 : Int32)), (.ref b), (.int ((((x0 >>> ((0 : Int32) &&& 31)).toInt8.toInt32) &&& (255 : Int32)) <<< ((0 : Int32) &&& 31)))])) rfl rfl (hb hby own_d_jdk_52_method_5_48)) ?_
  refine own_to (T' := T117) (mkF m 52 #[rv b, iv 1] [(.int (255 : Int32)), (.int ((x0 >>> ((8 : Int32) &&& 31)).toInt8.toInt32)), (.int ((((x0 >>> ((0 : Int32) &&& 31)).toInt8.toInt32) &&& (255 : Int32)) <<< ((0 : Int32) &&& 31)))]) (fun _ k => XS.sipush X117.here hx rfl (hb hby own_d_jdk_52_method_5_49) k) ?_
  refine own_to (T' := T117) (mkF m 53 #[rv b, iv 1] [(.int (((x0 >>> ((8 : Int32) &&& 31)).toInt8.toInt32) &&& (255 : Int32))), (.int ((((x0 >>> ((0 : Int32) &&& 31)).toInt8.toInt32) &&& (255 : Int32)) <<< ((0 : Int32) &&& 31)))]) (fun _ k => XS.iand X117.here hx rfl (hb hby own_d_jdk_52_method_5_52) rfl k) ?_
  obtain ⟨T119, X119, e119, st119⟩ := getS2 X117 hx hZ hown (host := "") (Or.inl (hw _ (List.mem_of_getElem? (i := 84) rfl))) Via.refl e117 (OLO.ext OL.2) (g := (mkF m 53 #[rv b, iv 1] [(.int (((x0 >>> ((8 : Int32) &&& 31)).toInt8.toInt32) &&& (255 : Int32))), (.int ((((x0 >>> ((0 : Int32) &&& 31)).toInt8.toInt32) &&& (255 : Int32)) <<< ((0 : Int32) &&& 31)))])) rfl (hb hby own_d_jdk_52_method_5_53)
  refine own_to (mkF m 56 #[rv b, iv 1] [(.int (8 : Int32)), (.int (((x0 >>> ((8 : Int32) &&& 31)).toInt8.toInt32) &&& (255 : Int32))), (.int ((((x0 >>> ((0 : Int32) &&& 31)).toInt8.toInt32) &&& (255 : Int32)) <<< ((0 : Int32) &&& 31)))]) st119 ?_
  refine own_to (T' := T119) (mkF m 57 #[rv b, iv 1] [(.int ((((x0 >>> ((8 : Int32) &&& 31)).toInt8.toInt32) &&& (255 : Int32)) <<< ((8 : Int32) &&& 31))), (.int ((((x0 >>> ((0 : Int32) &&& 31)).toInt8.toInt32) &&& (255 : Int32)) <<< ((0 : Int32) &&& 31)))]) (fun _ k => XS.ishl X119.here hx rfl (hb hby own_d_jdk_52_method_5_56) rfl k) ?_
  refine own_to (T' := T119) (mkF m 58 #[rv b, iv 1] [(.int (((((x0 >>> ((0 : Int32) &&& 31)).toInt8.toInt32) &&& (255 : Int32)) <<< ((0 : Int32) &&& 31)) ||| ((((x0 >>> ((8 : Int32) &&& 31)).toInt8.toInt32) &&& (255 : Int32)) <<< ((8 : Int32) &&& 31))))]) (fun _ k => XS.ior X119.here hx rfl (hb hby own_d_jdk_52_method_5_57) rfl k) ?_
  refine own_to (T' := T119) (mkF m 59 #[rv b, iv 1] [(.int ((((((x0 >>> ((0 : Int32) &&& 31)).toInt8.toInt32) &&& (255 : Int32)) <<< ((0 : Int32) &&& 31)) ||| ((((x0 >>> ((8 : Int32) &&& 31)).toInt8.toInt32) &&& (255 : Int32)) <<< ((8 : Int32) &&& 31))).toUInt32.toUInt16.toUInt32.toInt32))]) (fun _ k => XS.i2c X119.here hx rfl (hb hby own_d_jdk_52_method_5_58) rfl k) ?_
  exact own_retN X119 hx (t := .char) Bd.returns (by simp) hlk (hb hby own_d_jdk_52_method_5_59) (by decide) (by decide) (by rw [e119]; exact ⟨by rw [own_hi hx0, own_nar16 hx0], N0, rfl⟩)
def own_QGC_3_1 (Z : State) (x0 x1 x2 : Int32) (G1 : Int32) (b : Addr) (kb : ClassId) (h0 : Heap) (n0 : Nat) (v : Option Value) (h : Heap) (L : List Loc) : Prop := v = some (.int x1) ∧ Fr n0 L ∧ h = h0
set_option maxRecDepth 65536 in
set_option maxHeartbeats 40000000 in
theorem own_rmGC_3_1 (l : Launch) (Z : State) (a0 : Array Value) (hw : ∀ d ∈ tables_1, d.before a0 Z = true) (ws : List Jvm.Cond) (x0 x1 x2 : Int32) (G1 : Int32) (b : Addr) (kb : ClassId) (h0 : Heap) (n0 : Nat) (Z0 : n0 ≤ h0.size) (OL : Old Z n0 h0) (hx1 : own_C16 x1) (Vb : Arv Z h0 b kb .byte (6 : Int32) [(.int ((x0 >>> ((0 : Int32) &&& 31)).toInt8.toInt32)), (.int ((x0 >>> ((8 : Int32) &&& 31)).toInt8.toInt32)), (.int ((x1 >>> ((0 : Int32) &&& 31)).toInt8.toInt32)), (.int ((x1 >>> ((8 : Int32) &&& 31)).toInt8.toInt32)), (.int ((x2 >>> ((0 : Int32) &&& 31)).toInt8.toInt32)), (.int ((x2 >>> ((8 : Int32) &&& 31)).toInt8.toInt32))] (.int (0 : Int32))) (O2 : Sta Z Z.heap "java/lang/String" "COMPACT_STRINGS" "Z" (.int G1)) (P5 : ¬ (G1 = (0 : Int32))) (OAD : Sta Z Z.heap "java/lang/StringUTF16" "$assertionsDisabled" "Z" (.int (1 : Int32))) (OHI : Sta Z Z.heap "java/lang/StringUTF16" "HI_BYTE_SHIFT" "I" (.int (0 : Int32))) (OLO : Sta Z Z.heap "java/lang/StringUTF16" "LO_BYTE_SHIFT" "I" (.int (8 : Int32))) :
    MetFree l (⟨"java/lang/StringUTF16", "getChar", "([BI)C"⟩ : MethodName) (head1 (Jvm.Cond.code (⟨"java/lang/StringUTF16", "getChar", "([BI)C"⟩ : MethodName) jdk_52_method_5_code 2 (some .char) :: ws) ({ frames := 0, cells := 0, slots := 0, locals := 0 } : Room)) (fun aa_ U => aa_ = #[(.ref b), (.int (1 : Int32))] ∧ Z.Warmed39 U.vm ∧ U.heap = h0) (fun _ _ _ _ _ => True) (fun _ U o U' => ∃ v L, o = .returned v ∧ own_QGC_3_1 Z x0 x1 x2 G1 b kb h0 n0 v U'.heap L ∧ FrameEnd U o U' L ({ frames := 0, cells := 0, slots := 0, locals := 0 } : Room).cells ({ frames := 0, cells := 0, slots := 0, locals := 0 } : Room).slots) := by
  refine MetFree.of_bodySF (plainFor_of_name own_pn0) hisR ?_
  intro p e s m args below meth c s₁ Bd hml0 hP hK
  obtain ⟨rfl, hZ, hh⟩ := hP
  have hx := Bd.exec
  have hby := Bd.bytes
  have hlk : meth.locks = false := BodyLoose.notSynchronized Bd
  have hml : c.maxLocals = 2 := hml0
  have hown : s.vm.findClass "java/lang/StringUTF16" = some m.cls := findClass_of_methodNamed Bd.named
  have hnm := (name_of_methodNamed Bd.named Bd.method).1
  have X0 : Stand p l e ({ frames := 0, cells := 0, slots := 0, locals := 0 } : Room) s m #[(.ref b), (.int (1 : Int32))] below meth c s₁ [] 0 0 := Stand.of_body Bd
  have e0 : s₁.heap = h0 := by rw [← hh, Bd.state]; rfl
  have N0 := Fr.nil n0
  have KP : Keep h0 h0 [] := Keep.refl _ _
  refine own_start (Fin := (own_Fin s (own_QGC_3_1 Z x0 x1 x2 G1 b kb h0 n0) ({ frames := 0, cells := 0, slots := 0, locals := 0 } : Room).cells ({ frames := 0, cells := 0, slots := 0, locals := 0 } : Room).slots)) (own_from (mkF m 0 #[rv b, iv 1] []) (castTop (own_ef_GC_3_1 m b (1 : Int32))) ?_)
  obtain ⟨T120, X120, e120, st120⟩ := getS2 X0 hx hZ hown (host := "") (Or.inl (hw _ (List.mem_of_getElem? (i := 82) rfl))) Via.refl e0 (OAD.ext OL.2) (g := (mkF m 0 #[rv b, iv 1] [])) rfl (hb hby own_d_jdk_52_method_5_0)
  refine own_to (mkF m 3 #[rv b, iv 1] [(.int (1 : Int32))]) st120 ?_
  refine own_to (T' := T120) (mkF m 28 #[rv b, iv 1] []) (fun _ k => XS.ifYes X120.here hx rfl (pc0 := 3) (pc' := 28) rfl (hb hby own_d_jdk_52_method_5_3) rfl ((if0 _ _).trans (feq (by decide : ¬ ((1 : Int32) = (0 : Int32)))).2) (by decide) (by decide) k) ?_
  refine own_to (T' := T120) (mkF m 29 #[rv b, iv 1] [(.int (1 : Int32))]) (fun _ k => XS.iloadN X120.here hx rfl (hb hby own_d_jdk_52_method_5_28) rfl k) ?_
  refine own_to (T' := T120) (mkF m 30 #[rv b, iv 1] [(.int (1 : Int32)), (.int (1 : Int32))]) (fun _ k => XS.iconst X120.here hx rfl (hb hby own_d_jdk_52_method_5_29) k) ?_
  refine own_to (T' := T120) (mkF m 31 #[rv b, iv 1] [(.int (2 : Int32))]) (fun _ k => XS.ishl X120.here hx rfl (hb hby own_d_jdk_52_method_5_30) rfl k) ?_
  refine own_to (T' := T120) (mkF m 32 #[rv b, iv 2] []) (fun _ k => XS.istoreN X120.here hx rfl (hb hby own_d_jdk_52_method_5_31) rfl (l' := #[rv b, iv 2]) rfl k) ?_
  refine own_to (T' := T120) (mkF m 33 #[rv b, iv 2] [(.ref b)]) (fun _ k => XS.aloadN X120.here hx rfl (hb hby own_d_jdk_52_method_5_32) rfl rfl k) ?_
  refine own_to (T' := T120) (mkF m 34 #[rv b, iv 2] [(.int (2 : Int32)), (.ref b)]) (fun _ k => XS.iloadN X120.here hx rfl (hb hby own_d_jdk_52_method_5_33) rfl k) ?_
  refine own_to (T' := T120) (mkF m 37 #[rv b, iv 3] [(.int (2 : Int32)), (.ref b)]) (fun _ k => XS.iinc X120.here hx rfl (hb hby own_d_jdk_52_method_5_34) rfl (l' := #[rv b, iv 3]) rfl k) ?_
  obtain ⟨cl121, Ar121, -, S121, -, H121, -⟩ := id Vb
  refine own_to (mkF m 38 #[rv b, iv 3] [(.int ((x1 >>> ((0 : Int32) &&& 31)).toInt8.toInt32))]) (X120.baloadBytes hx (j := (2 : Int32)) (v := (.int ((x1 >>> ((0 : Int32) &&& 31)).toInt8.toInt32))) (by rw [e120]; exact Ar121.1) (State.isArrayOf_alike hZ.alike Ar121.2.1) Ar121.2.2 (inb_of S121 ⟨by decide, by decide⟩) (H121.at (inb_of S121 ⟨by decide, by decide⟩) rfl) (g := (mkF m 37 #[rv b, iv 3] [(.int (2 : Int32)), (.ref b)])) rfl rfl (hb hby own_d_jdk_52_method_5_37)) ?_
  refine own_to (T' := T120) (mkF m 41 #[rv b, iv 3] [(.int (255 : Int32)), (.int ((x1 >>> ((0 : Int32) &&& 31)).toInt8.toInt32))]) (fun _ k => XS.sipush X120.here hx rfl (hb hby own_d_jdk_52_method_5_38) k) ?_
  refine own_to (T' := T120) (mkF m 42 #[rv b, iv 3] [(.int (((x1 >>> ((0 : Int32) &&& 31)).toInt8.toInt32) &&& (255 : Int32)))]) (fun _ k => XS.iand X120.here hx rfl (hb hby own_d_jdk_52_method_5_41) rfl k) ?_
  obtain ⟨T122, X122, e122, st122⟩ := getS2 X120 hx hZ hown (host := "") (Or.inl (hw _ (List.mem_of_getElem? (i := 83) rfl))) Via.refl e120 (OHI.ext OL.2) (g := (mkF m 42 #[rv b, iv 3] [(.int (((x1 >>> ((0 : Int32) &&& 31)).toInt8.toInt32) &&& (255 : Int32)))])) rfl (hb hby own_d_jdk_52_method_5_42)
  refine own_to (mkF m 45 #[rv b, iv 3] [(.int (0 : Int32)), (.int (((x1 >>> ((0 : Int32) &&& 31)).toInt8.toInt32) &&& (255 : Int32)))]) st122 ?_
  refine own_to (T' := T122) (mkF m 46 #[rv b, iv 3] [(.int ((((x1 >>> ((0 : Int32) &&& 31)).toInt8.toInt32) &&& (255 : Int32)) <<< ((0 : Int32) &&& 31)))]) (fun _ k => XS.ishl X122.here hx rfl (hb hby own_d_jdk_52_method_5_45) rfl k) ?_
  refine own_to (T' := T122) (mkF m 47 #[rv b, iv 3] [(.ref b), (.int ((((x1 >>> ((0 : Int32) &&& 31)).toInt8.toInt32) &&& (255 : Int32)) <<< ((0 : Int32) &&& 31)))]) (fun _ k => XS.aloadN X122.here hx rfl (hb hby own_d_jdk_52_method_5_46) rfl rfl k) ?_
  refine own_to (T' := T122) (mkF m 48 #[rv b, iv 3] [(.int (3 : Int32)), (.ref b), (.int ((((x1 >>> ((0 : Int32) &&& 31)).toInt8.toInt32) &&& (255 : Int32)) <<< ((0 : Int32) &&& 31)))]) (fun _ k => XS.iloadN X122.here hx rfl (hb hby own_d_jdk_52_method_5_47) rfl k) ?_
  obtain ⟨cl123, Ar123, -, S123, -, H123, -⟩ := id Vb
  refine own_to (mkF m 49 #[rv b, iv 3] [(.int ((x1 >>> ((8 : Int32) &&& 31)).toInt8.toInt32)), (.int ((((x1 >>> ((0 : Int32) &&& 31)).toInt8.toInt32) &&& (255 : Int32)) <<< ((0 : Int32) &&& 31)))]) (X122.baloadBytes hx (j := (3 : Int32)) (v := (.int ((x1 >>> ((8 : Int32) &&& 31)).toInt8.toInt32))) (by rw [e122]; exact Ar123.1) (State.isArrayOf_alike hZ.alike Ar123.2.1) Ar123.2.2 (inb_of S123 ⟨by decide, by decide⟩) (H123.at (inb_of S123 ⟨by decide, by decide⟩) rfl) (g := (mkF m 48 #[rv b, iv 3] [(.int (3 : Int32)), (.ref b), (.int ((((x1 >>> ((0 : Int32) &&& 31)).toInt8.toInt32) &&& (255 : Int32)) <<< ((0 : Int32) &&& 31)))])) rfl rfl (hb hby own_d_jdk_52_method_5_48)) ?_
  refine own_to (T' := T122) (mkF m 52 #[rv b, iv 3] [(.int (255 : Int32)), (.int ((x1 >>> ((8 : Int32) &&& 31)).toInt8.toInt32)), (.int ((((x1 >>> ((0 : Int32) &&& 31)).toInt8.toInt32) &&& (255 : Int32)) <<< ((0 : Int32) &&& 31)))]) (fun _ k => XS.sipush X122.here hx rfl (hb hby own_d_jdk_52_method_5_49) k) ?_
  refine own_to (T' := T122) (mkF m 53 #[rv b, iv 3] [(.int (((x1 >>> ((8 : Int32) &&& 31)).toInt8.toInt32) &&& (255 : Int32))), (.int ((((x1 >>> ((0 : Int32) &&& 31)).toInt8.toInt32) &&& (255 : Int32)) <<< ((0 : Int32) &&& 31)))]) (fun _ k => XS.iand X122.here hx rfl (hb hby own_d_jdk_52_method_5_52) rfl k) ?_
  obtain ⟨T124, X124, e124, st124⟩ := getS2 X122 hx hZ hown (host := "") (Or.inl (hw _ (List.mem_of_getElem? (i := 84) rfl))) Via.refl e122 (OLO.ext OL.2) (g := (mkF m 53 #[rv b, iv 3] [(.int (((x1 >>> ((8 : Int32) &&& 31)).toInt8.toInt32) &&& (255 : Int32))), (.int ((((x1 >>> ((0 : Int32) &&& 31)).toInt8.toInt32) &&& (255 : Int32)) <<< ((0 : Int32) &&& 31)))])) rfl (hb hby own_d_jdk_52_method_5_53)
  refine own_to (mkF m 56 #[rv b, iv 3] [(.int (8 : Int32)), (.int (((x1 >>> ((8 : Int32) &&& 31)).toInt8.toInt32) &&& (255 : Int32))), (.int ((((x1 >>> ((0 : Int32) &&& 31)).toInt8.toInt32) &&& (255 : Int32)) <<< ((0 : Int32) &&& 31)))]) st124 ?_
  refine own_to (T' := T124) (mkF m 57 #[rv b, iv 3] [(.int ((((x1 >>> ((8 : Int32) &&& 31)).toInt8.toInt32) &&& (255 : Int32)) <<< ((8 : Int32) &&& 31))), (.int ((((x1 >>> ((0 : Int32) &&& 31)).toInt8.toInt32) &&& (255 : Int32)) <<< ((0 : Int32) &&& 31)))]) (fun _ k => XS.ishl X124.here hx rfl (hb hby own_d_jdk_52_method_5_56) rfl k) ?_
  refine own_to (T' := T124) (mkF m 58 #[rv b, iv 3] [(.int (((((x1 >>> ((0 : Int32) &&& 31)).toInt8.toInt32) &&& (255 : Int32)) <<< ((0 : Int32) &&& 31)) ||| ((((x1 >>> ((8 : Int32) &&& 31)).toInt8.toInt32) &&& (255 : Int32)) <<< ((8 : Int32) &&& 31))))]) (fun _ k => XS.ior X124.here hx rfl (hb hby own_d_jdk_52_method_5_57) rfl k) ?_
  refine own_to (T' := T124) (mkF m 59 #[rv b, iv 3] [(.int ((((((x1 >>> ((0 : Int32) &&& 31)).toInt8.toInt32) &&& (255 : Int32)) <<< ((0 : Int32) &&& 31)) ||| ((((x1 >>> ((8 : Int32) &&& 31)).toInt8.toInt32) &&& (255 : Int32)) <<< ((8 : Int32) &&& 31))).toUInt32.toUInt16.toUInt32.toInt32))]) (fun _ k => XS.i2c X124.here hx rfl (hb hby own_d_jdk_52_method_5_58) rfl k) ?_
  exact own_retN X124 hx (t := .char) Bd.returns (by simp) hlk (hb hby own_d_jdk_52_method_5_59) (by decide) (by decide) (by rw [e124]; exact ⟨by rw [own_hi hx1, own_nar16 hx1], N0, rfl⟩)
def own_QGC_3_2 (Z : State) (x0 x1 x2 : Int32) (G1 : Int32) (b : Addr) (kb : ClassId) (h0 : Heap) (n0 : Nat) (v : Option Value) (h : Heap) (L : List Loc) : Prop := v = some (.int x2) ∧ Fr n0 L ∧ h = h0
set_option maxRecDepth 65536 in
set_option maxHeartbeats 40000000 in
theorem own_rmGC_3_2 (l : Launch) (Z : State) (a0 : Array Value) (hw : ∀ d ∈ tables_1, d.before a0 Z = true) (ws : List Jvm.Cond) (x0 x1 x2 : Int32) (G1 : Int32) (b : Addr) (kb : ClassId) (h0 : Heap) (n0 : Nat) (Z0 : n0 ≤ h0.size) (OL : Old Z n0 h0) (hx2 : own_C16 x2) (Vb : Arv Z h0 b kb .byte (6 : Int32) [(.int ((x0 >>> ((0 : Int32) &&& 31)).toInt8.toInt32)), (.int ((x0 >>> ((8 : Int32) &&& 31)).toInt8.toInt32)), (.int ((x1 >>> ((0 : Int32) &&& 31)).toInt8.toInt32)), (.int ((x1 >>> ((8 : Int32) &&& 31)).toInt8.toInt32)), (.int ((x2 >>> ((0 : Int32) &&& 31)).toInt8.toInt32)), (.int ((x2 >>> ((8 : Int32) &&& 31)).toInt8.toInt32))] (.int (0 : Int32))) (O2 : Sta Z Z.heap "java/lang/String" "COMPACT_STRINGS" "Z" (.int G1)) (P5 : ¬ (G1 = (0 : Int32))) (OAD : Sta Z Z.heap "java/lang/StringUTF16" "$assertionsDisabled" "Z" (.int (1 : Int32))) (OHI : Sta Z Z.heap "java/lang/StringUTF16" "HI_BYTE_SHIFT" "I" (.int (0 : Int32))) (OLO : Sta Z Z.heap "java/lang/StringUTF16" "LO_BYTE_SHIFT" "I" (.int (8 : Int32))) :
    MetFree l (⟨"java/lang/StringUTF16", "getChar", "([BI)C"⟩ : MethodName) (head1 (Jvm.Cond.code (⟨"java/lang/StringUTF16", "getChar", "([BI)C"⟩ : MethodName) jdk_52_method_5_code 2 (some .char) :: ws) ({ frames := 0, cells := 0, slots := 0, locals := 0 } : Room)) (fun aa_ U => aa_ = #[(.ref b), (.int (2 : Int32))] ∧ Z.Warmed39 U.vm ∧ U.heap = h0) (fun _ _ _ _ _ => True) (fun _ U o U' => ∃ v L, o = .returned v ∧ own_QGC_3_2 Z x0 x1 x2 G1 b kb h0 n0 v U'.heap L ∧ FrameEnd U o U' L ({ frames := 0, cells := 0, slots := 0, locals := 0 } : Room).cells ({ frames := 0, cells := 0, slots := 0, locals := 0 } : Room).slots) := by
  refine MetFree.of_bodySF (plainFor_of_name own_pn0) hisR ?_
  intro p e s m args below meth c s₁ Bd hml0 hP hK
  obtain ⟨rfl, hZ, hh⟩ := hP
  have hx := Bd.exec
  have hby := Bd.bytes
  have hlk : meth.locks = false := BodyLoose.notSynchronized Bd
  have hml : c.maxLocals = 2 := hml0
  have hown : s.vm.findClass "java/lang/StringUTF16" = some m.cls := findClass_of_methodNamed Bd.named
  have hnm := (name_of_methodNamed Bd.named Bd.method).1
  have X0 : Stand p l e ({ frames := 0, cells := 0, slots := 0, locals := 0 } : Room) s m #[(.ref b), (.int (2 : Int32))] below meth c s₁ [] 0 0 := Stand.of_body Bd
  have e0 : s₁.heap = h0 := by rw [← hh, Bd.state]; rfl
  have N0 := Fr.nil n0
  have KP : Keep h0 h0 [] := Keep.refl _ _
  refine own_start (Fin := (own_Fin s (own_QGC_3_2 Z x0 x1 x2 G1 b kb h0 n0) ({ frames := 0, cells := 0, slots := 0, locals := 0 } : Room).cells ({ frames := 0, cells := 0, slots := 0, locals := 0 } : Room).slots)) (own_from (mkF m 0 #[rv b, iv 2] []) (castTop (own_ef_GC_3_2 m b (2 : Int32))) ?_)
  obtain ⟨T125, X125, e125, st125⟩ := getS2 X0 hx hZ hown (host := "") (Or.inl (hw _ (List.mem_of_getElem? (i := 82) rfl))) Via.refl e0 (OAD.ext OL.2) (g := (mkF m 0 #[rv b, iv 2] [])) rfl (hb hby own_d_jdk_52_method_5_0)
  refine own_to (mkF m 3 #[rv b, iv 2] [(.int (1 : Int32))]) st125 ?_
  refine own_to (T' := T125) (mkF m 28 #[rv b, iv 2] []) (fun _ k => XS.ifYes X125.here hx rfl (pc0 := 3) (pc' := 28) rfl (hb hby own_d_jdk_52_method_5_3) rfl ((if0 _ _).trans (feq (by decide : ¬ ((1 : Int32) = (0 : Int32)))).2) (by decide) (by decide) k) ?_
  refine own_to (T' := T125) (mkF m 29 #[rv b, iv 2] [(.int (2 : Int32))]) (fun _ k => XS.iloadN X125.here hx rfl (hb hby own_d_jdk_52_method_5_28) rfl k) ?_
  refine own_to (T' := T125) (mkF m 30 #[rv b, iv 2] [(.int (1 : Int32)), (.int (2 : Int32))]) (fun _ k => XS.iconst X125.here hx rfl (hb hby own_d_jdk_52_method_5_29) k) ?_
  refine own_to (T' := T125) (mkF m 31 #[rv b, iv 2] [(.int (4 : Int32))]) (fun _ k => XS.ishl X125.here hx rfl (hb hby own_d_jdk_52_method_5_30) rfl k) ?_
  refine own_to (T' := T125) (mkF m 32 #[rv b, iv 4] []) (fun _ k => XS.istoreN X125.here hx rfl (hb hby own_d_jdk_52_method_5_31) rfl (l' := #[rv b, iv 4]) rfl k) ?_
  refine own_to (T' := T125) (mkF m 33 #[rv b, iv 4] [(.ref b)]) (fun _ k => XS.aloadN X125.here hx rfl (hb hby own_d_jdk_52_method_5_32) rfl rfl k) ?_
  refine own_to (T' := T125) (mkF m 34 #[rv b, iv 4] [(.int (4 : Int32)), (.ref b)]) (fun _ k => XS.iloadN X125.here hx rfl (hb hby own_d_jdk_52_method_5_33) rfl k) ?_
  refine own_to (T' := T125) (mkF m 37 #[rv b, iv 5] [(.int (4 : Int32)), (.ref b)]) (fun _ k => XS.iinc X125.here hx rfl (hb hby own_d_jdk_52_method_5_34) rfl (l' := #[rv b, iv 5]) rfl k) ?_
  obtain ⟨cl126, Ar126, -, S126, -, H126, -⟩ := id Vb
  refine own_to (mkF m 38 #[rv b, iv 5] [(.int ((x2 >>> ((0 : Int32) &&& 31)).toInt8.toInt32))]) (X125.baloadBytes hx (j := (4 : Int32)) (v := (.int ((x2 >>> ((0 : Int32) &&& 31)).toInt8.toInt32))) (by rw [e125]; exact Ar126.1) (State.isArrayOf_alike hZ.alike Ar126.2.1) Ar126.2.2 (inb_of S126 ⟨by decide, by decide⟩) (H126.at (inb_of S126 ⟨by decide, by decide⟩) rfl) (g := (mkF m 37 #[rv b, iv 5] [(.int (4 : Int32)), (.ref b)])) rfl rfl (hb hby own_d_jdk_52_method_5_37)) ?_
  refine own_to (T' := T125) (mkF m 41 #[rv b, iv 5] [(.int (255 : Int32)), (.int ((x2 >>> ((0 : Int32) &&& 31)).toInt8.toInt32))]) (fun _ k => XS.sipush X125.here hx rfl (hb hby own_d_jdk_52_method_5_38) k) ?_
  refine own_to (T' := T125) (mkF m 42 #[rv b, iv 5] [(.int (((x2 >>> ((0 : Int32) &&& 31)).toInt8.toInt32) &&& (255 : Int32)))]) (fun _ k => XS.iand X125.here hx rfl (hb hby own_d_jdk_52_method_5_41) rfl k) ?_
  obtain ⟨T127, X127, e127, st127⟩ := getS2 X125 hx hZ hown (host := "") (Or.inl (hw _ (List.mem_of_getElem? (i := 83) rfl))) Via.refl e125 (OHI.ext OL.2) (g := (mkF m 42 #[rv b, iv 5] [(.int (((x2 >>> ((0 : Int32) &&& 31)).toInt8.toInt32) &&& (255 : Int32)))])) rfl (hb hby own_d_jdk_52_method_5_42)
  refine own_to (mkF m 45 #[rv b, iv 5] [(.int (0 : Int32)), (.int (((x2 >>> ((0 : Int32) &&& 31)).toInt8.toInt32) &&& (255 : Int32)))]) st127 ?_
  refine own_to (T' := T127) (mkF m 46 #[rv b, iv 5] [(.int ((((x2 >>> ((0 : Int32) &&& 31)).toInt8.toInt32) &&& (255 : Int32)) <<< ((0 : Int32) &&& 31)))]) (fun _ k => XS.ishl X127.here hx rfl (hb hby own_d_jdk_52_method_5_45) rfl k) ?_
  refine own_to (T' := T127) (mkF m 47 #[rv b, iv 5] [(.ref b), (.int ((((x2 >>> ((0 : Int32) &&& 31)).toInt8.toInt32) &&& (255 : Int32)) <<< ((0 : Int32) &&& 31)))]) (fun _ k => XS.aloadN X127.here hx rfl (hb hby own_d_jdk_52_method_5_46) rfl rfl k) ?_
  refine own_to (T' := T127) (mkF m 48 #[rv b, iv 5] [(.int (5 : Int32)), (.ref b), (.int ((((x2 >>> ((0 : Int32) &&& 31)).toInt8.toInt32) &&& (255 : Int32)) <<< ((0 : Int32) &&& 31)))]) (fun _ k => XS.iloadN X127.here hx rfl (hb hby own_d_jdk_52_method_5_47) rfl k) ?_
  obtain ⟨cl128, Ar128, -, S128, -, H128, -⟩ := id Vb
  refine own_to (mkF m 49 #[rv b, iv 5] [(.int ((x2 >>> ((8 : Int32) &&& 31)).toInt8.toInt32)), (.int ((((x2 >>> ((0 : Int32) &&& 31)).toInt8.toInt32) &&& (255 : Int32)) <<< ((0 : Int32) &&& 31)))]) (X127.baloadBytes hx (j := (5 : Int32)) (v := (.int ((x2 >>> ((8 : Int32) &&& 31)).toInt8.toInt32))) (by rw [e127]; exact Ar128.1) (State.isArrayOf_alike hZ.alike Ar128.2.1) Ar128.2.2 (inb_of S128 ⟨by decide, by decide⟩) (H128.at (inb_of S128 ⟨by decide, by decide⟩) rfl) (g := (mkF m 48 #[rv b, iv 5] [(.int (5 : Int32)), (.ref b), (.int ((((x2 >>> ((0 : Int32) &&& 31)).toInt8.toInt32) &&& (255 : Int32)) <<< ((0 : Int32) &&& 31)))])) rfl rfl (hb hby own_d_jdk_52_method_5_48)) ?_
  refine own_to (T' := T127) (mkF m 52 #[rv b, iv 5] [(.int (255 : Int32)), (.int ((x2 >>> ((8 : Int32) &&& 31)).toInt8.toInt32)), (.int ((((x2 >>> ((0 : Int32) &&& 31)).toInt8.toInt32) &&& (255 : Int32)) <<< ((0 : Int32) &&& 31)))]) (fun _ k => XS.sipush X127.here hx rfl (hb hby own_d_jdk_52_method_5_49) k) ?_
  refine own_to (T' := T127) (mkF m 53 #[rv b, iv 5] [(.int (((x2 >>> ((8 : Int32) &&& 31)).toInt8.toInt32) &&& (255 : Int32))), (.int ((((x2 >>> ((0 : Int32) &&& 31)).toInt8.toInt32) &&& (255 : Int32)) <<< ((0 : Int32) &&& 31)))]) (fun _ k => XS.iand X127.here hx rfl (hb hby own_d_jdk_52_method_5_52) rfl k) ?_
  obtain ⟨T129, X129, e129, st129⟩ := getS2 X127 hx hZ hown (host := "") (Or.inl (hw _ (List.mem_of_getElem? (i := 84) rfl))) Via.refl e127 (OLO.ext OL.2) (g := (mkF m 53 #[rv b, iv 5] [(.int (((x2 >>> ((8 : Int32) &&& 31)).toInt8.toInt32) &&& (255 : Int32))), (.int ((((x2 >>> ((0 : Int32) &&& 31)).toInt8.toInt32) &&& (255 : Int32)) <<< ((0 : Int32) &&& 31)))])) rfl (hb hby own_d_jdk_52_method_5_53)
  refine own_to (mkF m 56 #[rv b, iv 5] [(.int (8 : Int32)), (.int (((x2 >>> ((8 : Int32) &&& 31)).toInt8.toInt32) &&& (255 : Int32))), (.int ((((x2 >>> ((0 : Int32) &&& 31)).toInt8.toInt32) &&& (255 : Int32)) <<< ((0 : Int32) &&& 31)))]) st129 ?_
  refine own_to (T' := T129) (mkF m 57 #[rv b, iv 5] [(.int ((((x2 >>> ((8 : Int32) &&& 31)).toInt8.toInt32) &&& (255 : Int32)) <<< ((8 : Int32) &&& 31))), (.int ((((x2 >>> ((0 : Int32) &&& 31)).toInt8.toInt32) &&& (255 : Int32)) <<< ((0 : Int32) &&& 31)))]) (fun _ k => XS.ishl X129.here hx rfl (hb hby own_d_jdk_52_method_5_56) rfl k) ?_
  refine own_to (T' := T129) (mkF m 58 #[rv b, iv 5] [(.int (((((x2 >>> ((0 : Int32) &&& 31)).toInt8.toInt32) &&& (255 : Int32)) <<< ((0 : Int32) &&& 31)) ||| ((((x2 >>> ((8 : Int32) &&& 31)).toInt8.toInt32) &&& (255 : Int32)) <<< ((8 : Int32) &&& 31))))]) (fun _ k => XS.ior X129.here hx rfl (hb hby own_d_jdk_52_method_5_57) rfl k) ?_
  refine own_to (T' := T129) (mkF m 59 #[rv b, iv 5] [(.int ((((((x2 >>> ((0 : Int32) &&& 31)).toInt8.toInt32) &&& (255 : Int32)) <<< ((0 : Int32) &&& 31)) ||| ((((x2 >>> ((8 : Int32) &&& 31)).toInt8.toInt32) &&& (255 : Int32)) <<< ((8 : Int32) &&& 31))).toUInt32.toUInt16.toUInt32.toInt32))]) (fun _ k => XS.i2c X129.here hx rfl (hb hby own_d_jdk_52_method_5_58) rfl k) ?_
  exact own_retN X129 hx (t := .char) Bd.returns (by simp) hlk (hb hby own_d_jdk_52_method_5_59) (by decide) (by decide) (by rw [e129]; exact ⟨by rw [own_hi hx2, own_nar16 hx2], N0, rfl⟩)
def own_QC3_3 (Z : State) (x0 x1 x2 : Int32) (G1 : Int32) (a : Addr) (ka : ClassId) (h0 : Heap) (n0 : Nat) (v : Option Value) (h : Heap) (L : List Loc) : Prop := ∃ (b : Addr) (kb : ClassId), v = some (.ref b) ∧ Fr n0 L ∧ Keep h0 h [] ∧ n0 ≤ b ∧ h0.size ≤ b ∧ ((¬ ((255 : Int32) < x0) ∧ ¬ ((255 : Int32) < x1) ∧ ¬ ((255 : Int32) < x2) ∧ Arv Z h b kb .byte (3 : Int32) [(.int (x0.toInt8.toInt32)), (.int (x1.toInt8.toInt32)), (.int (x2.toInt8.toInt32))] (.int (0 : Int32))) ∨ Arv Z h b kb .byte (6 : Int32) [(.int ((x0 >>> ((0 : Int32) &&& 31)).toInt8.toInt32)), (.int ((x0 >>> ((8 : Int32) &&& 31)).toInt8.toInt32)), (.int ((x1 >>> ((0 : Int32) &&& 31)).toInt8.toInt32)), (.int ((x1 >>> ((8 : Int32) &&& 31)).toInt8.toInt32)), (.int ((x2 >>> ((0 : Int32) &&& 31)).toInt8.toInt32)), (.int ((x2 >>> ((8 : Int32) &&& 31)).toInt8.toInt32))] (.int (0 : Int32)))
set_option maxRecDepth 65536 in
set_option maxHeartbeats 40000000 in
theorem own_rmC3_3 (l : Launch) (Z : State) (a0 : Array Value) (hw : ∀ d ∈ tables_1, d.before a0 Z = true) (ws : List Jvm.Cond) (x0 x1 x2 : Int32) (G1 : Int32) (a : Addr) (ka : ClassId) (h0 : Heap) (n0 : Nat) (Z0 : n0 ≤ h0.size) (OL : Old Z n0 h0) (hx0 : own_C16 x0) (hx1 : own_C16 x1) (hx2 : own_C16 x2) (Va : Arv Z h0 a ka .char (3 : Int32) [(.int x0), (.int x1), (.int x2)] (.int (0 : Int32))) (O2 : Sta Z Z.heap "java/lang/String" "COMPACT_STRINGS" "Z" (.int G1)) (P5 : ¬ (G1 = (0 : Int32))) (OAD : Sta Z Z.heap "java/lang/StringUTF16" "$assertionsDisabled" "Z" (.int (1 : Int32))) (OHI : Sta Z Z.heap "java/lang/StringUTF16" "HI_BYTE_SHIFT" "I" (.int (0 : Int32))) (OLO : Sta Z Z.heap "java/lang/StringUTF16" "LO_BYTE_SHIFT" "I" (.int (8 : Int32))) :
    MetFree l (⟨"java/lang/StringUTF16", "compress", "([CII)[B"⟩ : MethodName) (head1 (Jvm.Cond.code (⟨"java/lang/StringUTF16", "compress", "([CII)[B"⟩ : MethodName) jdk_52_method_16_code 6 (some (.array .byte)) :: ws) ({ frames := 3, cells := 2, slots := 9, locals := 70 } : Room)) (fun aa_ U => aa_ = #[(.ref a), (.int (0 : Int32)), (.int (3 : Int32))] ∧ Z.Warmed39 U.vm ∧ U.heap = h0) (fun _ _ _ _ _ => True) (fun _ U o U' => ∃ v L, o = .returned v ∧ own_QC3_3 Z x0 x1 x2 G1 a ka h0 n0 v U'.heap L ∧ FrameEnd U o U' L ({ frames := 3, cells := 2, slots := 9, locals := 70 } : Room).cells ({ frames := 3, cells := 2, slots := 9, locals := 70 } : Room).slots) := by
  refine MetFree.of_bodySF (plainFor_of_name own_pn0) hisR ?_
  intro p e s m args below meth c s₁ Bd hml0 hP hK
  obtain ⟨rfl, hZ, hh⟩ := hP
  have hx := Bd.exec
  have hby := Bd.bytes
  have hlk : meth.locks = false := BodyLoose.notSynchronized Bd
  have hml : c.maxLocals = 6 := hml0
  have hown : s.vm.findClass "java/lang/StringUTF16" = some m.cls := findClass_of_methodNamed Bd.named
  have hnm := (name_of_methodNamed Bd.named Bd.method).1
  have X0 : Stand p l e ({ frames := 3, cells := 2, slots := 9, locals := 70 } : Room) s m #[(.ref a), (.int (0 : Int32)), (.int (3 : Int32))] below meth c s₁ [] 0 0 := Stand.of_body Bd
  have e0 : s₁.heap = h0 := by rw [← hh, Bd.state]; rfl
  have N0 := Fr.nil n0
  have KP : Keep h0 h0 [] := Keep.refl _ _
  refine own_start (Fin := (own_Fin s (own_QC3_3 Z x0 x1 x2 G1 a ka h0 n0) ({ frames := 3, cells := 2, slots := 9, locals := 70 } : Room).cells ({ frames := 3, cells := 2, slots := 9, locals := 70 } : Room).slots)) (own_from (mkF m 0 #[rv a, iv 0, iv 3, .unset, .unset, .unset] []) (castTop (own_ef_C3_3 m a (0 : Int32) (3 : Int32))) ?_)
  refine own_to (T' := s₁) (mkF m 1 #[rv a, iv 0, iv 3, .unset, .unset, .unset] [(.int (3 : Int32))]) (fun _ k => XS.iloadN X0.here hx rfl (hb hby own_d_jdk_52_method_16_0) rfl k) ?_
  obtain ⟨T130, h130, k130, X130, e130, E130, A130, B130, st130⟩ := newPE X0 hx hZ (hw _ (List.mem_of_getElem? (i := 20) rfl)) e0 (g := (mkF m 1 #[rv a, iv 0, iv 3, .unset, .unset, .unset] [(.int (3 : Int32))])) rfl (hb hby own_d_jdk_52_method_16_1) rfl (by decide) (cap := 3) (by decide) (by decide) (by decide) (by decide) (ad := "[B") (by decide)
  obtain ⟨b130, g130⟩ : ∃ z, z = h0.size := ⟨_, rfl⟩
  rw [← g130] at A130 B130 st130
  have sz_b130 : h0.size ≤ b130 := Nat.le_trans KP.1 (Nat.le_of_eq g130.symm)
  have ge_b130 : n0 ≤ b130 := Nat.le_trans Z0 sz_b130
  have ne_a_b130 : a ≠ b130 := Nat.ne_of_lt (Nat.lt_of_lt_of_le Va.lt (Nat.le_of_eq g130.symm))
  have OL := OL.ext E130
  have KP := KP.ext E130
  have Va := Va.ext E130
  have V_b130 : Arv Z h130 b130 k130 .byte (3 : Int32) [(.int (0 : Int32)), (.int (0 : Int32)), (.int (0 : Int32))] (.int (0 : Int32)) := (Arv.new A130 (by decide)).pad (pad_rep [] (.int (0 : Int32)) 3)
  refine own_to (mkF m 3 #[rv a, iv 0, iv 3, .unset, .unset, .unset] [(.ref b130)]) st130 ?_
  refine own_to (T' := T130) (mkF m 4 #[rv a, iv 0, iv 3, rv b130, .unset, .unset] []) (fun _ k => XS.astoreN X130.here hx rfl (hb hby own_d_jdk_52_method_16_3) rfl rfl (l' := #[rv a, iv 0, iv 3, rv b130, .unset, .unset]) rfl k) ?_
  refine own_to (T' := T130) (mkF m 5 #[rv a, iv 0, iv 3, rv b130, .unset, .unset] [(.ref a)]) (fun _ k => XS.aloadN X130.here hx rfl (hb hby own_d_jdk_52_method_16_4) rfl rfl k) ?_
  refine own_to (T' := T130) (mkF m 6 #[rv a, iv 0, iv 3, rv b130, .unset, .unset] [(.int (0 : Int32)), (.ref a)]) (fun _ k => XS.iloadN X130.here hx rfl (hb hby own_d_jdk_52_method_16_5) rfl k) ?_
  refine own_to (T' := T130) (mkF m 7 #[rv a, iv 0, iv 3, rv b130, .unset, .unset] [(.ref b130), (.int (0 : Int32)), (.ref a)]) (fun _ k => XS.aloadN X130.here hx rfl (hb hby own_d_jdk_52_method_16_6) rfl rfl k) ?_
  refine own_to (T' := T130) (mkF m 8 #[rv a, iv 0, iv 3, rv b130, .unset, .unset] [(.int (0 : Int32)), (.ref b130), (.int (0 : Int32)), (.ref a)]) (fun _ k => XS.iconst X130.here hx rfl (hb hby own_d_jdk_52_method_16_7) k) ?_
  refine own_to (T' := T130) (mkF m 9 #[rv a, iv 0, iv 3, rv b130, .unset, .unset] [(.int (3 : Int32)), (.int (0 : Int32)), (.ref b130), (.int (0 : Int32)), (.ref a)]) (fun _ k => XS.iloadN X130.here hx rfl (hb hby own_d_jdk_52_method_16_8) rfl k) ?_
  obtain ⟨_, _, ⟨T131, L131, k131, n131⟩, -, X131, ⟨Lc131, hQ131, l131, y131, z131⟩, st131⟩ := Jvm.LawKit.callS X130 hx (y := (⟨"java/lang/StringUTF16", "compress", "([CI[BII)I"⟩ : MethodName)) hown (mvT hZ (hw _ (List.mem_of_getElem? (i := 21) rfl))) (mvT hZ (hw _ (List.mem_of_getElem? (i := 22) rfl))) (mvT hZ (hw _ (List.mem_of_getElem? (i := 18) rfl))) (mvT hZ (hw _ (List.mem_of_getElem? (i := 23) rfl))) (by decide) (backOf (W := 0) (own_rmC5_3 l Z a0 hw [] x0 x1 x2 a ka b130 k130 h130 n0 (Nat.le_trans Z0 KP.1) OL ne_a_b130 ge_b130 Va V_b130) hZ (hw _ (List.mem_of_getElem? (i := 23) rfl)) (hw _ (List.mem_of_getElem? (i := 18) rfl)) (by decide) (by decide)) (g := (mkF m 9 #[rv a, iv 0, iv 3, rv b130, .unset, .unset] [(.int (3 : Int32)), (.int (0 : Int32)), (.ref b130), (.int (0 : Int32)), (.ref a)])) rfl (by rw [hml]; rfl) (argsL := [(.ref a), (.int (0 : Int32)), (.ref b130), (.int (0 : Int32)), (.int (3 : Int32))]) (rest := []) (lenOf own_pd3 rfl) rfl (by show 2 * 0 + _ ≤ _; exact Nat.le_of_eq rfl) (hb hby own_d_jdk_52_method_16_9) (fun _ _ => ⟨rfl, e130, (by decide : 1 + 0 ≤ _), (by decide : 3 + 0 ≤ _)⟩)
  dsimp only [Pt.U, Pt.locs, Pt.cells, Pt.slots] at X131 l131 y131 z131 st131 hQ131
  subst l131 y131 z131
  obtain ⟨N131q, K131, hor131⟩ := hQ131
  have N131 := Fr.app N0 N131q
  have OL := OL.keep K131 (allS ge_b130 all0)
  have KP := KP.trans K131 (allS (Or.inr sz_b130) all0)
  have Va := Va.keep K131 (ninS ne_a_b130 nin0)
  rcases hor131 with ⟨rfl, hg0, hg1, hg2, Vg⟩ | ⟨rfl, hbad⟩ | ⟨rfl, hbad⟩ | ⟨rfl, hbad⟩
  · refine own_to (mkF m 12 #[rv a, iv 0, iv 3, rv b130, .unset, .unset] [(.int (3 : Int32))]) st131 ?_
    refine own_to (T' := T131) (mkF m 14 #[rv a, iv 0, iv 3, rv b130, iv 3, .unset] []) (fun _ k => XS.istore X131.here hx rfl (hb hby own_d_jdk_52_method_16_12) rfl (l' := #[rv a, iv 0, iv 3, rv b130, iv 3, .unset]) rfl k) ?_
    refine own_to (T' := T131) (mkF m 16 #[rv a, iv 0, iv 3, rv b130, iv 3, .unset] [(.int (3 : Int32))]) (fun _ k => XS.iload X131.here hx rfl (hb hby own_d_jdk_52_method_16_14) rfl k) ?_
    refine own_to (T' := T131) (mkF m 17 #[rv a, iv 0, iv 3, rv b130, iv 3, .unset] [(.int (3 : Int32)), (.int (3 : Int32))]) (fun _ k => XS.iloadN X131.here hx rfl (hb hby own_d_jdk_52_method_16_16) rfl k) ?_
    refine own_to (T' := T131) (mkF m 57 #[rv a, iv 0, iv 3, rv b130, iv 3, .unset] []) (fun _ k => XS.icmpYes X131.here hx rfl (pc0 := 17) (pc' := 57) rfl (hb hby own_d_jdk_52_method_16_17) rfl (teq (by decide : (3 : Int32) = (3 : Int32))).1 (by decide) (by decide) k) ?_
    refine own_to (T' := T131) (mkF m 58 #[rv a, iv 0, iv 3, rv b130, iv 3, .unset] [(.ref b130)]) (fun _ k => XS.aloadN X131.here hx rfl (hb hby own_d_jdk_52_method_16_57) rfl rfl k) ?_
    exact own_retA X131 hx Bd.returns rfl hlk (hb hby own_d_jdk_52_method_16_58) rfl (by decide) (by decide) (by exact ⟨b130, k130, rfl, N131, KP, ge_b130, sz_b130, Or.inl ⟨hg0, hg1, hg2, Vg⟩⟩)
  · refine own_to (mkF m 12 #[rv a, iv 0, iv 3, rv b130, .unset, .unset] [(.int (0 : Int32))]) st131 ?_
    refine own_to (T' := T131) (mkF m 14 #[rv a, iv 0, iv 3, rv b130, iv 0, .unset] []) (fun _ k => XS.istore X131.here hx rfl (hb hby own_d_jdk_52_method_16_12) rfl (l' := #[rv a, iv 0, iv 3, rv b130, iv 0, .unset]) rfl k) ?_
    refine own_to (T' := T131) (mkF m 16 #[rv a, iv 0, iv 3, rv b130, iv 0, .unset] [(.int (0 : Int32))]) (fun _ k => XS.iload X131.here hx rfl (hb hby own_d_jdk_52_method_16_14) rfl k) ?_
    refine own_to (T' := T131) (mkF m 17 #[rv a, iv 0, iv 3, rv b130, iv 0, .unset] [(.int (3 : Int32)), (.int (0 : Int32))]) (fun _ k => XS.iloadN X131.here hx rfl (hb hby own_d_jdk_52_method_16_16) rfl k) ?_
    refine own_to (T' := T131) (mkF m 20 #[rv a, iv 0, iv 3, rv b130, iv 0, .unset] []) (fun _ k => XS.icmpNo X131.here hx rfl (hb hby own_d_jdk_52_method_16_17) rfl (feq (by decide : ¬ ((0 : Int32) = (3 : Int32)))).1 k) ?_
    refine own_to (T' := T131) (mkF m 21 #[rv a, iv 0, iv 3, rv b130, iv 0, .unset] [(.ref a)]) (fun _ k => XS.aloadN X131.here hx rfl (hb hby own_d_jdk_52_method_16_20) rfl rfl k) ?_
    refine own_to (T' := T131) (mkF m 22 #[rv a, iv 0, iv 3, rv b130, iv 0, .unset] [(.int (0 : Int32)), (.ref a)]) (fun _ k => XS.iloadN X131.here hx rfl (hb hby own_d_jdk_52_method_16_21) rfl k) ?_
    refine own_to (T' := T131) (mkF m 23 #[rv a, iv 0, iv 3, rv b130, iv 0, .unset] [(.int (3 : Int32)), (.int (0 : Int32)), (.ref a)]) (fun _ k => XS.iloadN X131.here hx rfl (hb hby own_d_jdk_52_method_16_22) rfl k) ?_
    have KP0 := KP
    have lt0_a := Va.lt
    obtain ⟨_, _, ⟨T132, L132, k132, n132⟩, -, X132, ⟨Lc132, hQ132, l132, y132, z132⟩, st132⟩ := Jvm.LawKit.callS X131 hx (y := (⟨"java/lang/StringUTF16", "toBytes", "([CII)[B"⟩ : MethodName)) hown (mvT hZ (hw _ (List.mem_of_getElem? (i := 69) rfl))) (mvT hZ (hw _ (List.mem_of_getElem? (i := 70) rfl))) (mvT hZ (hw _ (List.mem_of_getElem? (i := 18) rfl))) (mvT hZ (hw _ (List.mem_of_getElem? (i := 71) rfl))) (by decide) (backOf (W := 0) (own_rmTS_3 l Z a0 hw [] x0 x1 x2 G1 a ka T131.heap n0 (Nat.le_trans Z0 KP.1) OL Va O2 P5 OAD OHI OLO) hZ (hw _ (List.mem_of_getElem? (i := 71) rfl)) (hw _ (List.mem_of_getElem? (i := 18) rfl)) (by decide) (by decide)) (g := (mkF m 23 #[rv a, iv 0, iv 3, rv b130, iv 0, .unset] [(.int (3 : Int32)), (.int (0 : Int32)), (.ref a)])) rfl (by rw [hml]; rfl) (argsL := [(.ref a), (.int (0 : Int32)), (.int (3 : Int32))]) (rest := []) (lenOf own_pd4 rfl) rfl (by show 2 * 0 + _ ≤ _; exact Nat.le_of_eq rfl) (hb hby own_d_jdk_52_method_16_23) (fun _ _ => ⟨rfl, rfl, (by decide : 1 + 1 ≤ _), (by decide : 3 + 6 ≤ _)⟩)
    dsimp only [Pt.U, Pt.locs, Pt.cells, Pt.slots] at X132 l132 y132 z132 st132 hQ132
    subst l132 y132 z132
    obtain ⟨bu, kbu, rfl, N132q, K132, ge_bu, sz0_bu, Vu⟩ := hQ132
    have N132 := Fr.app N131 N132q
    have OL := OL.keep K132 all0
    have KP := KP.trans K132 all0
    have Va := Va.keep K132 nin0
    refine own_to (mkF m 26 #[rv a, iv 0, iv 3, rv b130, iv 0, .unset] [(.ref bu)]) st132 ?_
    have sz_bu : h0.size ≤ bu := Nat.le_trans KP0.1 sz0_bu
    have ne_a_bu : a ≠ bu := Nat.ne_of_lt (Nat.lt_of_lt_of_le lt0_a sz0_bu)
    refine own_to (T' := T132) (mkF m 28 #[rv a, iv 0, iv 3, rv b130, iv 0, rv bu] []) (fun _ k => XS.astore X132.here hx rfl (hb hby own_d_jdk_52_method_16_26) rfl rfl (l' := #[rv a, iv 0, iv 3, rv b130, iv 0, rv bu]) rfl k) ?_
    refine own_to (T' := T132) (mkF m 30 #[rv a, iv 0, iv 3, rv b130, iv 0, rv bu] [(.ref bu)]) (fun _ k => XS.aload X132.here hx rfl (hb hby own_d_jdk_52_method_16_28) rfl rfl k) ?_
    refine own_to (T' := T132) (mkF m 32 #[rv a, iv 0, iv 3, rv b130, iv 0, rv bu] [(.int (0 : Int32)), (.ref bu)]) (fun _ k => XS.iload X132.here hx rfl (hb hby own_d_jdk_52_method_16_30) rfl k) ?_
    obtain ⟨_, _, ⟨T133, L133, k133, n133⟩, -, X133, ⟨Lc133, hQ133, l133, y133, z133⟩, st133⟩ := Jvm.LawKit.callS X132 hx (y := (⟨"java/lang/StringUTF16", "getChar", "([BI)C"⟩ : MethodName)) hown (mvT hZ (hw _ (List.mem_of_getElem? (i := 85) rfl))) (mvT hZ (hw _ (List.mem_of_getElem? (i := 86) rfl))) (mvT hZ (hw _ (List.mem_of_getElem? (i := 18) rfl))) (mvT hZ (hw _ (List.mem_of_getElem? (i := 87) rfl))) (by decide) (backOf (W := 0) (own_rmGC_3_0 l Z a0 hw [] x0 x1 x2 G1 bu kbu T132.heap n0 (Nat.le_trans Z0 KP.1) OL hx0 Vu O2 P5 OAD OHI OLO) hZ (hw _ (List.mem_of_getElem? (i := 87) rfl)) (hw _ (List.mem_of_getElem? (i := 18) rfl)) (by decide) (by decide)) (g := (mkF m 32 #[rv a, iv 0, iv 3, rv b130, iv 0, rv bu] [(.int (0 : Int32)), (.ref bu)])) rfl (by rw [hml]; rfl) (argsL := [(.ref bu), (.int (0 : Int32))]) (rest := []) (lenOf own_pd5 rfl) rfl (by show 2 * 0 + _ ≤ _; exact Nat.le_of_eq rfl) (hb hby own_d_jdk_52_method_16_32) (fun _ _ => ⟨rfl, rfl, (by decide : 2 + 0 ≤ _), (by decide : 9 + 0 ≤ _)⟩)
    dsimp only [Pt.U, Pt.locs, Pt.cells, Pt.slots] at X133 l133 y133 z133 st133 hQ133
    subst l133 y133 z133
    obtain ⟨rfl, N133q, e133⟩ := hQ133
    have N133 := Fr.app N132 N133q
    refine own_to (mkF m 35 #[rv a, iv 0, iv 3, rv b130, iv 0, rv bu] [(.int x0)]) st133 ?_
    refine own_to (T' := T133) (mkF m 38 #[rv a, iv 0, iv 3, rv b130, iv 0, rv bu] [(.int (255 : Int32)), (.int x0)]) (fun _ k => XS.sipush X133.here hx rfl (hb hby own_d_jdk_52_method_16_35) k) ?_
    refine own_to (T' := T133) (mkF m 54 #[rv a, iv 0, iv 3, rv b130, iv 0, rv bu] []) (fun _ k => XS.icmpYes X133.here hx rfl (pc0 := 38) (pc' := 54) rfl (hb hby own_d_jdk_52_method_16_38) rfl (tlt hbad).2.2.1 (by decide) (by decide) k) ?_
    refine own_to (T' := T133) (mkF m 56 #[rv a, iv 0, iv 3, rv b130, iv 0, rv bu] [(.ref bu)]) (fun _ k => XS.aload X133.here hx rfl (hb hby own_d_jdk_52_method_16_54) rfl rfl k) ?_
    exact own_retA X133 hx Bd.returns rfl hlk (hb hby own_d_jdk_52_method_16_56) rfl (by decide) (by decide) (by rw [e133]; exact ⟨bu, kbu, rfl, N133, KP, ge_bu, sz_bu, Or.inr Vu⟩)
  · refine own_to (mkF m 12 #[rv a, iv 0, iv 3, rv b130, .unset, .unset] [(.int (1 : Int32))]) st131 ?_
    refine own_to (T' := T131) (mkF m 14 #[rv a, iv 0, iv 3, rv b130, iv 1, .unset] []) (fun _ k => XS.istore X131.here hx rfl (hb hby own_d_jdk_52_method_16_12) rfl (l' := #[rv a, iv 0, iv 3, rv b130, iv 1, .unset]) rfl k) ?_
    refine own_to (T' := T131) (mkF m 16 #[rv a, iv 0, iv 3, rv b130, iv 1, .unset] [(.int (1 : Int32))]) (fun _ k => XS.iload X131.here hx rfl (hb hby own_d_jdk_52_method_16_14) rfl k) ?_
    refine own_to (T' := T131) (mkF m 17 #[rv a, iv 0, iv 3, rv b130, iv 1, .unset] [(.int (3 : Int32)), (.int (1 : Int32))]) (fun _ k => XS.iloadN X131.here hx rfl (hb hby own_d_jdk_52_method_16_16) rfl k) ?_
    refine own_to (T' := T131) (mkF m 20 #[rv a, iv 0, iv 3, rv b130, iv 1, .unset] []) (fun _ k => XS.icmpNo X131.here hx rfl (hb hby own_d_jdk_52_method_16_17) rfl (feq (by decide : ¬ ((1 : Int32) = (3 : Int32)))).1 k) ?_
    refine own_to (T' := T131) (mkF m 21 #[rv a, iv 0, iv 3, rv b130, iv 1, .unset] [(.ref a)]) (fun _ k => XS.aloadN X131.here hx rfl (hb hby own_d_jdk_52_method_16_20) rfl rfl k) ?_
    refine own_to (T' := T131) (mkF m 22 #[rv a, iv 0, iv 3, rv b130, iv 1, .unset] [(.int (0 : Int32)), (.ref a)]) (fun _ k => XS.iloadN X131.here hx rfl (hb hby own_d_jdk_52_method_16_21) rfl k) ?_
    refine own_to (T' := T131) (mkF m 23 #[rv a, iv 0, iv 3, rv b130, iv 1, .unset] [(.int (3 : Int32)), (.int (0 : Int32)), (.ref a)]) (fun _ k => XS.iloadN X131.here hx rfl (hb hby own_d_jdk_52_method_16_22) rfl k) ?_
    have KP0 := KP
    have lt0_a := Va.lt
    obtain ⟨_, _, ⟨T134, L134, k134, n134⟩, -, X134, ⟨Lc134, hQ134, l134, y134, z134⟩, st134⟩ := Jvm.LawKit.callS X131 hx (y := (⟨"java/lang/StringUTF16", "toBytes", "([CII)[B"⟩ : MethodName)) hown (mvT hZ (hw _ (List.mem_of_getElem? (i := 69) rfl))) (mvT hZ (hw _ (List.mem_of_getElem? (i := 70) rfl))) (mvT hZ (hw _ (List.mem_of_getElem? (i := 18) rfl))) (mvT hZ (hw _ (List.mem_of_getElem? (i := 71) rfl))) (by decide) (backOf (W := 0) (own_rmTS_3 l Z a0 hw [] x0 x1 x2 G1 a ka T131.heap n0 (Nat.le_trans Z0 KP.1) OL Va O2 P5 OAD OHI OLO) hZ (hw _ (List.mem_of_getElem? (i := 71) rfl)) (hw _ (List.mem_of_getElem? (i := 18) rfl)) (by decide) (by decide)) (g := (mkF m 23 #[rv a, iv 0, iv 3, rv b130, iv 1, .unset] [(.int (3 : Int32)), (.int (0 : Int32)), (.ref a)])) rfl (by rw [hml]; rfl) (argsL := [(.ref a), (.int (0 : Int32)), (.int (3 : Int32))]) (rest := []) (lenOf own_pd4 rfl) rfl (by show 2 * 0 + _ ≤ _; exact Nat.le_of_eq rfl) (hb hby own_d_jdk_52_method_16_23) (fun _ _ => ⟨rfl, rfl, (by decide : 1 + 1 ≤ _), (by decide : 3 + 6 ≤ _)⟩)
    dsimp only [Pt.U, Pt.locs, Pt.cells, Pt.slots] at X134 l134 y134 z134 st134 hQ134
    subst l134 y134 z134
    obtain ⟨bu, kbu, rfl, N134q, K134, ge_bu, sz0_bu, Vu⟩ := hQ134
    have N134 := Fr.app N131 N134q
    have OL := OL.keep K134 all0
    have KP := KP.trans K134 all0
    have Va := Va.keep K134 nin0
    refine own_to (mkF m 26 #[rv a, iv 0, iv 3, rv b130, iv 1, .unset] [(.ref bu)]) st134 ?_
    have sz_bu : h0.size ≤ bu := Nat.le_trans KP0.1 sz0_bu
    have ne_a_bu : a ≠ bu := Nat.ne_of_lt (Nat.lt_of_lt_of_le lt0_a sz0_bu)
    refine own_to (T' := T134) (mkF m 28 #[rv a, iv 0, iv 3, rv b130, iv 1, rv bu] []) (fun _ k => XS.astore X134.here hx rfl (hb hby own_d_jdk_52_method_16_26) rfl rfl (l' := #[rv a, iv 0, iv 3, rv b130, iv 1, rv bu]) rfl k) ?_
    refine own_to (T' := T134) (mkF m 30 #[rv a, iv 0, iv 3, rv b130, iv 1, rv bu] [(.ref bu)]) (fun _ k => XS.aload X134.here hx rfl (hb hby own_d_jdk_52_method_16_28) rfl rfl k) ?_
    refine own_to (T' := T134) (mkF m 32 #[rv a, iv 0, iv 3, rv b130, iv 1, rv bu] [(.int (1 : Int32)), (.ref bu)]) (fun _ k => XS.iload X134.here hx rfl (hb hby own_d_jdk_52_method_16_30) rfl k) ?_
    obtain ⟨_, _, ⟨T135, L135, k135, n135⟩, -, X135, ⟨Lc135, hQ135, l135, y135, z135⟩, st135⟩ := Jvm.LawKit.callS X134 hx (y := (⟨"java/lang/StringUTF16", "getChar", "([BI)C"⟩ : MethodName)) hown (mvT hZ (hw _ (List.mem_of_getElem? (i := 85) rfl))) (mvT hZ (hw _ (List.mem_of_getElem? (i := 86) rfl))) (mvT hZ (hw _ (List.mem_of_getElem? (i := 18) rfl))) (mvT hZ (hw _ (List.mem_of_getElem? (i := 87) rfl))) (by decide) (backOf (W := 0) (own_rmGC_3_1 l Z a0 hw [] x0 x1 x2 G1 bu kbu T134.heap n0 (Nat.le_trans Z0 KP.1) OL hx1 Vu O2 P5 OAD OHI OLO) hZ (hw _ (List.mem_of_getElem? (i := 87) rfl)) (hw _ (List.mem_of_getElem? (i := 18) rfl)) (by decide) (by decide)) (g := (mkF m 32 #[rv a, iv 0, iv 3, rv b130, iv 1, rv bu] [(.int (1 : Int32)), (.ref bu)])) rfl (by rw [hml]; rfl) (argsL := [(.ref bu), (.int (1 : Int32))]) (rest := []) (lenOf own_pd5 rfl) rfl (by show 2 * 0 + _ ≤ _; exact Nat.le_of_eq rfl) (hb hby own_d_jdk_52_method_16_32) (fun _ _ => ⟨rfl, rfl, (by decide : 2 + 0 ≤ _), (by decide : 9 + 0 ≤ _)⟩)
    dsimp only [Pt.U, Pt.locs, Pt.cells, Pt.slots] at X135 l135 y135 z135 st135 hQ135
    subst l135 y135 z135
    obtain ⟨rfl, N135q, e135⟩ := hQ135
    have N135 := Fr.app N134 N135q
    refine own_to (mkF m 35 #[rv a, iv 0, iv 3, rv b130, iv 1, rv bu] [(.int x1)]) st135 ?_
    refine own_to (T' := T135) (mkF m 38 #[rv a, iv 0, iv 3, rv b130, iv 1, rv bu] [(.int (255 : Int32)), (.int x1)]) (fun _ k => XS.sipush X135.here hx rfl (hb hby own_d_jdk_52_method_16_35) k) ?_
    refine own_to (T' := T135) (mkF m 54 #[rv a, iv 0, iv 3, rv b130, iv 1, rv bu] []) (fun _ k => XS.icmpYes X135.here hx rfl (pc0 := 38) (pc' := 54) rfl (hb hby own_d_jdk_52_method_16_38) rfl (tlt hbad).2.2.1 (by decide) (by decide) k) ?_
    refine own_to (T' := T135) (mkF m 56 #[rv a, iv 0, iv 3, rv b130, iv 1, rv bu] [(.ref bu)]) (fun _ k => XS.aload X135.here hx rfl (hb hby own_d_jdk_52_method_16_54) rfl rfl k) ?_
    exact own_retA X135 hx Bd.returns rfl hlk (hb hby own_d_jdk_52_method_16_56) rfl (by decide) (by decide) (by rw [e135]; exact ⟨bu, kbu, rfl, N135, KP, ge_bu, sz_bu, Or.inr Vu⟩)
  · refine own_to (mkF m 12 #[rv a, iv 0, iv 3, rv b130, .unset, .unset] [(.int (2 : Int32))]) st131 ?_
    refine own_to (T' := T131) (mkF m 14 #[rv a, iv 0, iv 3, rv b130, iv 2, .unset] []) (fun _ k => XS.istore X131.here hx rfl (hb hby own_d_jdk_52_method_16_12) rfl (l' := #[rv a, iv 0, iv 3, rv b130, iv 2, .unset]) rfl k) ?_
    refine own_to (T' := T131) (mkF m 16 #[rv a, iv 0, iv 3, rv b130, iv 2, .unset] [(.int (2 : Int32))]) (fun _ k => XS.iload X131.here hx rfl (hb hby own_d_jdk_52_method_16_14) rfl k) ?_
    refine own_to (T' := T131) (mkF m 17 #[rv a, iv 0, iv 3, rv b130, iv 2, .unset] [(.int (3 : Int32)), (.int (2 : Int32))]) (fun _ k => XS.iloadN X131.here hx rfl (hb hby own_d_jdk_52_method_16_16) rfl k) ?_
    refine own_to (T' := T131) (mkF m 20 #[rv a, iv 0, iv 3, rv b130, iv 2, .unset] []) (fun _ k => XS.icmpNo X131.here hx rfl (hb hby own_d_jdk_52_method_16_17) rfl (feq (by decide : ¬ ((2 : Int32) = (3 : Int32)))).1 k) ?_
    refine own_to (T' := T131) (mkF m 21 #[rv a, iv 0, iv 3, rv b130, iv 2, .unset] [(.ref a)]) (fun _ k => XS.aloadN X131.here hx rfl (hb hby own_d_jdk_52_method_16_20) rfl rfl k) ?_
    refine own_to (T' := T131) (mkF m 22 #[rv a, iv 0, iv 3, rv b130, iv 2, .unset] [(.int (0 : Int32)), (.ref a)]) (fun _ k => XS.iloadN X131.here hx rfl (hb hby own_d_jdk_52_method_16_21) rfl k) ?_
    refine own_to (T' := T131) (mkF m 23 #[rv a, iv 0, iv 3, rv b130, iv 2, .unset] [(.int (3 : Int32)), (.int (0 : Int32)), (.ref a)]) (fun _ k => XS.iloadN X131.here hx rfl (hb hby own_d_jdk_52_method_16_22) rfl k) ?_
    have KP0 := KP
    have lt0_a := Va.lt
    obtain ⟨_, _, ⟨T136, L136, k136, n136⟩, -, X136, ⟨Lc136, hQ136, l136, y136, z136⟩, st136⟩ := Jvm.LawKit.callS X131 hx (y := (⟨"java/lang/StringUTF16", "toBytes", "([CII)[B"⟩ : MethodName)) hown (mvT hZ (hw _ (List.mem_of_getElem? (i := 69) rfl))) (mvT hZ (hw _ (List.mem_of_getElem? (i := 70) rfl))) (mvT hZ (hw _ (List.mem_of_getElem? (i := 18) rfl))) (mvT hZ (hw _ (List.mem_of_getElem? (i := 71) rfl))) (by decide) (backOf (W := 0) (own_rmTS_3 l Z a0 hw [] x0 x1 x2 G1 a ka T131.heap n0 (Nat.le_trans Z0 KP.1) OL Va O2 P5 OAD OHI OLO) hZ (hw _ (List.mem_of_getElem? (i := 71) rfl)) (hw _ (List.mem_of_getElem? (i := 18) rfl)) (by decide) (by decide)) (g := (mkF m 23 #[rv a, iv 0, iv 3, rv b130, iv 2, .unset] [(.int (3 : Int32)), (.int (0 : Int32)), (.ref a)])) rfl (by rw [hml]; rfl) (argsL := [(.ref a), (.int (0 : Int32)), (.int (3 : Int32))]) (rest := []) (lenOf own_pd4 rfl) rfl (by show 2 * 0 + _ ≤ _; exact Nat.le_of_eq rfl) (hb hby own_d_jdk_52_method_16_23) (fun _ _ => ⟨rfl, rfl, (by decide : 1 + 1 ≤ _), (by decide : 3 + 6 ≤ _)⟩)
    dsimp only [Pt.U, Pt.locs, Pt.cells, Pt.slots] at X136 l136 y136 z136 st136 hQ136
    subst l136 y136 z136
    obtain ⟨bu, kbu, rfl, N136q, K136, ge_bu, sz0_bu, Vu⟩ := hQ136
    have N136 := Fr.app N131 N136q
    have OL := OL.keep K136 all0
    have KP := KP.trans K136 all0
    have Va := Va.keep K136 nin0
    refine own_to (mkF m 26 #[rv a, iv 0, iv 3, rv b130, iv 2, .unset] [(.ref bu)]) st136 ?_
    have sz_bu : h0.size ≤ bu := Nat.le_trans KP0.1 sz0_bu
    have ne_a_bu : a ≠ bu := Nat.ne_of_lt (Nat.lt_of_lt_of_le lt0_a sz0_bu)
    refine own_to (T' := T136) (mkF m 28 #[rv a, iv 0, iv 3, rv b130, iv 2, rv bu] []) (fun _ k => XS.astore X136.here hx rfl (hb hby own_d_jdk_52_method_16_26) rfl rfl (l' := #[rv a, iv 0, iv 3, rv b130, iv 2, rv bu]) rfl k) ?_
    refine own_to (T' := T136) (mkF m 30 #[rv a, iv 0, iv 3, rv b130, iv 2, rv bu] [(.ref bu)]) (fun _ k => XS.aload X136.here hx rfl (hb hby own_d_jdk_52_method_16_28) rfl rfl k) ?_
    refine own_to (T' := T136) (mkF m 32 #[rv a, iv 0, iv 3, rv b130, iv 2, rv bu] [(.int (2 : Int32)), (.ref bu)]) (fun _ k => XS.iload X136.here hx rfl (hb hby own_d_jdk_52_method_16_30) rfl k) ?_
    obtain ⟨_, _, ⟨T137, L137, k137, n137⟩, -, X137, ⟨Lc137, hQ137, l137, y137, z137⟩, st137⟩ := Jvm.LawKit.callS X136 hx (y := (⟨"java/lang/StringUTF16", "getChar", "([BI)C"⟩ : MethodName)) hown (mvT hZ (hw _ (List.mem_of_getElem? (i := 85) rfl))) (mvT hZ (hw _ (List.mem_of_getElem? (i := 86) rfl))) (mvT hZ (hw _ (List.mem_of_getElem? (i := 18) rfl))) (mvT hZ (hw _ (List.mem_of_getElem? (i := 87) rfl))) (by decide) (backOf (W := 0) (own_rmGC_3_2 l Z a0 hw [] x0 x1 x2 G1 bu kbu T136.heap n0 (Nat.le_trans Z0 KP.1) OL hx2 Vu O2 P5 OAD OHI OLO) hZ (hw _ (List.mem_of_getElem? (i := 87) rfl)) (hw _ (List.mem_of_getElem? (i := 18) rfl)) (by decide) (by decide)) (g := (mkF m 32 #[rv a, iv 0, iv 3, rv b130, iv 2, rv bu] [(.int (2 : Int32)), (.ref bu)])) rfl (by rw [hml]; rfl) (argsL := [(.ref bu), (.int (2 : Int32))]) (rest := []) (lenOf own_pd5 rfl) rfl (by show 2 * 0 + _ ≤ _; exact Nat.le_of_eq rfl) (hb hby own_d_jdk_52_method_16_32) (fun _ _ => ⟨rfl, rfl, (by decide : 2 + 0 ≤ _), (by decide : 9 + 0 ≤ _)⟩)
    dsimp only [Pt.U, Pt.locs, Pt.cells, Pt.slots] at X137 l137 y137 z137 st137 hQ137
    subst l137 y137 z137
    obtain ⟨rfl, N137q, e137⟩ := hQ137
    have N137 := Fr.app N136 N137q
    refine own_to (mkF m 35 #[rv a, iv 0, iv 3, rv b130, iv 2, rv bu] [(.int x2)]) st137 ?_
    refine own_to (T' := T137) (mkF m 38 #[rv a, iv 0, iv 3, rv b130, iv 2, rv bu] [(.int (255 : Int32)), (.int x2)]) (fun _ k => XS.sipush X137.here hx rfl (hb hby own_d_jdk_52_method_16_35) k) ?_
    refine own_to (T' := T137) (mkF m 54 #[rv a, iv 0, iv 3, rv b130, iv 2, rv bu] []) (fun _ k => XS.icmpYes X137.here hx rfl (pc0 := 38) (pc' := 54) rfl (hb hby own_d_jdk_52_method_16_38) rfl (tlt hbad).2.2.1 (by decide) (by decide) k) ?_
    refine own_to (T' := T137) (mkF m 56 #[rv a, iv 0, iv 3, rv b130, iv 2, rv bu] [(.ref bu)]) (fun _ k => XS.aload X137.here hx rfl (hb hby own_d_jdk_52_method_16_54) rfl rfl k) ?_
    exact own_retA X137 hx Bd.returns rfl hlk (hb hby own_d_jdk_52_method_16_56) rfl (by decide) (by decide) (by rw [e137]; exact ⟨bu, kbu, rfl, N137, KP, ge_bu, sz_bu, Or.inr Vu⟩)
def own_QCF_3_0 (Z : State) (x0 x1 x2 : Int32) (b : Addr) (kb : ClassId) (h0 : Heap) (n0 : Nat) (v : Option Value) (h : Heap) (L : List Loc) : Prop := v = some (.int (0 : Int32)) ∧ Fr n0 L ∧ h = h0
set_option maxRecDepth 65536 in
set_option maxHeartbeats 40000000 in
theorem own_rmCF_3_0 (l : Launch) (Z : State) (a0 : Array Value) (hw : ∀ d ∈ tables_1, d.before a0 Z = true) (ws : List Jvm.Cond) (x0 x1 x2 : Int32) (b : Addr) (kb : ClassId) (h0 : Heap) (n0 : Nat) (Z0 : n0 ≤ h0.size) (OL : Old Z n0 h0) (Vb : Arv Z h0 b kb .byte (3 : Int32) [(.int (x0.toInt8.toInt32)), (.int (x1.toInt8.toInt32)), (.int (x2.toInt8.toInt32))] (.int (0 : Int32))) :
    MetFree l (⟨"java/lang/StringUTF16", "coderFromArrayLen", "([BI)B"⟩ : MethodName) (head1 (Jvm.Cond.code (⟨"java/lang/StringUTF16", "coderFromArrayLen", "([BI)B"⟩ : MethodName) jdk_52_method_15_code 2 (some .byte) :: ws) ({ frames := 0, cells := 0, slots := 0, locals := 0 } : Room)) (fun aa_ U => aa_ = #[(.ref b), (.int (3 : Int32))] ∧ Z.Warmed39 U.vm ∧ U.heap = h0) (fun _ _ _ _ _ => True) (fun _ U o U' => ∃ v L, o = .returned v ∧ own_QCF_3_0 Z x0 x1 x2 b kb h0 n0 v U'.heap L ∧ FrameEnd U o U' L ({ frames := 0, cells := 0, slots := 0, locals := 0 } : Room).cells ({ frames := 0, cells := 0, slots := 0, locals := 0 } : Room).slots) := by
  refine MetFree.of_bodySF (plainFor_of_name own_pn0) hisR ?_
  intro p e s m args below meth c s₁ Bd hml0 hP hK
  obtain ⟨rfl, hZ, hh⟩ := hP
  have hx := Bd.exec
  have hby := Bd.bytes
  have hlk : meth.locks = false := BodyLoose.notSynchronized Bd
  have hml : c.maxLocals = 2 := hml0
  have hown : s.vm.findClass "java/lang/StringUTF16" = some m.cls := findClass_of_methodNamed Bd.named
  have hnm := (name_of_methodNamed Bd.named Bd.method).1
  have X0 : Stand p l e ({ frames := 0, cells := 0, slots := 0, locals := 0 } : Room) s m #[(.ref b), (.int (3 : Int32))] below meth c s₁ [] 0 0 := Stand.of_body Bd
  have e0 : s₁.heap = h0 := by rw [← hh, Bd.state]; rfl
  have N0 := Fr.nil n0
  have KP : Keep h0 h0 [] := Keep.refl _ _
  refine own_start (Fin := (own_Fin s (own_QCF_3_0 Z x0 x1 x2 b kb h0 n0) ({ frames := 0, cells := 0, slots := 0, locals := 0 } : Room).cells ({ frames := 0, cells := 0, slots := 0, locals := 0 } : Room).slots)) (own_from (mkF m 0 #[rv b, iv 3] []) (castTop (own_ef_CF_3_0 m b (3 : Int32))) ?_)
  refine own_to (T' := s₁) (mkF m 1 #[rv b, iv 3] [(.int (3 : Int32))]) (fun _ k => XS.iloadN X0.here hx rfl (hb hby own_d_jdk_52_method_15_0) rfl k) ?_
  refine own_to (T' := s₁) (mkF m 2 #[rv b, iv 3] [(.ref b), (.int (3 : Int32))]) (fun _ k => XS.aloadN X0.here hx rfl (hb hby own_d_jdk_52_method_15_1) rfl rfl k) ?_
  obtain ⟨cl138, Ar138, -, S138, M138, -, -⟩ := id Vb
  refine own_to (mkF m 3 #[rv b, iv 3] [(.int (3 : Int32)), (.int (3 : Int32))]) (by have q := X0.arraylength hx (by rw [e0]; exact Ar138.1) (State.isArrayOf_alike hZ.alike Ar138.2.1) (g := (mkF m 2 #[rv b, iv 3] [(.ref b), (.int (3 : Int32))])) rfl rfl (hb hby own_d_jdk_52_method_15_2); rw [len_of S138 M138] at q; exact q) ?_
  refine own_to (T' := s₁) (mkF m 4 #[rv b, iv 3] [(.int (0 : Int32))]) (fun _ k => XS.isub X0.here hx rfl (hb hby own_d_jdk_52_method_15_3) rfl k) ?_
  refine own_to (T' := s₁) (mkF m 6 #[rv b, iv 3] [(.int (31 : Int32)), (.int (0 : Int32))]) (fun _ k => XS.bipush X0.here hx rfl (hb hby own_d_jdk_52_method_15_4) k) ?_
  refine own_to (T' := s₁) (mkF m 7 #[rv b, iv 3] [(.int (0 : Int32))]) (fun _ k => XS.iushr X0.here hx rfl (hb hby own_d_jdk_52_method_15_6) rfl k) ?_
  refine own_to (T' := s₁) (mkF m 8 #[rv b, iv 3] [(.int ((0 : Int32).toInt8.toInt32))]) (fun _ k => XS.i2b X0.here hx rfl (hb hby own_d_jdk_52_method_15_7) rfl k) ?_
  exact own_retN X0 hx (t := .byte) Bd.returns (by simp) hlk (hb hby own_d_jdk_52_method_15_8) (by decide) (by decide) (by rw [e0]; exact ⟨rfl, N0, rfl⟩)
def own_QCF_3_1 (Z : State) (x0 x1 x2 : Int32) (b : Addr) (kb : ClassId) (h0 : Heap) (n0 : Nat) (v : Option Value) (h : Heap) (L : List Loc) : Prop := v = some (.int (1 : Int32)) ∧ Fr n0 L ∧ h = h0
set_option maxRecDepth 65536 in
set_option maxHeartbeats 40000000 in
theorem own_rmCF_3_1 (l : Launch) (Z : State) (a0 : Array Value) (hw : ∀ d ∈ tables_1, d.before a0 Z = true) (ws : List Jvm.Cond) (x0 x1 x2 : Int32) (b : Addr) (kb : ClassId) (h0 : Heap) (n0 : Nat) (Z0 : n0 ≤ h0.size) (OL : Old Z n0 h0) (Vb : Arv Z h0 b kb .byte (6 : Int32) [(.int ((x0 >>> ((0 : Int32) &&& 31)).toInt8.toInt32)), (.int ((x0 >>> ((8 : Int32) &&& 31)).toInt8.toInt32)), (.int ((x1 >>> ((0 : Int32) &&& 31)).toInt8.toInt32)), (.int ((x1 >>> ((8 : Int32) &&& 31)).toInt8.toInt32)), (.int ((x2 >>> ((0 : Int32) &&& 31)).toInt8.toInt32)), (.int ((x2 >>> ((8 : Int32) &&& 31)).toInt8.toInt32))] (.int (0 : Int32))) :
    MetFree l (⟨"java/lang/StringUTF16", "coderFromArrayLen", "([BI)B"⟩ : MethodName) (head1 (Jvm.Cond.code (⟨"java/lang/StringUTF16", "coderFromArrayLen", "([BI)B"⟩ : MethodName) jdk_52_method_15_code 2 (some .byte) :: ws) ({ frames := 0, cells := 0, slots := 0, locals := 0 } : Room)) (fun aa_ U => aa_ = #[(.ref b), (.int (3 : Int32))] ∧ Z.Warmed39 U.vm ∧ U.heap = h0) (fun _ _ _ _ _ => True) (fun _ U o U' => ∃ v L, o = .returned v ∧ own_QCF_3_1 Z x0 x1 x2 b kb h0 n0 v U'.heap L ∧ FrameEnd U o U' L ({ frames := 0, cells := 0, slots := 0, locals := 0 } : Room).cells ({ frames := 0, cells := 0, slots := 0, locals := 0 } : Room).slots) := by
  refine MetFree.of_bodySF (plainFor_of_name own_pn0) hisR ?_
  intro p e s m args below meth c s₁ Bd hml0 hP hK
  obtain ⟨rfl, hZ, hh⟩ := hP
  have hx := Bd.exec
  have hby := Bd.bytes
  have hlk : meth.locks = false := BodyLoose.notSynchronized Bd
  have hml : c.maxLocals = 2 := hml0
  have hown : s.vm.findClass "java/lang/StringUTF16" = some m.cls := findClass_of_methodNamed Bd.named
  have hnm := (name_of_methodNamed Bd.named Bd.method).1
  have X0 : Stand p l e ({ frames := 0, cells := 0, slots := 0, locals := 0 } : Room) s m #[(.ref b), (.int (3 : Int32))] below meth c s₁ [] 0 0 := Stand.of_body Bd
  have e0 : s₁.heap = h0 := by rw [← hh, Bd.state]; rfl
  have N0 := Fr.nil n0
  have KP : Keep h0 h0 [] := Keep.refl _ _
  refine own_start (Fin := (own_Fin s (own_QCF_3_1 Z x0 x1 x2 b kb h0 n0) ({ frames := 0, cells := 0, slots := 0, locals := 0 } : Room).cells ({ frames := 0, cells := 0, slots := 0, locals := 0 } : Room).slots)) (own_from (mkF m 0 #[rv b, iv 3] []) (castTop (own_ef_CF_3_1 m b (3 : Int32))) ?_)
  refine own_to (T' := s₁) (mkF m 1 #[rv b, iv 3] [(.int (3 : Int32))]) (fun _ k => XS.iloadN X0.here hx rfl (hb hby own_d_jdk_52_method_15_0) rfl k) ?_
  refine own_to (T' := s₁) (mkF m 2 #[rv b, iv 3] [(.ref b), (.int (3 : Int32))]) (fun _ k => XS.aloadN X0.here hx rfl (hb hby own_d_jdk_52_method_15_1) rfl rfl k) ?_
  obtain ⟨cl139, Ar139, -, S139, M139, -, -⟩ := id Vb
  refine own_to (mkF m 3 #[rv b, iv 3] [(.int (6 : Int32)), (.int (3 : Int32))]) (by have q := X0.arraylength hx (by rw [e0]; exact Ar139.1) (State.isArrayOf_alike hZ.alike Ar139.2.1) (g := (mkF m 2 #[rv b, iv 3] [(.ref b), (.int (3 : Int32))])) rfl rfl (hb hby own_d_jdk_52_method_15_2); rw [len_of S139 M139] at q; exact q) ?_
  refine own_to (T' := s₁) (mkF m 4 #[rv b, iv 3] [(.int (-3 : Int32))]) (fun _ k => XS.isub X0.here hx rfl (hb hby own_d_jdk_52_method_15_3) rfl k) ?_
  refine own_to (T' := s₁) (mkF m 6 #[rv b, iv 3] [(.int (31 : Int32)), (.int (-3 : Int32))]) (fun _ k => XS.bipush X0.here hx rfl (hb hby own_d_jdk_52_method_15_4) k) ?_
  refine own_to (T' := s₁) (mkF m 7 #[rv b, iv 3] [(.int (1 : Int32))]) (fun _ k => XS.iushr X0.here hx rfl (hb hby own_d_jdk_52_method_15_6) rfl k) ?_
  refine own_to (T' := s₁) (mkF m 8 #[rv b, iv 3] [(.int ((1 : Int32).toInt8.toInt32))]) (fun _ k => XS.i2b X0.here hx rfl (hb hby own_d_jdk_52_method_15_7) rfl k) ?_
  exact own_retN X0 hx (t := .byte) Bd.returns (by simp) hlk (hb hby own_d_jdk_52_method_15_8) (by decide) (by decide) (by rw [e0]; exact ⟨rfl, N0, rfl⟩)
def own_QI4_3 (Z : State) (x0 x1 x2 : Int32) (G1 : Int32) (sx a : Addr) (ka : ClassId) (h0 : Heap) (n0 : Nat) (v : Option Value) (h : Heap) (L : List Loc) : Prop := v = none ∧ Fr n0 L ∧ Keep h0 h [sx] ∧ ∃ (t : Addr) (kb : ClassId), n0 ≤ t ∧ h0.size ≤ t ∧ ((¬ ((255 : Int32) < x0) ∧ ¬ ((255 : Int32) < x1) ∧ ¬ ((255 : Int32) < x2) ∧ own_StrG Z h sx t kb (0 : Int32) (3 : Int32) [(.int (x0.toInt8.toInt32)), (.int (x1.toInt8.toInt32)), (.int (x2.toInt8.toInt32))]) ∨ own_StrG Z h sx t kb (1 : Int32) (6 : Int32) [(.int ((x0 >>> ((0 : Int32) &&& 31)).toInt8.toInt32)), (.int ((x0 >>> ((8 : Int32) &&& 31)).toInt8.toInt32)), (.int ((x1 >>> ((0 : Int32) &&& 31)).toInt8.toInt32)), (.int ((x1 >>> ((8 : Int32) &&& 31)).toInt8.toInt32)), (.int ((x2 >>> ((0 : Int32) &&& 31)).toInt8.toInt32)), (.int ((x2 >>> ((8 : Int32) &&& 31)).toInt8.toInt32))])
set_option maxRecDepth 65536 in
set_option maxHeartbeats 40000000 in
theorem own_rmI4_3 (l : Launch) (Z : State) (a0 : Array Value) (hw : ∀ d ∈ tables_1, d.before a0 Z = true) (ws : List Jvm.Cond) (x0 x1 x2 : Int32) (G1 : Int32) (sx a : Addr) (ka : ClassId) (h0 : Heap) (n0 : Nat) (Z0 : n0 ≤ h0.size) (OL : Old Z n0 h0) (ge_sx : n0 ≤ sx) (ne_sx_a : sx ≠ a) (E_sx : Exa Z h0 sx "java/lang/String") (F_value_sx : Fld Z h0 sx "java/lang/String" "value" "[B" .null) (F_coder_sx : Fld Z h0 sx "java/lang/String" "coder" "B" (.int (0 : Int32))) (hx0 : own_C16 x0) (hx1 : own_C16 x1) (hx2 : own_C16 x2) (Va : Arv Z h0 a ka .char (3 : Int32) [(.int x0), (.int x1), (.int x2)] (.int (0 : Int32))) (O2 : Sta Z Z.heap "java/lang/String" "COMPACT_STRINGS" "Z" (.int G1)) (P5 : ¬ (G1 = (0 : Int32))) (OAD : Sta Z Z.heap "java/lang/StringUTF16" "$assertionsDisabled" "Z" (.int (1 : Int32))) (OHI : Sta Z Z.heap "java/lang/StringUTF16" "HI_BYTE_SHIFT" "I" (.int (0 : Int32))) (OLO : Sta Z Z.heap "java/lang/StringUTF16" "LO_BYTE_SHIFT" "I" (.int (8 : Int32))) :
    MetFree l (⟨"java/lang/String", "<init>", "([CIILjava/lang/Void;)V"⟩ : MethodName) (head1 (Jvm.Cond.code (⟨"java/lang/String", "<init>", "([CIILjava/lang/Void;)V"⟩ : MethodName) jdk_42_method_149_code 6 none :: ws) ({ frames := 4, cells := 2, slots := 9, locals := 100 } : Room)) (fun aa_ U => aa_ = #[(.ref sx), (.ref a), (.int (0 : Int32)), (.int (3 : Int32)), .null] ∧ Z.Warmed39 U.vm ∧ U.heap = h0) (fun _ _ _ _ _ => True) (fun _ U o U' => ∃ v L, o = .returned v ∧ own_QI4_3 Z x0 x1 x2 G1 sx a ka h0 n0 v U'.heap L ∧ FrameEnd U o U' L ({ frames := 4, cells := 2, slots := 9, locals := 100 } : Room).cells ({ frames := 4, cells := 2, slots := 9, locals := 100 } : Room).slots) := by
  refine MetFree.of_bodySF (plainFor_of_name own_pn1) hisR ?_
  intro p e s m args below meth c s₁ Bd hml0 hP hK
  obtain ⟨rfl, hZ, hh⟩ := hP
  have hx := Bd.exec
  have hby := Bd.bytes
  have hlk : meth.locks = false := BodyLoose.notSynchronized Bd
  have hml : c.maxLocals = 6 := hml0
  have hown : s.vm.findClass "java/lang/String" = some m.cls := findClass_of_methodNamed Bd.named
  have hnm := (name_of_methodNamed Bd.named Bd.method).1
  have X0 : Stand p l e ({ frames := 4, cells := 2, slots := 9, locals := 100 } : Room) s m #[(.ref sx), (.ref a), (.int (0 : Int32)), (.int (3 : Int32)), .null] below meth c s₁ [] 0 0 := Stand.of_body Bd
  have e0 : s₁.heap = h0 := by rw [← hh, Bd.state]; rfl
  have N0 := Fr.nil n0
  have KP : Keep h0 h0 [sx] := Keep.refl _ _
  refine own_start (Fin := (own_Fin s (own_QI4_3 Z x0 x1 x2 G1 sx a ka h0 n0) ({ frames := 4, cells := 2, slots := 9, locals := 100 } : Room).cells ({ frames := 4, cells := 2, slots := 9, locals := 100 } : Room).slots)) (own_from (mkF m 0 #[rv sx, rv a, iv 0, iv 3, .val .null, .unset] []) (castTop (own_ef_I4_3 m sx a (0 : Int32) (3 : Int32))) ?_)
  refine own_to (T' := s₁) (mkF m 1 #[rv sx, rv a, iv 0, iv 3, .val .null, .unset] [(.ref sx)]) (fun _ k => XS.aloadN X0.here hx rfl (hb hby own_d_jdk_42_method_149_0) rfl rfl k) ?_
  obtain ⟨T140, X140, e140, st140⟩ := initO X0 hx hZ hown (hw _ (List.mem_of_getElem? (i := 12) rfl)) (hw _ (List.mem_of_getElem? (i := 13) rfl)) (hw _ (List.mem_of_getElem? (i := 14) rfl)) e0 (g := (mkF m 1 #[rv sx, rv a, iv 0, iv 3, .val .null, .unset] [(.ref sx)])) rfl (by rw [hml]; rfl) rfl (hb hby own_d_jdk_42_method_149_1) (by decide) (W := 0) (by show 2 * 0 + _ ≤ _; exact Nat.le_of_eq rfl) (by decide)
  refine own_to (mkF m 4 #[rv sx, rv a, iv 0, iv 3, .val .null, .unset] []) st140 ?_
  refine own_to (T' := T140) (mkF m 5 #[rv sx, rv a, iv 0, iv 3, .val .null, .unset] [(.int (3 : Int32))]) (fun _ k => XS.iloadN X140.here hx rfl (hb hby own_d_jdk_42_method_149_4) rfl k) ?_
  refine own_to (T' := T140) (mkF m 27 #[rv sx, rv a, iv 0, iv 3, .val .null, .unset] []) (fun _ k => XS.ifYes X140.here hx rfl (pc0 := 5) (pc' := 27) rfl (hb hby own_d_jdk_42_method_149_5) rfl ((if0 _ _).trans (feq (by decide : ¬ ((3 : Int32) = (0 : Int32)))).2) (by decide) (by decide) k) ?_
  obtain ⟨T141, X141, e141, st141⟩ := getS2 X140 hx hZ hown (host := "") (Or.inl (hw _ (List.mem_of_getElem? (i := 15) rfl))) Via.refl e140 (O2.ext OL.2) (g := (mkF m 27 #[rv sx, rv a, iv 0, iv 3, .val .null, .unset] [])) rfl (hb hby own_d_jdk_42_method_149_27)
  refine own_to (mkF m 30 #[rv sx, rv a, iv 0, iv 3, .val .null, .unset] [(.int G1)]) st141 ?_
  refine own_to (T' := T141) (mkF m 33 #[rv sx, rv a, iv 0, iv 3, .val .null, .unset] []) (fun _ k => XS.ifNo X141.here hx rfl (hb hby own_d_jdk_42_method_149_30) rfl ((if0 _ _).trans (feq P5).1) k) ?_
  refine own_to (T' := T141) (mkF m 34 #[rv sx, rv a, iv 0, iv 3, .val .null, .unset] [(.ref a)]) (fun _ k => XS.aloadN X141.here hx rfl (hb hby own_d_jdk_42_method_149_33) rfl rfl k) ?_
  refine own_to (T' := T141) (mkF m 35 #[rv sx, rv a, iv 0, iv 3, .val .null, .unset] [(.int (0 : Int32)), (.ref a)]) (fun _ k => XS.iloadN X141.here hx rfl (hb hby own_d_jdk_42_method_149_34) rfl k) ?_
  refine own_to (T' := T141) (mkF m 36 #[rv sx, rv a, iv 0, iv 3, .val .null, .unset] [(.int (3 : Int32)), (.int (0 : Int32)), (.ref a)]) (fun _ k => XS.iloadN X141.here hx rfl (hb hby own_d_jdk_42_method_149_35) rfl k) ?_
  have KP0 := KP
  have lt0_sx := E_sx.lt
  have lt0_a := Va.lt
  obtain ⟨_, _, ⟨T142, L142, k142, n142⟩, -, X142, ⟨Lc142, hQ142, l142, y142, z142⟩, st142⟩ := Jvm.LawKit.callS X141 hx (y := (⟨"java/lang/StringUTF16", "compress", "([CII)[B"⟩ : MethodName)) hown (mvT hZ (hw _ (List.mem_of_getElem? (i := 16) rfl))) (mvT hZ (hw _ (List.mem_of_getElem? (i := 17) rfl))) (mvT hZ (hw _ (List.mem_of_getElem? (i := 18) rfl))) (mvT hZ (hw _ (List.mem_of_getElem? (i := 19) rfl))) (by decide) (backOf (W := 0) (own_rmC3_3 l Z a0 hw [] x0 x1 x2 G1 a ka h0 n0 (Nat.le_trans Z0 KP.1) OL hx0 hx1 hx2 Va O2 P5 OAD OHI OLO) hZ (hw _ (List.mem_of_getElem? (i := 19) rfl)) (hw _ (List.mem_of_getElem? (i := 18) rfl)) (by decide) (by decide)) (g := (mkF m 36 #[rv sx, rv a, iv 0, iv 3, .val .null, .unset] [(.int (3 : Int32)), (.int (0 : Int32)), (.ref a)])) rfl (by rw [hml]; rfl) (argsL := [(.ref a), (.int (0 : Int32)), (.int (3 : Int32))]) (rest := []) (lenOf own_pd4 rfl) rfl (by show 2 * 0 + _ ≤ _; exact Nat.le_of_eq rfl) (hb hby own_d_jdk_42_method_149_36) (fun _ _ => ⟨rfl, e141, (by decide : 0 + 2 ≤ _), (by decide : 0 + 9 ≤ _)⟩)
  dsimp only [Pt.U, Pt.locs, Pt.cells, Pt.slots] at X142 l142 y142 z142 st142 hQ142
  subst l142 y142 z142
  obtain ⟨bb, kbb, rfl, N142q, K142, ge_bb, sz0_bb, hor142⟩ := hQ142
  have N142 := Fr.app N0 N142q
  have OL := OL.keep K142 all0
  have KP := KP.trans K142 all0
  have E_sx := E_sx.keep K142
  have F_value_sx := F_value_sx.keep K142 nin0
  have F_coder_sx := F_coder_sx.keep K142 nin0
  have Va := Va.keep K142 nin0
  rcases hor142 with ⟨hg0, hg1, hg2, Vb⟩ | Vb
  · refine own_to (mkF m 39 #[rv sx, rv a, iv 0, iv 3, .val .null, .unset] [(.ref bb)]) st142 ?_
    have sz_bb : h0.size ≤ bb := Nat.le_trans KP0.1 sz0_bb
    have ne_sx_bb : sx ≠ bb := Nat.ne_of_lt (Nat.lt_of_lt_of_le lt0_sx sz0_bb)
    have ne_a_bb : a ≠ bb := Nat.ne_of_lt (Nat.lt_of_lt_of_le lt0_a sz0_bb)
    refine own_to (T' := T142) (mkF m 41 #[rv sx, rv a, iv 0, iv 3, .val .null, rv bb] []) (fun _ k => XS.astore X142.here hx rfl (hb hby own_d_jdk_42_method_149_39) rfl rfl (l' := #[rv sx, rv a, iv 0, iv 3, .val .null, rv bb]) rfl k) ?_
    refine own_to (T' := T142) (mkF m 42 #[rv sx, rv a, iv 0, iv 3, .val .null, rv bb] [(.ref sx)]) (fun _ k => XS.aloadN X142.here hx rfl (hb hby own_d_jdk_42_method_149_41) rfl rfl k) ?_
    refine own_to (T' := T142) (mkF m 44 #[rv sx, rv a, iv 0, iv 3, .val .null, rv bb] [(.ref bb), (.ref sx)]) (fun _ k => XS.aload X142.here hx rfl (hb hby own_d_jdk_42_method_149_42) rfl rfl k) ?_
    refine own_to (T' := T142) (mkF m 45 #[rv sx, rv a, iv 0, iv 3, .val .null, rv bb] [(.int (3 : Int32)), (.ref bb), (.ref sx)]) (fun _ k => XS.iloadN X142.here hx rfl (hb hby own_d_jdk_42_method_149_44) rfl k) ?_
    obtain ⟨_, _, ⟨T143, L143, k143, n143⟩, -, X143, ⟨Lc143, hQ143, l143, y143, z143⟩, st143⟩ := Jvm.LawKit.callS X142 hx (y := (⟨"java/lang/StringUTF16", "coderFromArrayLen", "([BI)B"⟩ : MethodName)) hown (mvT hZ (hw _ (List.mem_of_getElem? (i := 24) rfl))) (mvT hZ (hw _ (List.mem_of_getElem? (i := 25) rfl))) (mvT hZ (hw _ (List.mem_of_getElem? (i := 18) rfl))) (mvT hZ (hw _ (List.mem_of_getElem? (i := 26) rfl))) (by decide) (backOf (W := 1) (own_rmCF_3_0 l Z a0 hw [] x0 x1 x2 bb kbb T142.heap n0 (Nat.le_trans Z0 KP.1) OL Vb) hZ (hw _ (List.mem_of_getElem? (i := 26) rfl)) (hw _ (List.mem_of_getElem? (i := 18) rfl)) (by decide) (by decide)) (g := (mkF m 45 #[rv sx, rv a, iv 0, iv 3, .val .null, rv bb] [(.int (3 : Int32)), (.ref bb), (.ref sx)])) rfl (by rw [hml]; rfl) (argsL := [(.ref bb), (.int (3 : Int32))]) (rest := [(.ref sx)]) (lenOf own_pd6 rfl) rfl (by show 2 * 0 + _ ≤ _; exact Nat.le_of_eq rfl) (hb hby own_d_jdk_42_method_149_45) (fun _ _ => ⟨rfl, rfl, (by decide : 2 + 0 ≤ _), (by decide : 9 + 0 ≤ _)⟩)
    dsimp only [Pt.U, Pt.locs, Pt.cells, Pt.slots] at X143 l143 y143 z143 st143 hQ143
    subst l143 y143 z143
    obtain ⟨rfl, N143q, e143⟩ := hQ143
    have N143 := Fr.app N142 N143q
    refine own_to (mkF m 48 #[rv sx, rv a, iv 0, iv 3, .val .null, rv bb] [(.int (0 : Int32)), (.ref sx)]) st143 ?_
    obtain ⟨T144, h144, X144, e144, W144, st144⟩ := putFN X143 hx hZ hown (hw _ (List.mem_of_getElem? (i := 27) rfl)) Via.refl e143 F_coder_sx E_sx (Or.inr ⟨(hw _ (List.mem_of_getElem? (i := 28) rfl)), rfl, hnm⟩) (hw _ (List.mem_of_getElem? (i := 2) rfl)) (ty := .byte) (v' := (.int (0 : Int32))) (by decide) rfl rfl (g := (mkF m 48 #[rv sx, rv a, iv 0, iv 3, .val .null, rv bb] [(.int (0 : Int32)), (.ref sx)])) rfl rfl (hb hby own_d_jdk_42_method_149_48)
    refine own_to (mkF m 51 #[rv sx, rv a, iv 0, iv 3, .val .null, rv bb] []) st144 ?_
    have N144 := Fr.snoc X144 N143 ge_sx
    have tmp144 : Fld Z h144 sx "java/lang/String" "coder" "B" (.int (0 : Int32)) := F_coder_sx.same W144
    have OL := OL.wr W144 ge_sx
    have KP := KP.wr W144 (Or.inl (List.mem_of_getElem? (i := 0) rfl))
    have E_sx := E_sx.wr W144
    have F_value_sx := F_value_sx.other W144 (Or.inr (slot_ne (Or.inr (hw _ (List.mem_of_getElem? (i := 30) rfl))) (Or.inr (hw _ (List.mem_of_getElem? (i := 28) rfl))) (by decide) (t := (.array .byte)) (t' := .byte) (by decide) (by decide)))
    have Va := Va.other W144 (Ne.symm ne_sx_a)
    have Vb := Vb.other W144 (Ne.symm ne_sx_bb)
    have F_coder_sx := tmp144
    refine own_to (T' := T144) (mkF m 52 #[rv sx, rv a, iv 0, iv 3, .val .null, rv bb] [(.ref sx)]) (fun _ k => XS.aloadN X144.here hx rfl (hb hby own_d_jdk_42_method_149_51) rfl rfl k) ?_
    refine own_to (T' := T144) (mkF m 54 #[rv sx, rv a, iv 0, iv 3, .val .null, rv bb] [(.ref bb), (.ref sx)]) (fun _ k => XS.aload X144.here hx rfl (hb hby own_d_jdk_42_method_149_52) rfl rfl k) ?_
    obtain ⟨T145, h145, X145, e145, W145, st145⟩ := putF X144 hx hZ hown (host := "") (Or.inl (hw _ (List.mem_of_getElem? (i := 29) rfl))) Via.refl e144 F_value_sx E_sx (Or.inr ⟨(hw _ (List.mem_of_getElem? (i := 30) rfl)), rfl, hnm⟩) (hw _ (List.mem_of_getElem? (i := 2) rfl)) (ty := (.array .byte)) (by decide) rfl rfl (g := (mkF m 54 #[rv sx, rv a, iv 0, iv 3, .val .null, rv bb] [(.ref bb), (.ref sx)])) rfl rfl (hb hby own_d_jdk_42_method_149_54)
    refine own_to (mkF m 57 #[rv sx, rv a, iv 0, iv 3, .val .null, rv bb] []) st145 ?_
    have N145 := Fr.snoc X145 N144 ge_sx
    have tmp145 : Fld Z h145 sx "java/lang/String" "value" "[B" (.ref bb) := F_value_sx.same W145
    have OL := OL.wr W145 ge_sx
    have KP := KP.wr W145 (Or.inl (List.mem_of_getElem? (i := 0) rfl))
    have E_sx := E_sx.wr W145
    have F_coder_sx := F_coder_sx.other W145 (Or.inr (slot_ne (Or.inr (hw _ (List.mem_of_getElem? (i := 28) rfl))) (Or.inr (hw _ (List.mem_of_getElem? (i := 30) rfl))) (by decide) (t := .byte) (t' := (.array .byte)) (by decide) (by decide)))
    have Va := Va.other W145 (Ne.symm ne_sx_a)
    have Vb := Vb.other W145 (Ne.symm ne_sx_bb)
    have F_value_sx := tmp145
    exact own_ret0 X145 hx Bd.returns hlk (hb hby own_d_jdk_42_method_149_57) (by decide) (by decide) (by rw [e145]; exact ⟨rfl, N145, KP, bb, kbb, ge_bb, sz_bb, Or.inl ⟨hg0, hg1, hg2, ⟨E_sx, F_value_sx, F_coder_sx, Vb⟩⟩⟩)
  · refine own_to (mkF m 39 #[rv sx, rv a, iv 0, iv 3, .val .null, .unset] [(.ref bb)]) st142 ?_
    have sz_bb : h0.size ≤ bb := Nat.le_trans KP0.1 sz0_bb
    have ne_sx_bb : sx ≠ bb := Nat.ne_of_lt (Nat.lt_of_lt_of_le lt0_sx sz0_bb)
    have ne_a_bb : a ≠ bb := Nat.ne_of_lt (Nat.lt_of_lt_of_le lt0_a sz0_bb)
    refine own_to (T' := T142) (mkF m 41 #[rv sx, rv a, iv 0, iv 3, .val .null, rv bb] []) (fun _ k => XS.astore X142.here hx rfl (hb hby own_d_jdk_42_method_149_39) rfl rfl (l' := #[rv sx, rv a, iv 0, iv 3, .val .null, rv bb]) rfl k) ?_
    refine own_to (T' := T142) (mkF m 42 #[rv sx, rv a, iv 0, iv 3, .val .null, rv bb] [(.ref sx)]) (fun _ k => XS.aloadN X142.here hx rfl (hb hby own_d_jdk_42_method_149_41) rfl rfl k) ?_
    refine own_to (T' := T142) (mkF m 44 #[rv sx, rv a, iv 0, iv 3, .val .null, rv bb] [(.ref bb), (.ref sx)]) (fun _ k => XS.aload X142.here hx rfl (hb hby own_d_jdk_42_method_149_42) rfl rfl k) ?_
    refine own_to (T' := T142) (mkF m 45 #[rv sx, rv a, iv 0, iv 3, .val .null, rv bb] [(.int (3 : Int32)), (.ref bb), (.ref sx)]) (fun _ k => XS.iloadN X142.here hx rfl (hb hby own_d_jdk_42_method_149_44) rfl k) ?_
    obtain ⟨_, _, ⟨T146, L146, k146, n146⟩, -, X146, ⟨Lc146, hQ146, l146, y146, z146⟩, st146⟩ := Jvm.LawKit.callS X142 hx (y := (⟨"java/lang/StringUTF16", "coderFromArrayLen", "([BI)B"⟩ : MethodName)) hown (mvT hZ (hw _ (List.mem_of_getElem? (i := 24) rfl))) (mvT hZ (hw _ (List.mem_of_getElem? (i := 25) rfl))) (mvT hZ (hw _ (List.mem_of_getElem? (i := 18) rfl))) (mvT hZ (hw _ (List.mem_of_getElem? (i := 26) rfl))) (by decide) (backOf (W := 1) (own_rmCF_3_1 l Z a0 hw [] x0 x1 x2 bb kbb T142.heap n0 (Nat.le_trans Z0 KP.1) OL Vb) hZ (hw _ (List.mem_of_getElem? (i := 26) rfl)) (hw _ (List.mem_of_getElem? (i := 18) rfl)) (by decide) (by decide)) (g := (mkF m 45 #[rv sx, rv a, iv 0, iv 3, .val .null, rv bb] [(.int (3 : Int32)), (.ref bb), (.ref sx)])) rfl (by rw [hml]; rfl) (argsL := [(.ref bb), (.int (3 : Int32))]) (rest := [(.ref sx)]) (lenOf own_pd6 rfl) rfl (by show 2 * 0 + _ ≤ _; exact Nat.le_of_eq rfl) (hb hby own_d_jdk_42_method_149_45) (fun _ _ => ⟨rfl, rfl, (by decide : 2 + 0 ≤ _), (by decide : 9 + 0 ≤ _)⟩)
    dsimp only [Pt.U, Pt.locs, Pt.cells, Pt.slots] at X146 l146 y146 z146 st146 hQ146
    subst l146 y146 z146
    obtain ⟨rfl, N146q, e146⟩ := hQ146
    have N146 := Fr.app N142 N146q
    refine own_to (mkF m 48 #[rv sx, rv a, iv 0, iv 3, .val .null, rv bb] [(.int (1 : Int32)), (.ref sx)]) st146 ?_
    obtain ⟨T147, h147, X147, e147, W147, st147⟩ := putFN X146 hx hZ hown (hw _ (List.mem_of_getElem? (i := 27) rfl)) Via.refl e146 F_coder_sx E_sx (Or.inr ⟨(hw _ (List.mem_of_getElem? (i := 28) rfl)), rfl, hnm⟩) (hw _ (List.mem_of_getElem? (i := 2) rfl)) (ty := .byte) (v' := (.int (1 : Int32))) (by decide) rfl rfl (g := (mkF m 48 #[rv sx, rv a, iv 0, iv 3, .val .null, rv bb] [(.int (1 : Int32)), (.ref sx)])) rfl rfl (hb hby own_d_jdk_42_method_149_48)
    refine own_to (mkF m 51 #[rv sx, rv a, iv 0, iv 3, .val .null, rv bb] []) st147 ?_
    have N147 := Fr.snoc X147 N146 ge_sx
    have tmp147 : Fld Z h147 sx "java/lang/String" "coder" "B" (.int (1 : Int32)) := F_coder_sx.same W147
    have OL := OL.wr W147 ge_sx
    have KP := KP.wr W147 (Or.inl (List.mem_of_getElem? (i := 0) rfl))
    have E_sx := E_sx.wr W147
    have F_value_sx := F_value_sx.other W147 (Or.inr (slot_ne (Or.inr (hw _ (List.mem_of_getElem? (i := 30) rfl))) (Or.inr (hw _ (List.mem_of_getElem? (i := 28) rfl))) (by decide) (t := (.array .byte)) (t' := .byte) (by decide) (by decide)))
    have Va := Va.other W147 (Ne.symm ne_sx_a)
    have Vb := Vb.other W147 (Ne.symm ne_sx_bb)
    have F_coder_sx := tmp147
    refine own_to (T' := T147) (mkF m 52 #[rv sx, rv a, iv 0, iv 3, .val .null, rv bb] [(.ref sx)]) (fun _ k => XS.aloadN X147.here hx rfl (hb hby own_d_jdk_42_method_149_51) rfl rfl k) ?_
    refine own_to (T' := T147) (mkF m 54 #[rv sx, rv a, iv 0, iv 3, .val .null, rv bb] [(.ref bb), (.ref sx)]) (fun _ k => XS.aload X147.here hx rfl (hb hby own_d_jdk_42_method_149_52) rfl rfl k) ?_
    obtain ⟨T148, h148, X148, e148, W148, st148⟩ := putF X147 hx hZ hown (host := "") (Or.inl (hw _ (List.mem_of_getElem? (i := 29) rfl))) Via.refl e147 F_value_sx E_sx (Or.inr ⟨(hw _ (List.mem_of_getElem? (i := 30) rfl)), rfl, hnm⟩) (hw _ (List.mem_of_getElem? (i := 2) rfl)) (ty := (.array .byte)) (by decide) rfl rfl (g := (mkF m 54 #[rv sx, rv a, iv 0, iv 3, .val .null, rv bb] [(.ref bb), (.ref sx)])) rfl rfl (hb hby own_d_jdk_42_method_149_54)
    refine own_to (mkF m 57 #[rv sx, rv a, iv 0, iv 3, .val .null, rv bb] []) st148 ?_
    have N148 := Fr.snoc X148 N147 ge_sx
    have tmp148 : Fld Z h148 sx "java/lang/String" "value" "[B" (.ref bb) := F_value_sx.same W148
    have OL := OL.wr W148 ge_sx
    have KP := KP.wr W148 (Or.inl (List.mem_of_getElem? (i := 0) rfl))
    have E_sx := E_sx.wr W148
    have F_coder_sx := F_coder_sx.other W148 (Or.inr (slot_ne (Or.inr (hw _ (List.mem_of_getElem? (i := 28) rfl))) (Or.inr (hw _ (List.mem_of_getElem? (i := 30) rfl))) (by decide) (t := .byte) (t' := (.array .byte)) (by decide) (by decide)))
    have Va := Va.other W148 (Ne.symm ne_sx_a)
    have Vb := Vb.other W148 (Ne.symm ne_sx_bb)
    have F_value_sx := tmp148
    exact own_ret0 X148 hx Bd.returns hlk (hb hby own_d_jdk_42_method_149_57) (by decide) (by decide) (by rw [e148]; exact ⟨rfl, N148, KP, bb, kbb, ge_bb, sz_bb, Or.inr ⟨E_sx, F_value_sx, F_coder_sx, Vb⟩⟩)
def own_QI1_3 (Z : State) (x0 x1 x2 : Int32) (G1 : Int32) (sx a : Addr) (ka : ClassId) (h0 : Heap) (n0 : Nat) (v : Option Value) (h : Heap) (L : List Loc) : Prop := v = none ∧ Fr n0 L ∧ Keep h0 h [sx] ∧ ∃ (t : Addr) (kb : ClassId), n0 ≤ t ∧ h0.size ≤ t ∧ ((¬ ((255 : Int32) < x0) ∧ ¬ ((255 : Int32) < x1) ∧ ¬ ((255 : Int32) < x2) ∧ own_StrG Z h sx t kb (0 : Int32) (3 : Int32) [(.int (x0.toInt8.toInt32)), (.int (x1.toInt8.toInt32)), (.int (x2.toInt8.toInt32))]) ∨ own_StrG Z h sx t kb (1 : Int32) (6 : Int32) [(.int ((x0 >>> ((0 : Int32) &&& 31)).toInt8.toInt32)), (.int ((x0 >>> ((8 : Int32) &&& 31)).toInt8.toInt32)), (.int ((x1 >>> ((0 : Int32) &&& 31)).toInt8.toInt32)), (.int ((x1 >>> ((8 : Int32) &&& 31)).toInt8.toInt32)), (.int ((x2 >>> ((0 : Int32) &&& 31)).toInt8.toInt32)), (.int ((x2 >>> ((8 : Int32) &&& 31)).toInt8.toInt32))])
set_option maxRecDepth 65536 in
set_option maxHeartbeats 40000000 in
theorem own_rmI1_3 (l : Launch) (Z : State) (a0 : Array Value) (hw : ∀ d ∈ tables_1, d.before a0 Z = true) (ws : List Jvm.Cond) (x0 x1 x2 : Int32) (G1 : Int32) (sx a : Addr) (ka : ClassId) (h0 : Heap) (n0 : Nat) (Z0 : n0 ≤ h0.size) (OL : Old Z n0 h0) (ge_sx : n0 ≤ sx) (ne_sx_a : sx ≠ a) (E_sx : Exa Z h0 sx "java/lang/String") (F_value_sx : Fld Z h0 sx "java/lang/String" "value" "[B" .null) (F_coder_sx : Fld Z h0 sx "java/lang/String" "coder" "B" (.int (0 : Int32))) (hx0 : own_C16 x0) (hx1 : own_C16 x1) (hx2 : own_C16 x2) (Va : Arv Z h0 a ka .char (3 : Int32) [(.int x0), (.int x1), (.int x2)] (.int (0 : Int32))) (O2 : Sta Z Z.heap "java/lang/String" "COMPACT_STRINGS" "Z" (.int G1)) (P5 : ¬ (G1 = (0 : Int32))) (OAD : Sta Z Z.heap "java/lang/StringUTF16" "$assertionsDisabled" "Z" (.int (1 : Int32))) (OHI : Sta Z Z.heap "java/lang/StringUTF16" "HI_BYTE_SHIFT" "I" (.int (0 : Int32))) (OLO : Sta Z Z.heap "java/lang/StringUTF16" "LO_BYTE_SHIFT" "I" (.int (8 : Int32))) :
    MetFree l (⟨"java/lang/String", "<init>", "([C)V"⟩ : MethodName) (head1 (Jvm.Cond.code (⟨"java/lang/String", "<init>", "([C)V"⟩ : MethodName) jdk_42_method_3_code 2 none :: ws) ({ frames := 5, cells := 2, slots := 9, locals := 120 } : Room)) (fun aa_ U => aa_ = #[(.ref sx), (.ref a)] ∧ Z.Warmed39 U.vm ∧ U.heap = h0) (fun _ _ _ _ _ => True) (fun _ U o U' => ∃ v L, o = .returned v ∧ own_QI1_3 Z x0 x1 x2 G1 sx a ka h0 n0 v U'.heap L ∧ FrameEnd U o U' L ({ frames := 5, cells := 2, slots := 9, locals := 120 } : Room).cells ({ frames := 5, cells := 2, slots := 9, locals := 120 } : Room).slots) := by
  refine MetFree.of_bodySF (plainFor_of_name own_pn1) hisR ?_
  intro p e s m args below meth c s₁ Bd hml0 hP hK
  obtain ⟨rfl, hZ, hh⟩ := hP
  have hx := Bd.exec
  have hby := Bd.bytes
  have hlk : meth.locks = false := BodyLoose.notSynchronized Bd
  have hml : c.maxLocals = 2 := hml0
  have hown : s.vm.findClass "java/lang/String" = some m.cls := findClass_of_methodNamed Bd.named
  have hnm := (name_of_methodNamed Bd.named Bd.method).1
  have X0 : Stand p l e ({ frames := 5, cells := 2, slots := 9, locals := 120 } : Room) s m #[(.ref sx), (.ref a)] below meth c s₁ [] 0 0 := Stand.of_body Bd
  have e0 : s₁.heap = h0 := by rw [← hh, Bd.state]; rfl
  have N0 := Fr.nil n0
  have KP : Keep h0 h0 [sx] := Keep.refl _ _
  refine own_start (Fin := (own_Fin s (own_QI1_3 Z x0 x1 x2 G1 sx a ka h0 n0) ({ frames := 5, cells := 2, slots := 9, locals := 120 } : Room).cells ({ frames := 5, cells := 2, slots := 9, locals := 120 } : Room).slots)) (own_from (mkF m 0 #[rv sx, rv a] []) (castTop (own_ef_I1_3 m sx a)) ?_)
  refine own_to (T' := s₁) (mkF m 1 #[rv sx, rv a] [(.ref sx)]) (fun _ k => XS.aloadN X0.here hx rfl (hb hby own_d_jdk_42_method_3_0) rfl rfl k) ?_
  refine own_to (T' := s₁) (mkF m 2 #[rv sx, rv a] [(.ref a), (.ref sx)]) (fun _ k => XS.aloadN X0.here hx rfl (hb hby own_d_jdk_42_method_3_1) rfl rfl k) ?_
  refine own_to (T' := s₁) (mkF m 3 #[rv sx, rv a] [(.int (0 : Int32)), (.ref a), (.ref sx)]) (fun _ k => XS.iconst X0.here hx rfl (hb hby own_d_jdk_42_method_3_2) k) ?_
  refine own_to (T' := s₁) (mkF m 4 #[rv sx, rv a] [(.ref a), (.int (0 : Int32)), (.ref a), (.ref sx)]) (fun _ k => XS.aloadN X0.here hx rfl (hb hby own_d_jdk_42_method_3_3) rfl rfl k) ?_
  obtain ⟨cl149, Ar149, -, S149, M149, -, -⟩ := id Va
  refine own_to (mkF m 5 #[rv sx, rv a] [(.int (3 : Int32)), (.int (0 : Int32)), (.ref a), (.ref sx)]) (by have q := X0.arraylength hx (by rw [e0]; exact Ar149.1) (State.isArrayOf_alike hZ.alike Ar149.2.1) (g := (mkF m 4 #[rv sx, rv a] [(.ref a), (.int (0 : Int32)), (.ref a), (.ref sx)])) rfl rfl (hb hby own_d_jdk_42_method_3_4); rw [len_of S149 M149] at q; exact q) ?_
  refine own_to (T' := s₁) (mkF m 6 #[rv sx, rv a] [.null, (.int (3 : Int32)), (.int (0 : Int32)), (.ref a), (.ref sx)]) (fun _ k => XS.aconstNull X0.here hx rfl (hb hby own_d_jdk_42_method_3_5) k) ?_
  obtain ⟨_, _, ⟨T150, L150, k150, n150⟩, -, X150, ⟨Lc150, hQ150, l150, y150, z150⟩, st150⟩ := X0.specialBack hx (y := (⟨"java/lang/String", "<init>", "([CIILjava/lang/Void;)V"⟩ : MethodName)) rfl hown (mvT hZ (hw _ (List.mem_of_getElem? (i := 8) rfl))) (mvT hZ (hw _ (List.mem_of_getElem? (i := 9) rfl))) (mvT hZ (hw _ (List.mem_of_getElem? (i := 11) rfl))) (by decide) (backOf (W := 0) (own_rmI4_3 l Z a0 hw [] x0 x1 x2 G1 sx a ka h0 n0 (Nat.le_trans Z0 KP.1) OL ge_sx ne_sx_a E_sx F_value_sx F_coder_sx hx0 hx1 hx2 Va O2 P5 OAD OHI OLO) hZ (hw _ (List.mem_of_getElem? (i := 11) rfl)) (hw _ (List.mem_of_getElem? (i := 3) rfl)) (by decide) (by decide)) (g := (mkF m 6 #[rv sx, rv a] [.null, (.int (3 : Int32)), (.int (0 : Int32)), (.ref a), (.ref sx)])) rfl (by rw [hml]; rfl) (Steps.refl _) (a := sx) (argsL := [(.ref a), (.int (0 : Int32)), (.int (3 : Int32)), .null]) (rest := []) (lenOf own_pd7 rfl) rfl (by show 2 * 0 + _ ≤ _; exact Nat.le_of_eq rfl) (hb hby own_d_jdk_42_method_3_6) (fun _ _ => ⟨rfl, e0, (by decide : 0 + 2 ≤ _), (by decide : 0 + 9 ≤ _)⟩)
  dsimp only [Pt.U, Pt.locs, Pt.cells, Pt.slots] at X150 l150 y150 z150 st150 hQ150
  subst l150 y150 z150
  obtain ⟨rfl, N150q, K150, hrest150⟩ := hQ150
  have N150 := Fr.app N0 N150q
  have OL := OL.keep K150 (allS ge_sx all0)
  have KP := KP.trans K150 (allS (Or.inl (List.mem_of_getElem? (i := 0) rfl)) all0)
  have Va := Va.keep K150 (ninS (Ne.symm ne_sx_a) nin0)
  refine own_via (mkF m 9 #[rv sx, rv a] []) st150 ?_
  exact own_ret0 X150 hx Bd.returns hlk (hb hby own_d_jdk_42_method_3_9) (by decide) (by decide) (by exact ⟨rfl, N150, KP, hrest150⟩)
def own_QC5_4 (Z : State) (x0 x1 x2 x3 : Int32) (a : Addr) (ka : ClassId) (b : Addr) (kb : ClassId) (h0 : Heap) (n0 : Nat) (v : Option Value) (h : Heap) (L : List Loc) : Prop := Fr n0 L ∧ Keep h0 h [b] ∧ ((v = some (.int (4 : Int32)) ∧ ¬ ((255 : Int32) < x0) ∧ ¬ ((255 : Int32) < x1) ∧ ¬ ((255 : Int32) < x2) ∧ ¬ ((255 : Int32) < x3) ∧ Arv Z h b kb .byte (4 : Int32) [(.int (x0.toInt8.toInt32)), (.int (x1.toInt8.toInt32)), (.int (x2.toInt8.toInt32)), (.int (x3.toInt8.toInt32))] (.int (0 : Int32))) ∨ (v = some (.int (0 : Int32)) ∧ (255 : Int32) < x0) ∨ (v = some (.int (1 : Int32)) ∧ (255 : Int32) < x1) ∨ (v = some (.int (2 : Int32)) ∧ (255 : Int32) < x2) ∨ (v = some (.int (3 : Int32)) ∧ (255 : Int32) < x3))
set_option maxRecDepth 65536 in
set_option maxHeartbeats 40000000 in
theorem own_rmC5_4 (l : Launch) (Z : State) (a0 : Array Value) (hw : ∀ d ∈ tables_1, d.before a0 Z = true) (ws : List Jvm.Cond) (x0 x1 x2 x3 : Int32) (a : Addr) (ka : ClassId) (b : Addr) (kb : ClassId) (h0 : Heap) (n0 : Nat) (Z0 : n0 ≤ h0.size) (OL : Old Z n0 h0) (ne_a_b : a ≠ b) (ge_b : n0 ≤ b) (Va : Arv Z h0 a ka .char (4 : Int32) [(.int x0), (.int x1), (.int x2), (.int x3)] (.int (0 : Int32))) (Vb : Arv Z h0 b kb .byte (4 : Int32) [(.int (0 : Int32)), (.int (0 : Int32)), (.int (0 : Int32)), (.int (0 : Int32))] (.int (0 : Int32))) :
    MetFree l (⟨"java/lang/StringUTF16", "compress", "([CI[BII)I"⟩ : MethodName) (head1 (Jvm.Cond.code (⟨"java/lang/StringUTF16", "compress", "([CI[BII)I"⟩ : MethodName) jdk_52_method_21_code 7 (some .int) :: ws) ({ frames := 0, cells := 0, slots := 0, locals := 0 } : Room)) (fun aa_ U => aa_ = #[(.ref a), (.int (0 : Int32)), (.ref b), (.int (0 : Int32)), (.int (4 : Int32))] ∧ Z.Warmed39 U.vm ∧ U.heap = h0) (fun _ _ _ _ _ => True) (fun _ U o U' => ∃ v L, o = .returned v ∧ own_QC5_4 Z x0 x1 x2 x3 a ka b kb h0 n0 v U'.heap L ∧ FrameEnd U o U' L ({ frames := 0, cells := 0, slots := 0, locals := 0 } : Room).cells ({ frames := 0, cells := 0, slots := 0, locals := 0 } : Room).slots) := by
  refine MetFree.of_bodySF (plainFor_of_name own_pn0) hisR ?_
  intro p e s m args below meth c s₁ Bd hml0 hP hK
  obtain ⟨rfl, hZ, hh⟩ := hP
  have hx := Bd.exec
  have hby := Bd.bytes
  have hlk : meth.locks = false := BodyLoose.notSynchronized Bd
  have hml : c.maxLocals = 7 := hml0
  have hown : s.vm.findClass "java/lang/StringUTF16" = some m.cls := findClass_of_methodNamed Bd.named
  have hnm := (name_of_methodNamed Bd.named Bd.method).1
  have X0 : Stand p l e ({ frames := 0, cells := 0, slots := 0, locals := 0 } : Room) s m #[(.ref a), (.int (0 : Int32)), (.ref b), (.int (0 : Int32)), (.int (4 : Int32))] below meth c s₁ [] 0 0 := Stand.of_body Bd
  have e0 : s₁.heap = h0 := by rw [← hh, Bd.state]; rfl
  have N0 := Fr.nil n0
  have KP : Keep h0 h0 [b] := Keep.refl _ _
  refine own_start (Fin := (own_Fin s (own_QC5_4 Z x0 x1 x2 x3 a ka b kb h0 n0) ({ frames := 0, cells := 0, slots := 0, locals := 0 } : Room).cells ({ frames := 0, cells := 0, slots := 0, locals := 0 } : Room).slots)) (own_from (mkF m 0 #[rv a, iv 0, rv b, iv 0, iv 4, .unset, .unset] []) (castTop (own_ef_C5_4 m a (0 : Int32) b (0 : Int32) (4 : Int32))) ?_)
  refine own_to (T' := s₁) (mkF m 1 #[rv a, iv 0, rv b, iv 0, iv 4, .unset, .unset] [(.int (0 : Int32))]) (fun _ k => XS.iconst X0.here hx rfl (hb hby own_d_jdk_52_method_21_0) k) ?_
  refine own_to (T' := s₁) (mkF m 3 #[rv a, iv 0, rv b, iv 0, iv 4, iv 0, .unset] []) (fun _ k => XS.istore X0.here hx rfl (hb hby own_d_jdk_52_method_21_1) rfl (l' := #[rv a, iv 0, rv b, iv 0, iv 4, iv 0, .unset]) rfl k) ?_
  refine own_to (T' := s₁) (mkF m 5 #[rv a, iv 0, rv b, iv 0, iv 4, iv 0, .unset] [(.int (0 : Int32))]) (fun _ k => XS.iload X0.here hx rfl (hb hby own_d_jdk_52_method_21_3) rfl k) ?_
  refine own_to (T' := s₁) (mkF m 7 #[rv a, iv 0, rv b, iv 0, iv 4, iv 0, .unset] [(.int (4 : Int32)), (.int (0 : Int32))]) (fun _ k => XS.iload X0.here hx rfl (hb hby own_d_jdk_52_method_21_5) rfl k) ?_
  refine own_to (T' := s₁) (mkF m 10 #[rv a, iv 0, rv b, iv 0, iv 4, iv 0, .unset] []) (fun _ k => XS.icmpNo X0.here hx rfl (hb hby own_d_jdk_52_method_21_7) rfl (tlt (by decide : (0 : Int32) < (4 : Int32))).2.1 k) ?_
  refine own_to (T' := s₁) (mkF m 11 #[rv a, iv 0, rv b, iv 0, iv 4, iv 0, .unset] [(.ref a)]) (fun _ k => XS.aloadN X0.here hx rfl (hb hby own_d_jdk_52_method_21_10) rfl rfl k) ?_
  refine own_to (T' := s₁) (mkF m 12 #[rv a, iv 0, rv b, iv 0, iv 4, iv 0, .unset] [(.int (0 : Int32)), (.ref a)]) (fun _ k => XS.iloadN X0.here hx rfl (hb hby own_d_jdk_52_method_21_11) rfl k) ?_
  obtain ⟨cl151, Ar151, -, S151, -, H151, -⟩ := id Va
  refine own_to (mkF m 13 #[rv a, iv 0, rv b, iv 0, iv 4, iv 0, .unset] [(.int x0)]) (X0.caload hx (j := (0 : Int32)) (v := (.int x0)) (by rw [e0]; exact Ar151.1) (State.isArrayOf_alike hZ.alike Ar151.2.1) Ar151.2.2 (inb_of S151 ⟨by decide, by decide⟩) (H151.at (inb_of S151 ⟨by decide, by decide⟩) rfl) (g := (mkF m 12 #[rv a, iv 0, rv b, iv 0, iv 4, iv 0, .unset] [(.int (0 : Int32)), (.ref a)])) rfl rfl (hb hby own_d_jdk_52_method_21_12)) ?_
  refine own_to (T' := s₁) (mkF m 15 #[rv a, iv 0, rv b, iv 0, iv 4, iv 0, iv x0] []) (fun _ k => XS.istore X0.here hx rfl (hb hby own_d_jdk_52_method_21_13) rfl (l' := #[rv a, iv 0, rv b, iv 0, iv 4, iv 0, iv x0]) rfl k) ?_
  refine own_to (T' := s₁) (mkF m 17 #[rv a, iv 0, rv b, iv 0, iv 4, iv 0, iv x0] [(.int x0)]) (fun _ k => XS.iload X0.here hx rfl (hb hby own_d_jdk_52_method_21_15) rfl k) ?_
  refine own_to (T' := s₁) (mkF m 20 #[rv a, iv 0, rv b, iv 0, iv 4, iv 0, iv x0] [(.int (255 : Int32)), (.int x0)]) (fun _ k => XS.sipush X0.here hx rfl (hb hby own_d_jdk_52_method_21_17) k) ?_
  by_cases hb0 : (255 : Int32) < x0
  · refine own_to (T' := s₁) (mkF m 23 #[rv a, iv 0, rv b, iv 0, iv 4, iv 0, iv x0] []) (fun _ k => XS.icmpNo X0.here hx rfl (hb hby own_d_jdk_52_method_21_20) rfl (tlt hb0).2.2.2 k) ?_
    refine own_to (T' := s₁) (mkF m 25 #[rv a, iv 0, rv b, iv 0, iv 4, iv 0, iv x0] [(.int (0 : Int32))]) (fun _ k => XS.iload X0.here hx rfl (hb hby own_d_jdk_52_method_21_23) rfl k) ?_
    exact own_retI X0 hx Bd.returns hlk (hb hby own_d_jdk_52_method_21_25) (by decide) (by decide) (by rw [e0]; exact ⟨N0, KP, (Or.inr (Or.inl ⟨rfl, hb0⟩))⟩)
  · refine own_to (T' := s₁) (mkF m 26 #[rv a, iv 0, rv b, iv 0, iv 4, iv 0, iv x0] []) (fun _ k => XS.icmpYes X0.here hx rfl (pc0 := 20) (pc' := 26) rfl (hb hby own_d_jdk_52_method_21_20) rfl (flt hb0).2.2.2 (by decide) (by decide) k) ?_
    refine own_to (T' := s₁) (mkF m 27 #[rv a, iv 0, rv b, iv 0, iv 4, iv 0, iv x0] [(.ref b)]) (fun _ k => XS.aloadN X0.here hx rfl (hb hby own_d_jdk_52_method_21_26) rfl rfl k) ?_
    refine own_to (T' := s₁) (mkF m 28 #[rv a, iv 0, rv b, iv 0, iv 4, iv 0, iv x0] [(.int (0 : Int32)), (.ref b)]) (fun _ k => XS.iloadN X0.here hx rfl (hb hby own_d_jdk_52_method_21_27) rfl k) ?_
    refine own_to (T' := s₁) (mkF m 30 #[rv a, iv 0, rv b, iv 0, iv 4, iv 0, iv x0] [(.int x0), (.int (0 : Int32)), (.ref b)]) (fun _ k => XS.iload X0.here hx rfl (hb hby own_d_jdk_52_method_21_28) rfl k) ?_
    refine own_to (T' := s₁) (mkF m 31 #[rv a, iv 0, rv b, iv 0, iv 4, iv 0, iv x0] [(.int (x0.toInt8.toInt32)), (.int (0 : Int32)), (.ref b)]) (fun _ k => XS.i2b X0.here hx rfl (hb hby own_d_jdk_52_method_21_30) rfl k) ?_
    obtain ⟨cl152, Ar152, q152, S152, M152, H152, G152⟩ := id Vb
    obtain ⟨T152, h152, X152, e152, W152, st152⟩ := stB X0 hx hZ e0 Ar152 (j := (0 : Int32)) (inb_of S152 ⟨by decide, by decide⟩) (g := (mkF m 31 #[rv a, iv 0, rv b, iv 0, iv 4, iv 0, iv x0] [(.int (x0.toInt8.toInt32)), (.int (0 : Int32)), (.ref b)])) rfl rfl (hb hby own_d_jdk_52_method_21_31)
    refine own_to (mkF m 32 #[rv a, iv 0, rv b, iv 0, iv 4, iv 0, iv x0] []) st152 ?_
    have N152 := Fr.snoc X152 N0 ge_b
    have tmp152 : Arv Z h152 b kb .byte (4 : Int32) [(.int ((x0.toInt8.toInt32).toInt8.toInt32)), (.int (0 : Int32)), (.int (0 : Int32)), (.int (0 : Int32))] (.int (0 : Int32)) := Arv.set Ar152 q152 S152 M152 H152 G152 (fits_nar_byte _) W152 0 rfl (Nat.le_of_ble_eq_true rfl)
    rw [own_b8] at tmp152
    have OL := OL.wr W152 ge_b
    have KP := KP.wr W152 (Or.inl (List.mem_of_getElem? (i := 0) rfl))
    have Va := Va.other W152 ne_a_b
    have Vb := tmp152
    refine own_to (T' := T152) (mkF m 35 #[rv a, iv 1, rv b, iv 0, iv 4, iv 0, iv x0] []) (fun _ k => XS.iinc X152.here hx rfl (hb hby own_d_jdk_52_method_21_32) rfl (l' := #[rv a, iv 1, rv b, iv 0, iv 4, iv 0, iv x0]) rfl k) ?_
    refine own_to (T' := T152) (mkF m 38 #[rv a, iv 1, rv b, iv 1, iv 4, iv 0, iv x0] []) (fun _ k => XS.iinc X152.here hx rfl (hb hby own_d_jdk_52_method_21_35) rfl (l' := #[rv a, iv 1, rv b, iv 1, iv 4, iv 0, iv x0]) rfl k) ?_
    refine own_to (T' := T152) (mkF m 41 #[rv a, iv 1, rv b, iv 1, iv 4, iv 1, iv x0] []) (fun _ k => XS.iinc X152.here hx rfl (hb hby own_d_jdk_52_method_21_38) rfl (l' := #[rv a, iv 1, rv b, iv 1, iv 4, iv 1, iv x0]) rfl k) ?_
    refine own_to (T' := T152) (mkF m 3 #[rv a, iv 1, rv b, iv 1, iv 4, iv 1, iv x0] []) (fun _ k => XS.goto X152.here hx rfl (pc0 := 41) (pc' := 3) rfl (hb hby own_d_jdk_52_method_21_41) (by decide) (by decide) k) ?_
    refine own_to (T' := T152) (mkF m 5 #[rv a, iv 1, rv b, iv 1, iv 4, iv 1, iv x0] [(.int (1 : Int32))]) (fun _ k => XS.iload X152.here hx rfl (hb hby own_d_jdk_52_method_21_3) rfl k) ?_
    refine own_to (T' := T152) (mkF m 7 #[rv a, iv 1, rv b, iv 1, iv 4, iv 1, iv x0] [(.int (4 : Int32)), (.int (1 : Int32))]) (fun _ k => XS.iload X152.here hx rfl (hb hby own_d_jdk_52_method_21_5) rfl k) ?_
    refine own_to (T' := T152) (mkF m 10 #[rv a, iv 1, rv b, iv 1, iv 4, iv 1, iv x0] []) (fun _ k => XS.icmpNo X152.here hx rfl (hb hby own_d_jdk_52_method_21_7) rfl (tlt (by decide : (1 : Int32) < (4 : Int32))).2.1 k) ?_
    refine own_to (T' := T152) (mkF m 11 #[rv a, iv 1, rv b, iv 1, iv 4, iv 1, iv x0] [(.ref a)]) (fun _ k => XS.aloadN X152.here hx rfl (hb hby own_d_jdk_52_method_21_10) rfl rfl k) ?_
    refine own_to (T' := T152) (mkF m 12 #[rv a, iv 1, rv b, iv 1, iv 4, iv 1, iv x0] [(.int (1 : Int32)), (.ref a)]) (fun _ k => XS.iloadN X152.here hx rfl (hb hby own_d_jdk_52_method_21_11) rfl k) ?_
    obtain ⟨cl153, Ar153, -, S153, -, H153, -⟩ := id Va
    refine own_to (mkF m 13 #[rv a, iv 1, rv b, iv 1, iv 4, iv 1, iv x0] [(.int x1)]) (X152.caload hx (j := (1 : Int32)) (v := (.int x1)) (by rw [e152]; exact Ar153.1) (State.isArrayOf_alike hZ.alike Ar153.2.1) Ar153.2.2 (inb_of S153 ⟨by decide, by decide⟩) (H153.at (inb_of S153 ⟨by decide, by decide⟩) rfl) (g := (mkF m 12 #[rv a, iv 1, rv b, iv 1, iv 4, iv 1, iv x0] [(.int (1 : Int32)), (.ref a)])) rfl rfl (hb hby own_d_jdk_52_method_21_12)) ?_
    refine own_to (T' := T152) (mkF m 15 #[rv a, iv 1, rv b, iv 1, iv 4, iv 1, iv x1] []) (fun _ k => XS.istore X152.here hx rfl (hb hby own_d_jdk_52_method_21_13) rfl (l' := #[rv a, iv 1, rv b, iv 1, iv 4, iv 1, iv x1]) rfl k) ?_
    refine own_to (T' := T152) (mkF m 17 #[rv a, iv 1, rv b, iv 1, iv 4, iv 1, iv x1] [(.int x1)]) (fun _ k => XS.iload X152.here hx rfl (hb hby own_d_jdk_52_method_21_15) rfl k) ?_
    refine own_to (T' := T152) (mkF m 20 #[rv a, iv 1, rv b, iv 1, iv 4, iv 1, iv x1] [(.int (255 : Int32)), (.int x1)]) (fun _ k => XS.sipush X152.here hx rfl (hb hby own_d_jdk_52_method_21_17) k) ?_
    by_cases hb1 : (255 : Int32) < x1
    · refine own_to (T' := T152) (mkF m 23 #[rv a, iv 1, rv b, iv 1, iv 4, iv 1, iv x1] []) (fun _ k => XS.icmpNo X152.here hx rfl (hb hby own_d_jdk_52_method_21_20) rfl (tlt hb1).2.2.2 k) ?_
      refine own_to (T' := T152) (mkF m 25 #[rv a, iv 1, rv b, iv 1, iv 4, iv 1, iv x1] [(.int (1 : Int32))]) (fun _ k => XS.iload X152.here hx rfl (hb hby own_d_jdk_52_method_21_23) rfl k) ?_
      exact own_retI X152 hx Bd.returns hlk (hb hby own_d_jdk_52_method_21_25) (by decide) (by decide) (by rw [e152]; exact ⟨N152, KP, (Or.inr (Or.inr (Or.inl ⟨rfl, hb1⟩)))⟩)
    · refine own_to (T' := T152) (mkF m 26 #[rv a, iv 1, rv b, iv 1, iv 4, iv 1, iv x1] []) (fun _ k => XS.icmpYes X152.here hx rfl (pc0 := 20) (pc' := 26) rfl (hb hby own_d_jdk_52_method_21_20) rfl (flt hb1).2.2.2 (by decide) (by decide) k) ?_
      refine own_to (T' := T152) (mkF m 27 #[rv a, iv 1, rv b, iv 1, iv 4, iv 1, iv x1] [(.ref b)]) (fun _ k => XS.aloadN X152.here hx rfl (hb hby own_d_jdk_52_method_21_26) rfl rfl k) ?_
      refine own_to (T' := T152) (mkF m 28 #[rv a, iv 1, rv b, iv 1, iv 4, iv 1, iv x1] [(.int (1 : Int32)), (.ref b)]) (fun _ k => XS.iloadN X152.here hx rfl (hb hby own_d_jdk_52_method_21_27) rfl k) ?_
      refine own_to (T' := T152) (mkF m 30 #[rv a, iv 1, rv b, iv 1, iv 4, iv 1, iv x1] [(.int x1), (.int (1 : Int32)), (.ref b)]) (fun _ k => XS.iload X152.here hx rfl (hb hby own_d_jdk_52_method_21_28) rfl k) ?_
      refine own_to (T' := T152) (mkF m 31 #[rv a, iv 1, rv b, iv 1, iv 4, iv 1, iv x1] [(.int (x1.toInt8.toInt32)), (.int (1 : Int32)), (.ref b)]) (fun _ k => XS.i2b X152.here hx rfl (hb hby own_d_jdk_52_method_21_30) rfl k) ?_
      obtain ⟨cl154, Ar154, q154, S154, M154, H154, G154⟩ := id Vb
      obtain ⟨T154, h154, X154, e154, W154, st154⟩ := stB X152 hx hZ e152 Ar154 (j := (1 : Int32)) (inb_of S154 ⟨by decide, by decide⟩) (g := (mkF m 31 #[rv a, iv 1, rv b, iv 1, iv 4, iv 1, iv x1] [(.int (x1.toInt8.toInt32)), (.int (1 : Int32)), (.ref b)])) rfl rfl (hb hby own_d_jdk_52_method_21_31)
      refine own_to (mkF m 32 #[rv a, iv 1, rv b, iv 1, iv 4, iv 1, iv x1] []) st154 ?_
      have N154 := Fr.snoc X154 N152 ge_b
      have tmp154 : Arv Z h154 b kb .byte (4 : Int32) [(.int (x0.toInt8.toInt32)), (.int ((x1.toInt8.toInt32).toInt8.toInt32)), (.int (0 : Int32)), (.int (0 : Int32))] (.int (0 : Int32)) := Arv.set Ar154 q154 S154 M154 H154 G154 (fits_nar_byte _) W154 1 rfl (Nat.le_of_ble_eq_true rfl)
      rw [own_b8] at tmp154
      have OL := OL.wr W154 ge_b
      have KP := KP.wr W154 (Or.inl (List.mem_of_getElem? (i := 0) rfl))
      have Va := Va.other W154 ne_a_b
      have Vb := tmp154
      refine own_to (T' := T154) (mkF m 35 #[rv a, iv 2, rv b, iv 1, iv 4, iv 1, iv x1] []) (fun _ k => XS.iinc X154.here hx rfl (hb hby own_d_jdk_52_method_21_32) rfl (l' := #[rv a, iv 2, rv b, iv 1, iv 4, iv 1, iv x1]) rfl k) ?_
      refine own_to (T' := T154) (mkF m 38 #[rv a, iv 2, rv b, iv 2, iv 4, iv 1, iv x1] []) (fun _ k => XS.iinc X154.here hx rfl (hb hby own_d_jdk_52_method_21_35) rfl (l' := #[rv a, iv 2, rv b, iv 2, iv 4, iv 1, iv x1]) rfl k) ?_
      refine own_to (T' := T154) (mkF m 41 #[rv a, iv 2, rv b, iv 2, iv 4, iv 2, iv x1] []) (fun _ k => XS.iinc X154.here hx rfl (hb hby own_d_jdk_52_method_21_38) rfl (l' := #[rv a, iv 2, rv b, iv 2, iv 4, iv 2, iv x1]) rfl k) ?_
      refine own_to (T' := T154) (mkF m 3 #[rv a, iv 2, rv b, iv 2, iv 4, iv 2, iv x1] []) (fun _ k => XS.goto X154.here hx rfl (pc0 := 41) (pc' := 3) rfl (hb hby own_d_jdk_52_method_21_41) (by decide) (by decide) k) ?_
      refine own_to (T' := T154) (mkF m 5 #[rv a, iv 2, rv b, iv 2, iv 4, iv 2, iv x1] [(.int (2 : Int32))]) (fun _ k => XS.iload X154.here hx rfl (hb hby own_d_jdk_52_method_21_3) rfl k) ?_
      refine own_to (T' := T154) (mkF m 7 #[rv a, iv 2, rv b, iv 2, iv 4, iv 2, iv x1] [(.int (4 : Int32)), (.int (2 : Int32))]) (fun _ k => XS.iload X154.here hx rfl (hb hby own_d_jdk_52_method_21_5) rfl k) ?_
      refine own_to (T' := T154) (mkF m 10 #[rv a, iv 2, rv b, iv 2, iv 4, iv 2, iv x1] []) (fun _ k => XS.icmpNo X154.here hx rfl (hb hby own_d_jdk_52_method_21_7) rfl (tlt (by decide : (2 : Int32) < (4 : Int32))).2.1 k) ?_
      refine own_to (T' := T154) (mkF m 11 #[rv a, iv 2, rv b, iv 2, iv 4, iv 2, iv x1] [(.ref a)]) (fun _ k => XS.aloadN X154.here hx rfl (hb hby own_d_jdk_52_method_21_10) rfl rfl k) ?_
      refine own_to (T' := T154) (mkF m 12 #[rv a, iv 2, rv b, iv 2, iv 4, iv 2, iv x1] [(.int (2 : Int32)), (.ref a)]) (fun _ k => XS.iloadN X154.here hx rfl (hb hby own_d_jdk_52_method_21_11) rfl k) ?_
      obtain ⟨cl155, Ar155, -, S155, -, H155, -⟩ := id Va
      refine own_to (mkF m 13 #[rv a, iv 2, rv b, iv 2, iv 4, iv 2, iv x1] [(.int x2)]) (X154.caload hx (j := (2 : Int32)) (v := (.int x2)) (by rw [e154]; exact Ar155.1) (State.isArrayOf_alike hZ.alike Ar155.2.1) Ar155.2.2 (inb_of S155 ⟨by decide, by decide⟩) (H155.at (inb_of S155 ⟨by decide, by decide⟩) rfl) (g := (mkF m 12 #[rv a, iv 2, rv b, iv 2, iv 4, iv 2, iv x1] [(.int (2 : Int32)), (.ref a)])) rfl rfl (hb hby own_d_jdk_52_method_21_12)) ?_
      refine own_to (T' := T154) (mkF m 15 #[rv a, iv 2, rv b, iv 2, iv 4, iv 2, iv x2] []) (fun _ k => XS.istore X154.here hx rfl (hb hby own_d_jdk_52_method_21_13) rfl (l' := #[rv a, iv 2, rv b, iv 2, iv 4, iv 2, iv x2]) rfl k) ?_
      refine own_to (T' := T154) (mkF m 17 #[rv a, iv 2, rv b, iv 2, iv 4, iv 2, iv x2] [(.int x2)]) (fun _ k => XS.iload X154.here hx rfl (hb hby own_d_jdk_52_method_21_15) rfl k) ?_
      refine own_to (T' := T154) (mkF m 20 #[rv a, iv 2, rv b, iv 2, iv 4, iv 2, iv x2] [(.int (255 : Int32)), (.int x2)]) (fun _ k => XS.sipush X154.here hx rfl (hb hby own_d_jdk_52_method_21_17) k) ?_
      by_cases hb2 : (255 : Int32) < x2
      · refine own_to (T' := T154) (mkF m 23 #[rv a, iv 2, rv b, iv 2, iv 4, iv 2, iv x2] []) (fun _ k => XS.icmpNo X154.here hx rfl (hb hby own_d_jdk_52_method_21_20) rfl (tlt hb2).2.2.2 k) ?_
        refine own_to (T' := T154) (mkF m 25 #[rv a, iv 2, rv b, iv 2, iv 4, iv 2, iv x2] [(.int (2 : Int32))]) (fun _ k => XS.iload X154.here hx rfl (hb hby own_d_jdk_52_method_21_23) rfl k) ?_
        exact own_retI X154 hx Bd.returns hlk (hb hby own_d_jdk_52_method_21_25) (by decide) (by decide) (by rw [e154]; exact ⟨N154, KP, (Or.inr (Or.inr (Or.inr (Or.inl ⟨rfl, hb2⟩))))⟩)
      · refine own_to (T' := T154) (mkF m 26 #[rv a, iv 2, rv b, iv 2, iv 4, iv 2, iv x2] []) (fun _ k => XS.icmpYes X154.here hx rfl (pc0 := 20) (pc' := 26) rfl (hb hby own_d_jdk_52_method_21_20) rfl (flt hb2).2.2.2 (by decide) (by decide) k) ?_
        refine own_to (T' := T154) (mkF m 27 #[rv a, iv 2, rv b, iv 2, iv 4, iv 2, iv x2] [(.ref b)]) (fun _ k => XS.aloadN X154.here hx rfl (hb hby own_d_jdk_52_method_21_26) rfl rfl k) ?_
        refine own_to (T' := T154) (mkF m 28 #[rv a, iv 2, rv b, iv 2, iv 4, iv 2, iv x2] [(.int (2 : Int32)), (.ref b)]) (fun _ k => XS.iloadN X154.here hx rfl (hb hby own_d_jdk_52_method_21_27) rfl k) ?_
        refine own_to (T' := T154) (mkF m 30 #[rv a, iv 2, rv b, iv 2, iv 4, iv 2, iv x2] [(.int x2), (.int (2 : Int32)), (.ref b)]) (fun _ k => XS.iload X154.here hx rfl (hb hby own_d_jdk_52_method_21_28) rfl k) ?_
        refine own_to (T' := T154) (mkF m 31 #[rv a, iv 2, rv b, iv 2, iv 4, iv 2, iv x2] [(.int (x2.toInt8.toInt32)), (.int (2 : Int32)), (.ref b)]) (fun _ k => XS.i2b X154.here hx rfl (hb hby own_d_jdk_52_method_21_30) rfl k) ?_
        obtain ⟨cl156, Ar156, q156, S156, M156, H156, G156⟩ := id Vb
        obtain ⟨T156, h156, X156, e156, W156, st156⟩ := stB X154 hx hZ e154 Ar156 (j := (2 : Int32)) (inb_of S156 ⟨by decide, by decide⟩) (g := (mkF m 31 #[rv a, iv 2, rv b, iv 2, iv 4, iv 2, iv x2] [(.int (x2.toInt8.toInt32)), (.int (2 : Int32)), (.ref b)])) rfl rfl (hb hby own_d_jdk_52_method_21_31)
        refine own_to (mkF m 32 #[rv a, iv 2, rv b, iv 2, iv 4, iv 2, iv x2] []) st156 ?_
        have N156 := Fr.snoc X156 N154 ge_b
        have tmp156 : Arv Z h156 b kb .byte (4 : Int32) [(.int (x0.toInt8.toInt32)), (.int (x1.toInt8.toInt32)), (.int ((x2.toInt8.toInt32).toInt8.toInt32)), (.int (0 : Int32))] (.int (0 : Int32)) := Arv.set Ar156 q156 S156 M156 H156 G156 (fits_nar_byte _) W156 2 rfl (Nat.le_of_ble_eq_true rfl)
        rw [own_b8] at tmp156
        have OL := OL.wr W156 ge_b
        have KP := KP.wr W156 (Or.inl (List.mem_of_getElem? (i := 0) rfl))
        have Va := Va.other W156 ne_a_b
        have Vb := tmp156
        refine own_to (T' := T156) (mkF m 35 #[rv a, iv 3, rv b, iv 2, iv 4, iv 2, iv x2] []) (fun _ k => XS.iinc X156.here hx rfl (hb hby own_d_jdk_52_method_21_32) rfl (l' := #[rv a, iv 3, rv b, iv 2, iv 4, iv 2, iv x2]) rfl k) ?_
        refine own_to (T' := T156) (mkF m 38 #[rv a, iv 3, rv b, iv 3, iv 4, iv 2, iv x2] []) (fun _ k => XS.iinc X156.here hx rfl (hb hby own_d_jdk_52_method_21_35) rfl (l' := #[rv a, iv 3, rv b, iv 3, iv 4, iv 2, iv x2]) rfl k) ?_
        refine own_to (T' := T156) (mkF m 41 #[rv a, iv 3, rv b, iv 3, iv 4, iv 3, iv x2] []) (fun _ k => XS.iinc X156.here hx rfl (hb hby own_d_jdk_52_method_21_38) rfl (l' := #[rv a, iv 3, rv b, iv 3, iv 4, iv 3, iv x2]) rfl k) ?_
        refine own_to (T' := T156) (mkF m 3 #[rv a, iv 3, rv b, iv 3, iv 4, iv 3, iv x2] []) (fun _ k => XS.goto X156.here hx rfl (pc0 := 41) (pc' := 3) rfl (hb hby own_d_jdk_52_method_21_41) (by decide) (by decide) k) ?_
        refine own_to (T' := T156) (mkF m 5 #[rv a, iv 3, rv b, iv 3, iv 4, iv 3, iv x2] [(.int (3 : Int32))]) (fun _ k => XS.iload X156.here hx rfl (hb hby own_d_jdk_52_method_21_3) rfl k) ?_
        refine own_to (T' := T156) (mkF m 7 #[rv a, iv 3, rv b, iv 3, iv 4, iv 3, iv x2] [(.int (4 : Int32)), (.int (3 : Int32))]) (fun _ k => XS.iload X156.here hx rfl (hb hby own_d_jdk_52_method_21_5) rfl k) ?_
        refine own_to (T' := T156) (mkF m 10 #[rv a, iv 3, rv b, iv 3, iv 4, iv 3, iv x2] []) (fun _ k => XS.icmpNo X156.here hx rfl (hb hby own_d_jdk_52_method_21_7) rfl (tlt (by decide : (3 : Int32) < (4 : Int32))).2.1 k) ?_
        refine own_to (T' := T156) (mkF m 11 #[rv a, iv 3, rv b, iv 3, iv 4, iv 3, iv x2] [(.ref a)]) (fun _ k => XS.aloadN X156.here hx rfl (hb hby own_d_jdk_52_method_21_10) rfl rfl k) ?_
        refine own_to (T' := T156) (mkF m 12 #[rv a, iv 3, rv b, iv 3, iv 4, iv 3, iv x2] [(.int (3 : Int32)), (.ref a)]) (fun _ k => XS.iloadN X156.here hx rfl (hb hby own_d_jdk_52_method_21_11) rfl k) ?_
        obtain ⟨cl157, Ar157, -, S157, -, H157, -⟩ := id Va
        refine own_to (mkF m 13 #[rv a, iv 3, rv b, iv 3, iv 4, iv 3, iv x2] [(.int x3)]) (X156.caload hx (j := (3 : Int32)) (v := (.int x3)) (by rw [e156]; exact Ar157.1) (State.isArrayOf_alike hZ.alike Ar157.2.1) Ar157.2.2 (inb_of S157 ⟨by decide, by decide⟩) (H157.at (inb_of S157 ⟨by decide, by decide⟩) rfl) (g := (mkF m 12 #[rv a, iv 3, rv b, iv 3, iv 4, iv 3, iv x2] [(.int (3 : Int32)), (.ref a)])) rfl rfl (hb hby own_d_jdk_52_method_21_12)) ?_
        refine own_to (T' := T156) (mkF m 15 #[rv a, iv 3, rv b, iv 3, iv 4, iv 3, iv x3] []) (fun _ k => XS.istore X156.here hx rfl (hb hby own_d_jdk_52_method_21_13) rfl (l' := #[rv a, iv 3, rv b, iv 3, iv 4, iv 3, iv x3]) rfl k) ?_
        refine own_to (T' := T156) (mkF m 17 #[rv a, iv 3, rv b, iv 3, iv 4, iv 3, iv x3] [(.int x3)]) (fun _ k => XS.iload X156.here hx rfl (hb hby own_d_jdk_52_method_21_15) rfl k) ?_
        refine own_to (T' := T156) (mkF m 20 #[rv a, iv 3, rv b, iv 3, iv 4, iv 3, iv x3] [(.int (255 : Int32)), (.int x3)]) (fun _ k => XS.sipush X156.here hx rfl (hb hby own_d_jdk_52_method_21_17) k) ?_
        by_cases hb3 : (255 : Int32) < x3
        · refine own_to (T' := T156) (mkF m 23 #[rv a, iv 3, rv b, iv 3, iv 4, iv 3, iv x3] []) (fun _ k => XS.icmpNo X156.here hx rfl (hb hby own_d_jdk_52_method_21_20) rfl (tlt hb3).2.2.2 k) ?_
          refine own_to (T' := T156) (mkF m 25 #[rv a, iv 3, rv b, iv 3, iv 4, iv 3, iv x3] [(.int (3 : Int32))]) (fun _ k => XS.iload X156.here hx rfl (hb hby own_d_jdk_52_method_21_23) rfl k) ?_
          exact own_retI X156 hx Bd.returns hlk (hb hby own_d_jdk_52_method_21_25) (by decide) (by decide) (by rw [e156]; exact ⟨N156, KP, (Or.inr (Or.inr (Or.inr (Or.inr ⟨rfl, hb3⟩))))⟩)
        · refine own_to (T' := T156) (mkF m 26 #[rv a, iv 3, rv b, iv 3, iv 4, iv 3, iv x3] []) (fun _ k => XS.icmpYes X156.here hx rfl (pc0 := 20) (pc' := 26) rfl (hb hby own_d_jdk_52_method_21_20) rfl (flt hb3).2.2.2 (by decide) (by decide) k) ?_
          refine own_to (T' := T156) (mkF m 27 #[rv a, iv 3, rv b, iv 3, iv 4, iv 3, iv x3] [(.ref b)]) (fun _ k => XS.aloadN X156.here hx rfl (hb hby own_d_jdk_52_method_21_26) rfl rfl k) ?_
          refine own_to (T' := T156) (mkF m 28 #[rv a, iv 3, rv b, iv 3, iv 4, iv 3, iv x3] [(.int (3 : Int32)), (.ref b)]) (fun _ k => XS.iloadN X156.here hx rfl (hb hby own_d_jdk_52_method_21_27) rfl k) ?_
          refine own_to (T' := T156) (mkF m 30 #[rv a, iv 3, rv b, iv 3, iv 4, iv 3, iv x3] [(.int x3), (.int (3 : Int32)), (.ref b)]) (fun _ k => XS.iload X156.here hx rfl (hb hby own_d_jdk_52_method_21_28) rfl k) ?_
          refine own_to (T' := T156) (mkF m 31 #[rv a, iv 3, rv b, iv 3, iv 4, iv 3, iv x3] [(.int (x3.toInt8.toInt32)), (.int (3 : Int32)), (.ref b)]) (fun _ k => XS.i2b X156.here hx rfl (hb hby own_d_jdk_52_method_21_30) rfl k) ?_
          obtain ⟨cl158, Ar158, q158, S158, M158, H158, G158⟩ := id Vb
          obtain ⟨T158, h158, X158, e158, W158, st158⟩ := stB X156 hx hZ e156 Ar158 (j := (3 : Int32)) (inb_of S158 ⟨by decide, by decide⟩) (g := (mkF m 31 #[rv a, iv 3, rv b, iv 3, iv 4, iv 3, iv x3] [(.int (x3.toInt8.toInt32)), (.int (3 : Int32)), (.ref b)])) rfl rfl (hb hby own_d_jdk_52_method_21_31)
          refine own_to (mkF m 32 #[rv a, iv 3, rv b, iv 3, iv 4, iv 3, iv x3] []) st158 ?_
          have N158 := Fr.snoc X158 N156 ge_b
          have tmp158 : Arv Z h158 b kb .byte (4 : Int32) [(.int (x0.toInt8.toInt32)), (.int (x1.toInt8.toInt32)), (.int (x2.toInt8.toInt32)), (.int ((x3.toInt8.toInt32).toInt8.toInt32))] (.int (0 : Int32)) := Arv.set Ar158 q158 S158 M158 H158 G158 (fits_nar_byte _) W158 3 rfl (Nat.le_of_ble_eq_true rfl)
          rw [own_b8] at tmp158
          have OL := OL.wr W158 ge_b
          have KP := KP.wr W158 (Or.inl (List.mem_of_getElem? (i := 0) rfl))
          have Va := Va.other W158 ne_a_b
          have Vb := tmp158
          refine own_to (T' := T158) (mkF m 35 #[rv a, iv 4, rv b, iv 3, iv 4, iv 3, iv x3] []) (fun _ k => XS.iinc X158.here hx rfl (hb hby own_d_jdk_52_method_21_32) rfl (l' := #[rv a, iv 4, rv b, iv 3, iv 4, iv 3, iv x3]) rfl k) ?_
          refine own_to (T' := T158) (mkF m 38 #[rv a, iv 4, rv b, iv 4, iv 4, iv 3, iv x3] []) (fun _ k => XS.iinc X158.here hx rfl (hb hby own_d_jdk_52_method_21_35) rfl (l' := #[rv a, iv 4, rv b, iv 4, iv 4, iv 3, iv x3]) rfl k) ?_
          refine own_to (T' := T158) (mkF m 41 #[rv a, iv 4, rv b, iv 4, iv 4, iv 4, iv x3] []) (fun _ k => XS.iinc X158.here hx rfl (hb hby own_d_jdk_52_method_21_38) rfl (l' := #[rv a, iv 4, rv b, iv 4, iv 4, iv 4, iv x3]) rfl k) ?_
          refine own_to (T' := T158) (mkF m 3 #[rv a, iv 4, rv b, iv 4, iv 4, iv 4, iv x3] []) (fun _ k => XS.goto X158.here hx rfl (pc0 := 41) (pc' := 3) rfl (hb hby own_d_jdk_52_method_21_41) (by decide) (by decide) k) ?_
          refine own_to (T' := T158) (mkF m 5 #[rv a, iv 4, rv b, iv 4, iv 4, iv 4, iv x3] [(.int (4 : Int32))]) (fun _ k => XS.iload X158.here hx rfl (hb hby own_d_jdk_52_method_21_3) rfl k) ?_
          refine own_to (T' := T158) (mkF m 7 #[rv a, iv 4, rv b, iv 4, iv 4, iv 4, iv x3] [(.int (4 : Int32)), (.int (4 : Int32))]) (fun _ k => XS.iload X158.here hx rfl (hb hby own_d_jdk_52_method_21_5) rfl k) ?_
          refine own_to (T' := T158) (mkF m 44 #[rv a, iv 4, rv b, iv 4, iv 4, iv 4, iv x3] []) (fun _ k => XS.icmpYes X158.here hx rfl (pc0 := 7) (pc' := 44) rfl (hb hby own_d_jdk_52_method_21_7) rfl (flt (by decide : ¬ ((4 : Int32) < (4 : Int32)))).2.1 (by decide) (by decide) k) ?_
          refine own_to (T' := T158) (mkF m 46 #[rv a, iv 4, rv b, iv 4, iv 4, iv 4, iv x3] [(.int (4 : Int32))]) (fun _ k => XS.iload X158.here hx rfl (hb hby own_d_jdk_52_method_21_44) rfl k) ?_
          exact own_retI X158 hx Bd.returns hlk (hb hby own_d_jdk_52_method_21_46) (by decide) (by decide) (by rw [e158]; exact ⟨N158, KP, Or.inl ⟨rfl, hb0, hb1, hb2, hb3, Vb⟩⟩)
def own_QNL_4 (Z : State)  (h0 : Heap) (n0 : Nat) (v : Option Value) (h : Heap) (L : List Loc) : Prop := v = some (.int (8 : Int32)) ∧ Fr n0 L ∧ h = h0
set_option maxRecDepth 65536 in
set_option maxHeartbeats 40000000 in
theorem own_rmNL_4 (l : Launch) (Z : State) (a0 : Array Value) (hw : ∀ d ∈ tables_1, d.before a0 Z = true) (ws : List Jvm.Cond)  (h0 : Heap) (n0 : Nat) (Z0 : n0 ≤ h0.size) (OL : Old Z n0 h0)  :
    MetFree l (⟨"java/lang/StringUTF16", "newBytesLength", "(I)I"⟩ : MethodName) (head1 (Jvm.Cond.code (⟨"java/lang/StringUTF16", "newBytesLength", "(I)I"⟩ : MethodName) jdk_52_method_3_code 1 (some .int) :: ws) ({ frames := 0, cells := 0, slots := 0, locals := 0 } : Room)) (fun aa_ U => aa_ = #[(.int (4 : Int32))] ∧ Z.Warmed39 U.vm ∧ U.heap = h0) (fun _ _ _ _ _ => True) (fun _ U o U' => ∃ v L, o = .returned v ∧ own_QNL_4 Z  h0 n0 v U'.heap L ∧ FrameEnd U o U' L ({ frames := 0, cells := 0, slots := 0, locals := 0 } : Room).cells ({ frames := 0, cells := 0, slots := 0, locals := 0 } : Room).slots) := by
  refine MetFree.of_bodySF (plainFor_of_name own_pn0) hisR ?_
  intro p e s m args below meth c s₁ Bd hml0 hP hK
  obtain ⟨rfl, hZ, hh⟩ := hP
  have hx := Bd.exec
  have hby := Bd.bytes
  have hlk : meth.locks = false := BodyLoose.notSynchronized Bd
  have hml : c.maxLocals = 1 := hml0
  have hown : s.vm.findClass "java/lang/StringUTF16" = some m.cls := findClass_of_methodNamed Bd.named
  have hnm := (name_of_methodNamed Bd.named Bd.method).1
  have X0 : Stand p l e ({ frames := 0, cells := 0, slots := 0, locals := 0 } : Room) s m #[(.int (4 : Int32))] below meth c s₁ [] 0 0 := Stand.of_body Bd
  have e0 : s₁.heap = h0 := by rw [← hh, Bd.state]; rfl
  have N0 := Fr.nil n0
  have KP : Keep h0 h0 [] := Keep.refl _ _
  refine own_start (Fin := (own_Fin s (own_QNL_4 Z  h0 n0) ({ frames := 0, cells := 0, slots := 0, locals := 0 } : Room).cells ({ frames := 0, cells := 0, slots := 0, locals := 0 } : Room).slots)) (own_from (mkF m 0 #[iv 4] []) (castTop (own_ef_NL_4 m (4 : Int32))) ?_)
  refine own_to (T' := s₁) (mkF m 1 #[iv 4] [(.int (4 : Int32))]) (fun _ k => XS.iloadN X0.here hx rfl (hb hby own_d_jdk_52_method_3_0) rfl k) ?_
  refine own_to (T' := s₁) (mkF m 12 #[iv 4] []) (fun _ k => XS.ifYes X0.here hx rfl (pc0 := 1) (pc' := 12) rfl (hb hby own_d_jdk_52_method_3_1) rfl ((if0 _ _).trans (flt (by decide : ¬ ((4 : Int32) < (0 : Int32)))).2.1) (by decide) (by decide) k) ?_
  refine own_to (T' := s₁) (mkF m 13 #[iv 4] [(.int (4 : Int32))]) (fun _ k => XS.iloadN X0.here hx rfl (hb hby own_d_jdk_52_method_3_12) rfl k) ?_
  refine own_to (mkF m 15 #[iv 4] [(.int (1073741823 : Int32)), (.int (4 : Int32))]) (X0.ldcInt hx hown (mvT hZ (hw _ (List.mem_of_getElem? (i := 78) rfl))) (g := (mkF m 13 #[iv 4] [(.int (4 : Int32))])) rfl (hb hby own_d_jdk_52_method_3_13)) ?_
  refine own_to (T' := s₁) (mkF m 55 #[iv 4] []) (fun _ k => XS.icmpYes X0.here hx rfl (pc0 := 15) (pc' := 55) rfl (hb hby own_d_jdk_52_method_3_15) rfl (tlt (by decide : (4 : Int32) < (1073741823 : Int32))).1 (by decide) (by decide) k) ?_
  refine own_to (T' := s₁) (mkF m 56 #[iv 4] [(.int (4 : Int32))]) (fun _ k => XS.iloadN X0.here hx rfl (hb hby own_d_jdk_52_method_3_55) rfl k) ?_
  refine own_to (T' := s₁) (mkF m 57 #[iv 4] [(.int (1 : Int32)), (.int (4 : Int32))]) (fun _ k => XS.iconst X0.here hx rfl (hb hby own_d_jdk_52_method_3_56) k) ?_
  refine own_to (T' := s₁) (mkF m 58 #[iv 4] [(.int (8 : Int32))]) (fun _ k => XS.ishl X0.here hx rfl (hb hby own_d_jdk_52_method_3_57) rfl k) ?_
  exact own_retI X0 hx Bd.returns hlk (hb hby own_d_jdk_52_method_3_58) (by decide) (by decide) (by rw [e0]; exact ⟨rfl, N0, rfl⟩)
def own_QNF_4 (Z : State)  (h0 : Heap) (n0 : Nat) (v : Option Value) (h : Heap) (L : List Loc) : Prop := ∃ (b : Addr) (kb : ClassId), v = some (.ref b) ∧ Fr n0 L ∧ Keep h0 h [] ∧ n0 ≤ b ∧ h0.size ≤ b ∧ Arv Z h b kb .byte (8 : Int32) [(.int (0 : Int32)), (.int (0 : Int32)), (.int (0 : Int32)), (.int (0 : Int32)), (.int (0 : Int32)), (.int (0 : Int32)), (.int (0 : Int32)), (.int (0 : Int32))] (.int (0 : Int32))
set_option maxRecDepth 65536 in
set_option maxHeartbeats 40000000 in
theorem own_rmNF_4 (l : Launch) (Z : State) (a0 : Array Value) (hw : ∀ d ∈ tables_1, d.before a0 Z = true) (ws : List Jvm.Cond)  (h0 : Heap) (n0 : Nat) (Z0 : n0 ≤ h0.size) (OL : Old Z n0 h0)  :
    MetFree l (⟨"java/lang/StringUTF16", "newBytesFor", "(I)[B"⟩ : MethodName) (head1 (Jvm.Cond.code (⟨"java/lang/StringUTF16", "newBytesFor", "(I)[B"⟩ : MethodName) jdk_52_method_2_code 1 (some (.array .byte)) :: ws) ({ frames := 1, cells := 1, slots := 8, locals := 20 } : Room)) (fun aa_ U => aa_ = #[(.int (4 : Int32))] ∧ Z.Warmed39 U.vm ∧ U.heap = h0) (fun _ _ _ _ _ => True) (fun _ U o U' => ∃ v L, o = .returned v ∧ own_QNF_4 Z  h0 n0 v U'.heap L ∧ FrameEnd U o U' L ({ frames := 1, cells := 1, slots := 8, locals := 20 } : Room).cells ({ frames := 1, cells := 1, slots := 8, locals := 20 } : Room).slots) := by
  refine MetFree.of_bodySF (plainFor_of_name own_pn0) hisR ?_
  intro p e s m args below meth c s₁ Bd hml0 hP hK
  obtain ⟨rfl, hZ, hh⟩ := hP
  have hx := Bd.exec
  have hby := Bd.bytes
  have hlk : meth.locks = false := BodyLoose.notSynchronized Bd
  have hml : c.maxLocals = 1 := hml0
  have hown : s.vm.findClass "java/lang/StringUTF16" = some m.cls := findClass_of_methodNamed Bd.named
  have hnm := (name_of_methodNamed Bd.named Bd.method).1
  have X0 : Stand p l e ({ frames := 1, cells := 1, slots := 8, locals := 20 } : Room) s m #[(.int (4 : Int32))] below meth c s₁ [] 0 0 := Stand.of_body Bd
  have e0 : s₁.heap = h0 := by rw [← hh, Bd.state]; rfl
  have N0 := Fr.nil n0
  have KP : Keep h0 h0 [] := Keep.refl _ _
  refine own_start (Fin := (own_Fin s (own_QNF_4 Z  h0 n0) ({ frames := 1, cells := 1, slots := 8, locals := 20 } : Room).cells ({ frames := 1, cells := 1, slots := 8, locals := 20 } : Room).slots)) (own_from (mkF m 0 #[iv 4] []) (castTop (own_ef_NF_4 m (4 : Int32))) ?_)
  refine own_to (T' := s₁) (mkF m 1 #[iv 4] [(.int (4 : Int32))]) (fun _ k => XS.iloadN X0.here hx rfl (hb hby own_d_jdk_52_method_2_0) rfl k) ?_
  obtain ⟨_, _, ⟨T159, L159, k159, n159⟩, -, X159, ⟨Lc159, hQ159, l159, y159, z159⟩, st159⟩ := Jvm.LawKit.callS X0 hx (y := (⟨"java/lang/StringUTF16", "newBytesLength", "(I)I"⟩ : MethodName)) hown (mvT hZ (hw _ (List.mem_of_getElem? (i := 75) rfl))) (mvT hZ (hw _ (List.mem_of_getElem? (i := 76) rfl))) (mvT hZ (hw _ (List.mem_of_getElem? (i := 18) rfl))) (mvT hZ (hw _ (List.mem_of_getElem? (i := 77) rfl))) (by decide) (backOf (W := 0) (own_rmNL_4 l Z a0 hw [] h0 n0 (Nat.le_trans Z0 KP.1) OL) hZ (hw _ (List.mem_of_getElem? (i := 77) rfl)) (hw _ (List.mem_of_getElem? (i := 18) rfl)) (by decide) (by decide)) (g := (mkF m 1 #[iv 4] [(.int (4 : Int32))])) rfl (by rw [hml]; rfl) (argsL := [(.int (4 : Int32))]) (rest := []) (lenOf own_pd0 rfl) rfl (by show 2 * 0 + _ ≤ _; exact Nat.le_of_eq rfl) (hb hby own_d_jdk_52_method_2_1) (fun _ _ => ⟨rfl, e0, (by decide : 0 + 0 ≤ _), (by decide : 0 + 0 ≤ _)⟩)
  dsimp only [Pt.U, Pt.locs, Pt.cells, Pt.slots] at X159 l159 y159 z159 st159 hQ159
  subst l159 y159 z159
  obtain ⟨rfl, N159q, e159⟩ := hQ159
  have N159 := Fr.app N0 N159q
  refine own_to (mkF m 4 #[iv 4] [(.int (8 : Int32))]) st159 ?_
  obtain ⟨T160, h160, k160, X160, e160, E160, A160, B160, st160⟩ := newPE X159 hx hZ (hw _ (List.mem_of_getElem? (i := 20) rfl)) e159 (g := (mkF m 4 #[iv 4] [(.int (8 : Int32))])) rfl (hb hby own_d_jdk_52_method_2_4) rfl (by decide) (cap := 8) (by decide) (by decide) (by decide) (by decide) (ad := "[B") (by decide)
  obtain ⟨b160, g160⟩ : ∃ z, z = h0.size := ⟨_, rfl⟩
  rw [← g160] at A160 B160 st160
  have sz_b160 : h0.size ≤ b160 := Nat.le_trans KP.1 (Nat.le_of_eq g160.symm)
  have ge_b160 : n0 ≤ b160 := Nat.le_trans Z0 sz_b160
  have OL := OL.ext E160
  have KP := KP.ext E160
  have V_b160 : Arv Z h160 b160 k160 .byte (8 : Int32) [(.int (0 : Int32)), (.int (0 : Int32)), (.int (0 : Int32)), (.int (0 : Int32)), (.int (0 : Int32)), (.int (0 : Int32)), (.int (0 : Int32)), (.int (0 : Int32))] (.int (0 : Int32)) := (Arv.new A160 (by decide)).pad (pad_rep [] (.int (0 : Int32)) 8)
  refine own_to (mkF m 6 #[iv 4] [(.ref b160)]) st160 ?_
  exact own_retA X160 hx Bd.returns rfl hlk (hb hby own_d_jdk_52_method_2_6) rfl (by decide) (by decide) (by rw [e160]; exact ⟨b160, k160, rfl, N159, KP, ge_b160, sz_b160, V_b160⟩)
def own_QPC_4_0 (Z : State) (u0 u1 u2 u3 u4 u5 u6 u7 cc : Int32) (G1 : Int32) (b : Addr) (kb : ClassId) (h0 : Heap) (n0 : Nat) (v : Option Value) (h : Heap) (L : List Loc) : Prop := v = none ∧ Fr n0 L ∧ Keep h0 h [b] ∧ Arv Z h b kb .byte (8 : Int32) [(.int ((cc >>> ((0 : Int32) &&& 31)).toInt8.toInt32)), (.int ((cc >>> ((8 : Int32) &&& 31)).toInt8.toInt32)), (.int u2), (.int u3), (.int u4), (.int u5), (.int u6), (.int u7)] (.int (0 : Int32))
set_option maxRecDepth 65536 in
set_option maxHeartbeats 40000000 in
theorem own_rmPC_4_0 (l : Launch) (Z : State) (a0 : Array Value) (hw : ∀ d ∈ tables_1, d.before a0 Z = true) (ws : List Jvm.Cond) (u0 u1 u2 u3 u4 u5 u6 u7 cc : Int32) (G1 : Int32) (b : Addr) (kb : ClassId) (h0 : Heap) (n0 : Nat) (Z0 : n0 ≤ h0.size) (OL : Old Z n0 h0) (ge_b : n0 ≤ b) (Vb : Arv Z h0 b kb .byte (8 : Int32) [(.int u0), (.int u1), (.int u2), (.int u3), (.int u4), (.int u5), (.int u6), (.int u7)] (.int (0 : Int32))) (O2 : Sta Z Z.heap "java/lang/String" "COMPACT_STRINGS" "Z" (.int G1)) (P5 : ¬ (G1 = (0 : Int32))) (OAD : Sta Z Z.heap "java/lang/StringUTF16" "$assertionsDisabled" "Z" (.int (1 : Int32))) (OHI : Sta Z Z.heap "java/lang/StringUTF16" "HI_BYTE_SHIFT" "I" (.int (0 : Int32))) (OLO : Sta Z Z.heap "java/lang/StringUTF16" "LO_BYTE_SHIFT" "I" (.int (8 : Int32))) :
    MetFree l (⟨"java/lang/StringUTF16", "putChar", "([BII)V"⟩ : MethodName) (head1 (Jvm.Cond.code (⟨"java/lang/StringUTF16", "putChar", "([BII)V"⟩ : MethodName) jdk_52_method_4_code 3 none :: ws) ({ frames := 0, cells := 0, slots := 0, locals := 0 } : Room)) (fun aa_ U => aa_ = #[(.ref b), (.int (0 : Int32)), (.int cc)] ∧ Z.Warmed39 U.vm ∧ U.heap = h0) (fun _ _ _ _ _ => True) (fun _ U o U' => ∃ v L, o = .returned v ∧ own_QPC_4_0 Z u0 u1 u2 u3 u4 u5 u6 u7 cc G1 b kb h0 n0 v U'.heap L ∧ FrameEnd U o U' L ({ frames := 0, cells := 0, slots := 0, locals := 0 } : Room).cells ({ frames := 0, cells := 0, slots := 0, locals := 0 } : Room).slots) := by
  refine MetFree.of_bodySF (plainFor_of_name own_pn0) hisR ?_
  intro p e s m args below meth c s₁ Bd hml0 hP hK
  obtain ⟨rfl, hZ, hh⟩ := hP
  have hx := Bd.exec
  have hby := Bd.bytes
  have hlk : meth.locks = false := BodyLoose.notSynchronized Bd
  have hml : c.maxLocals = 3 := hml0
  have hown : s.vm.findClass "java/lang/StringUTF16" = some m.cls := findClass_of_methodNamed Bd.named
  have hnm := (name_of_methodNamed Bd.named Bd.method).1
  have X0 : Stand p l e ({ frames := 0, cells := 0, slots := 0, locals := 0 } : Room) s m #[(.ref b), (.int (0 : Int32)), (.int cc)] below meth c s₁ [] 0 0 := Stand.of_body Bd
  have e0 : s₁.heap = h0 := by rw [← hh, Bd.state]; rfl
  have N0 := Fr.nil n0
  have KP : Keep h0 h0 [b] := Keep.refl _ _
  refine own_start (Fin := (own_Fin s (own_QPC_4_0 Z u0 u1 u2 u3 u4 u5 u6 u7 cc G1 b kb h0 n0) ({ frames := 0, cells := 0, slots := 0, locals := 0 } : Room).cells ({ frames := 0, cells := 0, slots := 0, locals := 0 } : Room).slots)) (own_from (mkF m 0 #[rv b, iv 0, iv cc] []) (castTop (own_ef_PC_4_0 m b (0 : Int32) cc)) ?_)
  obtain ⟨T161, X161, e161, st161⟩ := getS2 X0 hx hZ hown (host := "") (Or.inl (hw _ (List.mem_of_getElem? (i := 82) rfl))) Via.refl e0 (OAD.ext OL.2) (g := (mkF m 0 #[rv b, iv 0, iv cc] [])) rfl (hb hby own_d_jdk_52_method_4_0)
  refine own_to (mkF m 3 #[rv b, iv 0, iv cc] [(.int (1 : Int32))]) st161 ?_
  refine own_to (T' := T161) (mkF m 28 #[rv b, iv 0, iv cc] []) (fun _ k => XS.ifYes X161.here hx rfl (pc0 := 3) (pc' := 28) rfl (hb hby own_d_jdk_52_method_4_3) rfl ((if0 _ _).trans (feq (by decide : ¬ ((1 : Int32) = (0 : Int32)))).2) (by decide) (by decide) k) ?_
  refine own_to (T' := T161) (mkF m 29 #[rv b, iv 0, iv cc] [(.int (0 : Int32))]) (fun _ k => XS.iloadN X161.here hx rfl (hb hby own_d_jdk_52_method_4_28) rfl k) ?_
  refine own_to (T' := T161) (mkF m 30 #[rv b, iv 0, iv cc] [(.int (1 : Int32)), (.int (0 : Int32))]) (fun _ k => XS.iconst X161.here hx rfl (hb hby own_d_jdk_52_method_4_29) k) ?_
  refine own_to (T' := T161) (mkF m 31 #[rv b, iv 0, iv cc] [(.int (0 : Int32))]) (fun _ k => XS.ishl X161.here hx rfl (hb hby own_d_jdk_52_method_4_30) rfl k) ?_
  refine own_to (T' := T161) (mkF m 32 #[rv b, iv 0, iv cc] []) (fun _ k => XS.istoreN X161.here hx rfl (hb hby own_d_jdk_52_method_4_31) rfl (l' := #[rv b, iv 0, iv cc]) rfl k) ?_
  refine own_to (T' := T161) (mkF m 33 #[rv b, iv 0, iv cc] [(.ref b)]) (fun _ k => XS.aloadN X161.here hx rfl (hb hby own_d_jdk_52_method_4_32) rfl rfl k) ?_
  refine own_to (T' := T161) (mkF m 34 #[rv b, iv 0, iv cc] [(.int (0 : Int32)), (.ref b)]) (fun _ k => XS.iloadN X161.here hx rfl (hb hby own_d_jdk_52_method_4_33) rfl k) ?_
  refine own_to (T' := T161) (mkF m 37 #[rv b, iv 1, iv cc] [(.int (0 : Int32)), (.ref b)]) (fun _ k => XS.iinc X161.here hx rfl (hb hby own_d_jdk_52_method_4_34) rfl (l' := #[rv b, iv 1, iv cc]) rfl k) ?_
  refine own_to (T' := T161) (mkF m 38 #[rv b, iv 1, iv cc] [(.int cc), (.int (0 : Int32)), (.ref b)]) (fun _ k => XS.iloadN X161.here hx rfl (hb hby own_d_jdk_52_method_4_37) rfl k) ?_
  obtain ⟨T162, X162, e162, st162⟩ := getS2 X161 hx hZ hown (host := "") (Or.inl (hw _ (List.mem_of_getElem? (i := 83) rfl))) Via.refl e161 (OHI.ext OL.2) (g := (mkF m 38 #[rv b, iv 1, iv cc] [(.int cc), (.int (0 : Int32)), (.ref b)])) rfl (hb hby own_d_jdk_52_method_4_38)
  refine own_to (mkF m 41 #[rv b, iv 1, iv cc] [(.int (0 : Int32)), (.int cc), (.int (0 : Int32)), (.ref b)]) st162 ?_
  refine own_to (T' := T162) (mkF m 42 #[rv b, iv 1, iv cc] [(.int (cc >>> ((0 : Int32) &&& 31))), (.int (0 : Int32)), (.ref b)]) (fun _ k => XS.ishr X162.here hx rfl (hb hby own_d_jdk_52_method_4_41) rfl k) ?_
  refine own_to (T' := T162) (mkF m 43 #[rv b, iv 1, iv cc] [(.int ((cc >>> ((0 : Int32) &&& 31)).toInt8.toInt32)), (.int (0 : Int32)), (.ref b)]) (fun _ k => XS.i2b X162.here hx rfl (hb hby own_d_jdk_52_method_4_42) rfl k) ?_
  obtain ⟨cl163, Ar163, q163, S163, M163, H163, G163⟩ := id Vb
  obtain ⟨T163, h163, X163, e163, W163, st163⟩ := stB X162 hx hZ e162 Ar163 (j := (0 : Int32)) (inb_of S163 ⟨by decide, by decide⟩) (g := (mkF m 43 #[rv b, iv 1, iv cc] [(.int ((cc >>> ((0 : Int32) &&& 31)).toInt8.toInt32)), (.int (0 : Int32)), (.ref b)])) rfl rfl (hb hby own_d_jdk_52_method_4_43)
  refine own_to (mkF m 44 #[rv b, iv 1, iv cc] []) st163 ?_
  have N163 := Fr.snoc X163 N0 ge_b
  have tmp163 : Arv Z h163 b kb .byte (8 : Int32) [(.int (((cc >>> ((0 : Int32) &&& 31)).toInt8.toInt32).toInt8.toInt32)), (.int u1), (.int u2), (.int u3), (.int u4), (.int u5), (.int u6), (.int u7)] (.int (0 : Int32)) := Arv.set Ar163 q163 S163 M163 H163 G163 (fits_nar_byte _) W163 0 rfl (Nat.le_of_ble_eq_true rfl)
  rw [own_b8] at tmp163
  have OL := OL.wr W163 ge_b
  have KP := KP.wr W163 (Or.inl (List.mem_of_getElem? (i := 0) rfl))
  have Vb := tmp163
  refine own_to (T' := T163) (mkF m 45 #[rv b, iv 1, iv cc] [(.ref b)]) (fun _ k => XS.aloadN X163.here hx rfl (hb hby own_d_jdk_52_method_4_44) rfl rfl k) ?_
  refine own_to (T' := T163) (mkF m 46 #[rv b, iv 1, iv cc] [(.int (1 : Int32)), (.ref b)]) (fun _ k => XS.iloadN X163.here hx rfl (hb hby own_d_jdk_52_method_4_45) rfl k) ?_
  refine own_to (T' := T163) (mkF m 47 #[rv b, iv 1, iv cc] [(.int cc), (.int (1 : Int32)), (.ref b)]) (fun _ k => XS.iloadN X163.here hx rfl (hb hby own_d_jdk_52_method_4_46) rfl k) ?_
  obtain ⟨T164, X164, e164, st164⟩ := getS2 X163 hx hZ hown (host := "") (Or.inl (hw _ (List.mem_of_getElem? (i := 84) rfl))) Via.refl e163 (OLO.ext OL.2) (g := (mkF m 47 #[rv b, iv 1, iv cc] [(.int cc), (.int (1 : Int32)), (.ref b)])) rfl (hb hby own_d_jdk_52_method_4_47)
  refine own_to (mkF m 50 #[rv b, iv 1, iv cc] [(.int (8 : Int32)), (.int cc), (.int (1 : Int32)), (.ref b)]) st164 ?_
  refine own_to (T' := T164) (mkF m 51 #[rv b, iv 1, iv cc] [(.int (cc >>> ((8 : Int32) &&& 31))), (.int (1 : Int32)), (.ref b)]) (fun _ k => XS.ishr X164.here hx rfl (hb hby own_d_jdk_52_method_4_50) rfl k) ?_
  refine own_to (T' := T164) (mkF m 52 #[rv b, iv 1, iv cc] [(.int ((cc >>> ((8 : Int32) &&& 31)).toInt8.toInt32)), (.int (1 : Int32)), (.ref b)]) (fun _ k => XS.i2b X164.here hx rfl (hb hby own_d_jdk_52_method_4_51) rfl k) ?_
  obtain ⟨cl165, Ar165, q165, S165, M165, H165, G165⟩ := id Vb
  obtain ⟨T165, h165, X165, e165, W165, st165⟩ := stB X164 hx hZ e164 Ar165 (j := (1 : Int32)) (inb_of S165 ⟨by decide, by decide⟩) (g := (mkF m 52 #[rv b, iv 1, iv cc] [(.int ((cc >>> ((8 : Int32) &&& 31)).toInt8.toInt32)), (.int (1 : Int32)), (.ref b)])) rfl rfl (hb hby own_d_jdk_52_method_4_52)
  refine own_to (mkF m 53 #[rv b, iv 1, iv cc] []) st165 ?_
  have N165 := Fr.snoc X165 N163 ge_b
  have tmp165 : Arv Z h165 b kb .byte (8 : Int32) [(.int ((cc >>> ((0 : Int32) &&& 31)).toInt8.toInt32)), (.int (((cc >>> ((8 : Int32) &&& 31)).toInt8.toInt32).toInt8.toInt32)), (.int u2), (.int u3), (.int u4), (.int u5), (.int u6), (.int u7)] (.int (0 : Int32)) := Arv.set Ar165 q165 S165 M165 H165 G165 (fits_nar_byte _) W165 1 rfl (Nat.le_of_ble_eq_true rfl)
  rw [own_b8] at tmp165
  have OL := OL.wr W165 ge_b
  have KP := KP.wr W165 (Or.inl (List.mem_of_getElem? (i := 0) rfl))
  have Vb := tmp165
  exact own_ret0 X165 hx Bd.returns hlk (hb hby own_d_jdk_52_method_4_53) (by decide) (by decide) (by rw [e165]; exact ⟨rfl, N165, KP, Vb⟩)
def own_QPC_4_1 (Z : State) (u0 u1 u2 u3 u4 u5 u6 u7 cc : Int32) (G1 : Int32) (b : Addr) (kb : ClassId) (h0 : Heap) (n0 : Nat) (v : Option Value) (h : Heap) (L : List Loc) : Prop := v = none ∧ Fr n0 L ∧ Keep h0 h [b] ∧ Arv Z h b kb .byte (8 : Int32) [(.int u0), (.int u1), (.int ((cc >>> ((0 : Int32) &&& 31)).toInt8.toInt32)), (.int ((cc >>> ((8 : Int32) &&& 31)).toInt8.toInt32)), (.int u4), (.int u5), (.int u6), (.int u7)] (.int (0 : Int32))
set_option maxRecDepth 65536 in
set_option maxHeartbeats 40000000 in
theorem own_rmPC_4_1 (l : Launch) (Z : State) (a0 : Array Value) (hw : ∀ d ∈ tables_1, d.before a0 Z = true) (ws : List Jvm.Cond) (u0 u1 u2 u3 u4 u5 u6 u7 cc : Int32) (G1 : Int32) (b : Addr) (kb : ClassId) (h0 : Heap) (n0 : Nat) (Z0 : n0 ≤ h0.size) (OL : Old Z n0 h0) (ge_b : n0 ≤ b) (Vb : Arv Z h0 b kb .byte (8 : Int32) [(.int u0), (.int u1), (.int u2), (.int u3), (.int u4), (.int u5), (.int u6), (.int u7)] (.int (0 : Int32))) (O2 : Sta Z Z.heap "java/lang/String" "COMPACT_STRINGS" "Z" (.int G1)) (P5 : ¬ (G1 = (0 : Int32))) (OAD : Sta Z Z.heap "java/lang/StringUTF16" "$assertionsDisabled" "Z" (.int (1 : Int32))) (OHI : Sta Z Z.heap "java/lang/StringUTF16" "HI_BYTE_SHIFT" "I" (.int (0 : Int32))) (OLO : Sta Z Z.heap "java/lang/StringUTF16" "LO_BYTE_SHIFT" "I" (.int (8 : Int32))) :
    MetFree l (⟨"java/lang/StringUTF16", "putChar", "([BII)V"⟩ : MethodName) (head1 (Jvm.Cond.code (⟨"java/lang/StringUTF16", "putChar", "([BII)V"⟩ : MethodName) jdk_52_method_4_code 3 none :: ws) ({ frames := 0, cells := 0, slots := 0, locals := 0 } : Room)) (fun aa_ U => aa_ = #[(.ref b), (.int (1 : Int32)), (.int cc)] ∧ Z.Warmed39 U.vm ∧ U.heap = h0) (fun _ _ _ _ _ => True) (fun _ U o U' => ∃ v L, o = .returned v ∧ own_QPC_4_1 Z u0 u1 u2 u3 u4 u5 u6 u7 cc G1 b kb h0 n0 v U'.heap L ∧ FrameEnd U o U' L ({ frames := 0, cells := 0, slots := 0, locals := 0 } : Room).cells ({ frames := 0, cells := 0, slots := 0, locals := 0 } : Room).slots) := by
  refine MetFree.of_bodySF (plainFor_of_name own_pn0) hisR ?_
  intro p e s m args below meth c s₁ Bd hml0 hP hK
  obtain ⟨rfl, hZ, hh⟩ := hP
  have hx := Bd.exec
  have hby := Bd.bytes
  have hlk : meth.locks = false := BodyLoose.notSynchronized Bd
  have hml : c.maxLocals = 3 := hml0
  have hown : s.vm.findClass "java/lang/StringUTF16" = some m.cls := findClass_of_methodNamed Bd.named
  have hnm := (name_of_methodNamed Bd.named Bd.method).1
  have X0 : Stand p l e ({ frames := 0, cells := 0, slots := 0, locals := 0 } : Room) s m #[(.ref b), (.int (1 : Int32)), (.int cc)] below meth c s₁ [] 0 0 := Stand.of_body Bd
  have e0 : s₁.heap = h0 := by rw [← hh, Bd.state]; rfl
  have N0 := Fr.nil n0
  have KP : Keep h0 h0 [b] := Keep.refl _ _
  refine own_start (Fin := (own_Fin s (own_QPC_4_1 Z u0 u1 u2 u3 u4 u5 u6 u7 cc G1 b kb h0 n0) ({ frames := 0, cells := 0, slots := 0, locals := 0 } : Room).cells ({ frames := 0, cells := 0, slots := 0, locals := 0 } : Room).slots)) (own_from (mkF m 0 #[rv b, iv 1, iv cc] []) (castTop (own_ef_PC_4_1 m b (1 : Int32) cc)) ?_)
  obtain ⟨T166, X166, e166, st166⟩ := getS2 X0 hx hZ hown (host := "") (Or.inl (hw _ (List.mem_of_getElem? (i := 82) rfl))) Via.refl e0 (OAD.ext OL.2) (g := (mkF m 0 #[rv b, iv 1, iv cc] [])) rfl (hb hby own_d_jdk_52_method_4_0)
  refine own_to (mkF m 3 #[rv b, iv 1, iv cc] [(.int (1 : Int32))]) st166 ?_
  refine own_to (T' := T166) (mkF m 28 #[rv b, iv 1, iv cc] []) (fun _ k => XS.ifYes X166.here hx rfl (pc0 := 3) (pc' := 28) rfl (hb hby own_d_jdk_52_method_4_3) rfl ((if0 _ _).trans (feq (by decide : ¬ ((1 : Int32) = (0 : Int32)))).2) (by decide) (by decide) k) ?_
  refine own_to (T' := T166) (mkF m 29 #[rv b, iv 1, iv cc] [(.int (1 : Int32))]) (fun _ k => XS.iloadN X166.here hx rfl (hb hby own_d_jdk_52_method_4_28) rfl k) ?_
  refine own_to (T' := T166) (mkF m 30 #[rv b, iv 1, iv cc] [(.int (1 : Int32)), (.int (1 : Int32))]) (fun _ k => XS.iconst X166.here hx rfl (hb hby own_d_jdk_52_method_4_29) k) ?_
  refine own_to (T' := T166) (mkF m 31 #[rv b, iv 1, iv cc] [(.int (2 : Int32))]) (fun _ k => XS.ishl X166.here hx rfl (hb hby own_d_jdk_52_method_4_30) rfl k) ?_
  refine own_to (T' := T166) (mkF m 32 #[rv b, iv 2, iv cc] []) (fun _ k => XS.istoreN X166.here hx rfl (hb hby own_d_jdk_52_method_4_31) rfl (l' := #[rv b, iv 2, iv cc]) rfl k) ?_
  refine own_to (T' := T166) (mkF m 33 #[rv b, iv 2, iv cc] [(.ref b)]) (fun _ k => XS.aloadN X166.here hx rfl (hb hby own_d_jdk_52_method_4_32) rfl rfl k) ?_
  refine own_to (T' := T166) (mkF m 34 #[rv b, iv 2, iv cc] [(.int (2 : Int32)), (.ref b)]) (fun _ k => XS.iloadN X166.here hx rfl (hb hby own_d_jdk_52_method_4_33) rfl k) ?_
  refine own_to (T' := T166) (mkF m 37 #[rv b, iv 3, iv cc] [(.int (2 : Int32)), (.ref b)]) (fun _ k => XS.iinc X166.here hx rfl (hb hby own_d_jdk_52_method_4_34) rfl (l' := #[rv b, iv 3, iv cc]) rfl k) ?_
  refine own_to (T' := T166) (mkF m 38 #[rv b, iv 3, iv cc] [(.int cc), (.int (2 : Int32)), (.ref b)]) (fun _ k => XS.iloadN X166.here hx rfl (hb hby own_d_jdk_52_method_4_37) rfl k) ?_
  obtain ⟨T167, X167, e167, st167⟩ := getS2 X166 hx hZ hown (host := "") (Or.inl (hw _ (List.mem_of_getElem? (i := 83) rfl))) Via.refl e166 (OHI.ext OL.2) (g := (mkF m 38 #[rv b, iv 3, iv cc] [(.int cc), (.int (2 : Int32)), (.ref b)])) rfl (hb hby own_d_jdk_52_method_4_38)
  refine own_to (mkF m 41 #[rv b, iv 3, iv cc] [(.int (0 : Int32)), (.int cc), (.int (2 : Int32)), (.ref b)]) st167 ?_
  refine own_to (T' := T167) (mkF m 42 #[rv b, iv 3, iv cc] [(.int (cc >>> ((0 : Int32) &&& 31))), (.int (2 : Int32)), (.ref b)]) (fun _ k => XS.ishr X167.here hx rfl (hb hby own_d_jdk_52_method_4_41) rfl k) ?_
  refine own_to (T' := T167) (mkF m 43 #[rv b, iv 3, iv cc] [(.int ((cc >>> ((0 : Int32) &&& 31)).toInt8.toInt32)), (.int (2 : Int32)), (.ref b)]) (fun _ k => XS.i2b X167.here hx rfl (hb hby own_d_jdk_52_method_4_42) rfl k) ?_
  obtain ⟨cl168, Ar168, q168, S168, M168, H168, G168⟩ := id Vb
  obtain ⟨T168, h168, X168, e168, W168, st168⟩ := stB X167 hx hZ e167 Ar168 (j := (2 : Int32)) (inb_of S168 ⟨by decide, by decide⟩) (g := (mkF m 43 #[rv b, iv 3, iv cc] [(.int ((cc >>> ((0 : Int32) &&& 31)).toInt8.toInt32)), (.int (2 : Int32)), (.ref b)])) rfl rfl (hb hby own_d_jdk_52_method_4_43)
  refine own_to (mkF m 44 #[rv b, iv 3, iv cc] []) st168 ?_
  have N168 := Fr.snoc X168 N0 ge_b
  have tmp168 : Arv Z h168 b kb .byte (8 : Int32) [(.int u0), (.int u1), (.int (((cc >>> ((0 : Int32) &&& 31)).toInt8.toInt32).toInt8.toInt32)), (.int u3), (.int u4), (.int u5), (.int u6), (.int u7)] (.int (0 : Int32)) := Arv.set Ar168 q168 S168 M168 H168 G168 (fits_nar_byte _) W168 2 rfl (Nat.le_of_ble_eq_true rfl)
  rw [own_b8] at tmp168
  have OL := OL.wr W168 ge_b
  have KP := KP.wr W168 (Or.inl (List.mem_of_getElem? (i := 0) rfl))
  have Vb := tmp168
  refine own_to (T' := T168) (mkF m 45 #[rv b, iv 3, iv cc] [(.ref b)]) (fun _ k => XS.aloadN X168.here hx rfl (hb hby own_d_jdk_52_method_4_44) rfl rfl k) ?_
  refine own_to (T' := T168) (mkF m 46 #[rv b, iv 3, iv cc] [(.int (3 : Int32)), (.ref b)]) (fun _ k => XS.iloadN X168.here hx rfl (hb hby own_d_jdk_52_method_4_45) rfl k) ?_
  refine own_to (T' := T168) (mkF m 47 #[rv b, iv 3, iv cc] [(.int cc), (.int (3 : Int32)), (.ref b)]) (fun _ k => XS.iloadN X168.here hx rfl (hb hby own_d_jdk_52_method_4_46) rfl k) ?_
  obtain ⟨T169, X169, e169, st169⟩ := getS2 X168 hx hZ hown (host := "") (Or.inl (hw _ (List.mem_of_getElem? (i := 84) rfl))) Via.refl e168 (OLO.ext OL.2) (g := (mkF m 47 #[rv b, iv 3, iv cc] [(.int cc), (.int (3 : Int32)), (.ref b)])) rfl (hb hby own_d_jdk_52_method_4_47)
  refine own_to (mkF m 50 #[rv b, iv 3, iv cc] [(.int (8 : Int32)), (.int cc), (.int (3 : Int32)), (.ref b)]) st169 ?_
  refine own_to (T' := T169) (mkF m 51 #[rv b, iv 3, iv cc] [(.int (cc >>> ((8 : Int32) &&& 31))), (.int (3 : Int32)), (.ref b)]) (fun _ k => XS.ishr X169.here hx rfl (hb hby own_d_jdk_52_method_4_50) rfl k) ?_
  refine own_to (T' := T169) (mkF m 52 #[rv b, iv 3, iv cc] [(.int ((cc >>> ((8 : Int32) &&& 31)).toInt8.toInt32)), (.int (3 : Int32)), (.ref b)]) (fun _ k => XS.i2b X169.here hx rfl (hb hby own_d_jdk_52_method_4_51) rfl k) ?_
  obtain ⟨cl170, Ar170, q170, S170, M170, H170, G170⟩ := id Vb
  obtain ⟨T170, h170, X170, e170, W170, st170⟩ := stB X169 hx hZ e169 Ar170 (j := (3 : Int32)) (inb_of S170 ⟨by decide, by decide⟩) (g := (mkF m 52 #[rv b, iv 3, iv cc] [(.int ((cc >>> ((8 : Int32) &&& 31)).toInt8.toInt32)), (.int (3 : Int32)), (.ref b)])) rfl rfl (hb hby own_d_jdk_52_method_4_52)
  refine own_to (mkF m 53 #[rv b, iv 3, iv cc] []) st170 ?_
  have N170 := Fr.snoc X170 N168 ge_b
  have tmp170 : Arv Z h170 b kb .byte (8 : Int32) [(.int u0), (.int u1), (.int ((cc >>> ((0 : Int32) &&& 31)).toInt8.toInt32)), (.int (((cc >>> ((8 : Int32) &&& 31)).toInt8.toInt32).toInt8.toInt32)), (.int u4), (.int u5), (.int u6), (.int u7)] (.int (0 : Int32)) := Arv.set Ar170 q170 S170 M170 H170 G170 (fits_nar_byte _) W170 3 rfl (Nat.le_of_ble_eq_true rfl)
  rw [own_b8] at tmp170
  have OL := OL.wr W170 ge_b
  have KP := KP.wr W170 (Or.inl (List.mem_of_getElem? (i := 0) rfl))
  have Vb := tmp170
  exact own_ret0 X170 hx Bd.returns hlk (hb hby own_d_jdk_52_method_4_53) (by decide) (by decide) (by rw [e170]; exact ⟨rfl, N170, KP, Vb⟩)
def own_QPC_4_2 (Z : State) (u0 u1 u2 u3 u4 u5 u6 u7 cc : Int32) (G1 : Int32) (b : Addr) (kb : ClassId) (h0 : Heap) (n0 : Nat) (v : Option Value) (h : Heap) (L : List Loc) : Prop := v = none ∧ Fr n0 L ∧ Keep h0 h [b] ∧ Arv Z h b kb .byte (8 : Int32) [(.int u0), (.int u1), (.int u2), (.int u3), (.int ((cc >>> ((0 : Int32) &&& 31)).toInt8.toInt32)), (.int ((cc >>> ((8 : Int32) &&& 31)).toInt8.toInt32)), (.int u6), (.int u7)] (.int (0 : Int32))
set_option maxRecDepth 65536 in
set_option maxHeartbeats 40000000 in
theorem own_rmPC_4_2 (l : Launch) (Z : State) (a0 : Array Value) (hw : ∀ d ∈ tables_1, d.before a0 Z = true) (ws : List Jvm.Cond) (u0 u1 u2 u3 u4 u5 u6 u7 cc : Int32) (G1 : Int32) (b : Addr) (kb : ClassId) (h0 : Heap) (n0 : Nat) (Z0 : n0 ≤ h0.size) (OL : Old Z n0 h0) (ge_b : n0 ≤ b) (Vb : Arv Z h0 b kb .byte (8 : Int32) [(.int u0), (.int u1), (.int u2), (.int u3), (.int u4), (.int u5), (.int u6), (.int u7)] (.int (0 : Int32))) (O2 : Sta Z Z.heap "java/lang/String" "COMPACT_STRINGS" "Z" (.int G1)) (P5 : ¬ (G1 = (0 : Int32))) (OAD : Sta Z Z.heap "java/lang/StringUTF16" "$assertionsDisabled" "Z" (.int (1 : Int32))) (OHI : Sta Z Z.heap "java/lang/StringUTF16" "HI_BYTE_SHIFT" "I" (.int (0 : Int32))) (OLO : Sta Z Z.heap "java/lang/StringUTF16" "LO_BYTE_SHIFT" "I" (.int (8 : Int32))) :
    MetFree l (⟨"java/lang/StringUTF16", "putChar", "([BII)V"⟩ : MethodName) (head1 (Jvm.Cond.code (⟨"java/lang/StringUTF16", "putChar", "([BII)V"⟩ : MethodName) jdk_52_method_4_code 3 none :: ws) ({ frames := 0, cells := 0, slots := 0, locals := 0 } : Room)) (fun aa_ U => aa_ = #[(.ref b), (.int (2 : Int32)), (.int cc)] ∧ Z.Warmed39 U.vm ∧ U.heap = h0) (fun _ _ _ _ _ => True) (fun _ U o U' => ∃ v L, o = .returned v ∧ own_QPC_4_2 Z u0 u1 u2 u3 u4 u5 u6 u7 cc G1 b kb h0 n0 v U'.heap L ∧ FrameEnd U o U' L ({ frames := 0, cells := 0, slots := 0, locals := 0 } : Room).cells ({ frames := 0, cells := 0, slots := 0, locals := 0 } : Room).slots) := by
  refine MetFree.of_bodySF (plainFor_of_name own_pn0) hisR ?_
  intro p e s m args below meth c s₁ Bd hml0 hP hK
  obtain ⟨rfl, hZ, hh⟩ := hP
  have hx := Bd.exec
  have hby := Bd.bytes
  have hlk : meth.locks = false := BodyLoose.notSynchronized Bd
  have hml : c.maxLocals = 3 := hml0
  have hown : s.vm.findClass "java/lang/StringUTF16" = some m.cls := findClass_of_methodNamed Bd.named
  have hnm := (name_of_methodNamed Bd.named Bd.method).1
  have X0 : Stand p l e ({ frames := 0, cells := 0, slots := 0, locals := 0 } : Room) s m #[(.ref b), (.int (2 : Int32)), (.int cc)] below meth c s₁ [] 0 0 := Stand.of_body Bd
  have e0 : s₁.heap = h0 := by rw [← hh, Bd.state]; rfl
  have N0 := Fr.nil n0
  have KP : Keep h0 h0 [b] := Keep.refl _ _
  refine own_start (Fin := (own_Fin s (own_QPC_4_2 Z u0 u1 u2 u3 u4 u5 u6 u7 cc G1 b kb h0 n0) ({ frames := 0, cells := 0, slots := 0, locals := 0 } : Room).cells ({ frames := 0, cells := 0, slots := 0, locals := 0 } : Room).slots)) (own_from (mkF m 0 #[rv b, iv 2, iv cc] []) (castTop (own_ef_PC_4_2 m b (2 : Int32) cc)) ?_)
  obtain ⟨T171, X171, e171, st171⟩ := getS2 X0 hx hZ hown (host := "") (Or.inl (hw _ (List.mem_of_getElem? (i := 82) rfl))) Via.refl e0 (OAD.ext OL.2) (g := (mkF m 0 #[rv b, iv 2, iv cc] [])) rfl (hb hby own_d_jdk_52_method_4_0)
  refine own_to (mkF m 3 #[rv b, iv 2, iv cc] [(.int (1 : Int32))]) st171 ?_
  refine own_to (T' := T171) (mkF m 28 #[rv b, iv 2, iv cc] []) (fun _ k => XS.ifYes X171.here hx rfl (pc0 := 3) (pc' := 28) rfl (hb hby own_d_jdk_52_method_4_3) rfl ((if0 _ _).trans (feq (by decide : ¬ ((1 : Int32) = (0 : Int32)))).2) (by decide) (by decide) k) ?_
  refine own_to (T' := T171) (mkF m 29 #[rv b, iv 2, iv cc] [(.int (2 : Int32))]) (fun _ k => XS.iloadN X171.here hx rfl (hb hby own_d_jdk_52_method_4_28) rfl k) ?_
  refine own_to (T' := T171) (mkF m 30 #[rv b, iv 2, iv cc] [(.int (1 : Int32)), (.int (2 : Int32))]) (fun _ k => XS.iconst X171.here hx rfl (hb hby own_d_jdk_52_method_4_29) k) ?_
  refine own_to (T' := T171) (mkF m 31 #[rv b, iv 2, iv cc] [(.int (4 : Int32))]) (fun _ k => XS.ishl X171.here hx rfl (hb hby own_d_jdk_52_method_4_30) rfl k) ?_
  refine own_to (T' := T171) (mkF m 32 #[rv b, iv 4, iv cc] []) (fun _ k => XS.istoreN X171.here hx rfl (hb hby own_d_jdk_52_method_4_31) rfl (l' := #[rv b, iv 4, iv cc]) rfl k) ?_
  refine own_to (T' := T171) (mkF m 33 #[rv b, iv 4, iv cc] [(.ref b)]) (fun _ k => XS.aloadN X171.here hx rfl (hb hby own_d_jdk_52_method_4_32) rfl rfl k) ?_
  refine own_to (T' := T171) (mkF m 34 #[rv b, iv 4, iv cc] [(.int (4 : Int32)), (.ref b)]) (fun _ k => XS.iloadN X171.here hx rfl (hb hby own_d_jdk_52_method_4_33) rfl k) ?_
  refine own_to (T' := T171) (mkF m 37 #[rv b, iv 5, iv cc] [(.int (4 : Int32)), (.ref b)]) (fun _ k => XS.iinc X171.here hx rfl (hb hby own_d_jdk_52_method_4_34) rfl (l' := #[rv b, iv 5, iv cc]) rfl k) ?_
  refine own_to (T' := T171) (mkF m 38 #[rv b, iv 5, iv cc] [(.int cc), (.int (4 : Int32)), (.ref b)]) (fun _ k => XS.iloadN X171.here hx rfl (hb hby own_d_jdk_52_method_4_37) rfl k) ?_
  obtain ⟨T172, X172, e172, st172⟩ := getS2 X171 hx hZ hown (host := "") (Or.inl (hw _ (List.mem_of_getElem? (i := 83) rfl))) Via.refl e171 (OHI.ext OL.2) (g := (mkF m 38 #[rv b, iv 5, iv cc] [(.int cc), (.int (4 : Int32)), (.ref b)])) rfl (hb hby own_d_jdk_52_method_4_38)
  refine own_to (mkF m 41 #[rv b, iv 5, iv cc] [(.int (0 : Int32)), (.int cc), (.int (4 : Int32)), (.ref b)]) st172 ?_
  refine own_to (T' := T172) (mkF m 42 #[rv b, iv 5, iv cc] [(.int (cc >>> ((0 : Int32) &&& 31))), (.int (4 : Int32)), (.ref b)]) (fun _ k => XS.ishr X172.here hx rfl (hb hby own_d_jdk_52_method_4_41) rfl k) ?_
  refine own_to (T' := T172) (mkF m 43 #[rv b, iv 5, iv cc] [(.int ((cc >>> ((0 : Int32) &&& 31)).toInt8.toInt32)), (.int (4 : Int32)), (.ref b)]) (fun _ k => XS.i2b X172.here hx rfl (hb hby own_d_jdk_52_method_4_42) rfl k) ?_
  obtain ⟨cl173, Ar173, q173, S173, M173, H173, G173⟩ := id Vb
  obtain ⟨T173, h173, X173, e173, W173, st173⟩ := stB X172 hx hZ e172 Ar173 (j := (4 : Int32)) (inb_of S173 ⟨by decide, by decide⟩) (g := (mkF m 43 #[rv b, iv 5, iv cc] [(.int ((cc >>> ((0 : Int32) &&& 31)).toInt8.toInt32)), (.int (4 : Int32)), (.ref b)])) rfl rfl (hb hby own_d_jdk_52_method_4_43)
  refine own_to (mkF m 44 #[rv b, iv 5, iv cc] []) st173 ?_
  have N173 := Fr.snoc X173 N0 ge_b
  have tmp173 : Arv Z h173 b kb .byte (8 : Int32) [(.int u0), (.int u1), (.int u2), (.int u3), (.int (((cc >>> ((0 : Int32) &&& 31)).toInt8.toInt32).toInt8.toInt32)), (.int u5), (.int u6), (.int u7)] (.int (0 : Int32)) := Arv.set Ar173 q173 S173 M173 H173 G173 (fits_nar_byte _) W173 4 rfl (Nat.le_of_ble_eq_true rfl)
  rw [own_b8] at tmp173
  have OL := OL.wr W173 ge_b
  have KP := KP.wr W173 (Or.inl (List.mem_of_getElem? (i := 0) rfl))
  have Vb := tmp173
  refine own_to (T' := T173) (mkF m 45 #[rv b, iv 5, iv cc] [(.ref b)]) (fun _ k => XS.aloadN X173.here hx rfl (hb hby own_d_jdk_52_method_4_44) rfl rfl k) ?_
  refine own_to (T' := T173) (mkF m 46 #[rv b, iv 5, iv cc] [(.int (5 : Int32)), (.ref b)]) (fun _ k => XS.iloadN X173.here hx rfl (hb hby own_d_jdk_52_method_4_45) rfl k) ?_
  refine own_to (T' := T173) (mkF m 47 #[rv b, iv 5, iv cc] [(.int cc), (.int (5 : Int32)), (.ref b)]) (fun _ k => XS.iloadN X173.here hx rfl (hb hby own_d_jdk_52_method_4_46) rfl k) ?_
  obtain ⟨T174, X174, e174, st174⟩ := getS2 X173 hx hZ hown (host := "") (Or.inl (hw _ (List.mem_of_getElem? (i := 84) rfl))) Via.refl e173 (OLO.ext OL.2) (g := (mkF m 47 #[rv b, iv 5, iv cc] [(.int cc), (.int (5 : Int32)), (.ref b)])) rfl (hb hby own_d_jdk_52_method_4_47)
  refine own_to (mkF m 50 #[rv b, iv 5, iv cc] [(.int (8 : Int32)), (.int cc), (.int (5 : Int32)), (.ref b)]) st174 ?_
  refine own_to (T' := T174) (mkF m 51 #[rv b, iv 5, iv cc] [(.int (cc >>> ((8 : Int32) &&& 31))), (.int (5 : Int32)), (.ref b)]) (fun _ k => XS.ishr X174.here hx rfl (hb hby own_d_jdk_52_method_4_50) rfl k) ?_
  refine own_to (T' := T174) (mkF m 52 #[rv b, iv 5, iv cc] [(.int ((cc >>> ((8 : Int32) &&& 31)).toInt8.toInt32)), (.int (5 : Int32)), (.ref b)]) (fun _ k => XS.i2b X174.here hx rfl (hb hby own_d_jdk_52_method_4_51) rfl k) ?_
  obtain ⟨cl175, Ar175, q175, S175, M175, H175, G175⟩ := id Vb
  obtain ⟨T175, h175, X175, e175, W175, st175⟩ := stB X174 hx hZ e174 Ar175 (j := (5 : Int32)) (inb_of S175 ⟨by decide, by decide⟩) (g := (mkF m 52 #[rv b, iv 5, iv cc] [(.int ((cc >>> ((8 : Int32) &&& 31)).toInt8.toInt32)), (.int (5 : Int32)), (.ref b)])) rfl rfl (hb hby own_d_jdk_52_method_4_52)
  refine own_to (mkF m 53 #[rv b, iv 5, iv cc] []) st175 ?_
  have N175 := Fr.snoc X175 N173 ge_b
  have tmp175 : Arv Z h175 b kb .byte (8 : Int32) [(.int u0), (.int u1), (.int u2), (.int u3), (.int ((cc >>> ((0 : Int32) &&& 31)).toInt8.toInt32)), (.int (((cc >>> ((8 : Int32) &&& 31)).toInt8.toInt32).toInt8.toInt32)), (.int u6), (.int u7)] (.int (0 : Int32)) := Arv.set Ar175 q175 S175 M175 H175 G175 (fits_nar_byte _) W175 5 rfl (Nat.le_of_ble_eq_true rfl)
  rw [own_b8] at tmp175
  have OL := OL.wr W175 ge_b
  have KP := KP.wr W175 (Or.inl (List.mem_of_getElem? (i := 0) rfl))
  have Vb := tmp175
  exact own_ret0 X175 hx Bd.returns hlk (hb hby own_d_jdk_52_method_4_53) (by decide) (by decide) (by rw [e175]; exact ⟨rfl, N175, KP, Vb⟩)
def own_QPC_4_3 (Z : State) (u0 u1 u2 u3 u4 u5 u6 u7 cc : Int32) (G1 : Int32) (b : Addr) (kb : ClassId) (h0 : Heap) (n0 : Nat) (v : Option Value) (h : Heap) (L : List Loc) : Prop := v = none ∧ Fr n0 L ∧ Keep h0 h [b] ∧ Arv Z h b kb .byte (8 : Int32) [(.int u0), (.int u1), (.int u2), (.int u3), (.int u4), (.int u5), (.int ((cc >>> ((0 : Int32) &&& 31)).toInt8.toInt32)), (.int ((cc >>> ((8 : Int32) &&& 31)).toInt8.toInt32))] (.int (0 : Int32))
set_option maxRecDepth 65536 in
set_option maxHeartbeats 40000000 in
theorem own_rmPC_4_3 (l : Launch) (Z : State) (a0 : Array Value) (hw : ∀ d ∈ tables_1, d.before a0 Z = true) (ws : List Jvm.Cond) (u0 u1 u2 u3 u4 u5 u6 u7 cc : Int32) (G1 : Int32) (b : Addr) (kb : ClassId) (h0 : Heap) (n0 : Nat) (Z0 : n0 ≤ h0.size) (OL : Old Z n0 h0) (ge_b : n0 ≤ b) (Vb : Arv Z h0 b kb .byte (8 : Int32) [(.int u0), (.int u1), (.int u2), (.int u3), (.int u4), (.int u5), (.int u6), (.int u7)] (.int (0 : Int32))) (O2 : Sta Z Z.heap "java/lang/String" "COMPACT_STRINGS" "Z" (.int G1)) (P5 : ¬ (G1 = (0 : Int32))) (OAD : Sta Z Z.heap "java/lang/StringUTF16" "$assertionsDisabled" "Z" (.int (1 : Int32))) (OHI : Sta Z Z.heap "java/lang/StringUTF16" "HI_BYTE_SHIFT" "I" (.int (0 : Int32))) (OLO : Sta Z Z.heap "java/lang/StringUTF16" "LO_BYTE_SHIFT" "I" (.int (8 : Int32))) :
    MetFree l (⟨"java/lang/StringUTF16", "putChar", "([BII)V"⟩ : MethodName) (head1 (Jvm.Cond.code (⟨"java/lang/StringUTF16", "putChar", "([BII)V"⟩ : MethodName) jdk_52_method_4_code 3 none :: ws) ({ frames := 0, cells := 0, slots := 0, locals := 0 } : Room)) (fun aa_ U => aa_ = #[(.ref b), (.int (3 : Int32)), (.int cc)] ∧ Z.Warmed39 U.vm ∧ U.heap = h0) (fun _ _ _ _ _ => True) (fun _ U o U' => ∃ v L, o = .returned v ∧ own_QPC_4_3 Z u0 u1 u2 u3 u4 u5 u6 u7 cc G1 b kb h0 n0 v U'.heap L ∧ FrameEnd U o U' L ({ frames := 0, cells := 0, slots := 0, locals := 0 } : Room).cells ({ frames := 0, cells := 0, slots := 0, locals := 0 } : Room).slots) := by
  refine MetFree.of_bodySF (plainFor_of_name own_pn0) hisR ?_
  intro p e s m args below meth c s₁ Bd hml0 hP hK
  obtain ⟨rfl, hZ, hh⟩ := hP
  have hx := Bd.exec
  have hby := Bd.bytes
  have hlk : meth.locks = false := BodyLoose.notSynchronized Bd
  have hml : c.maxLocals = 3 := hml0
  have hown : s.vm.findClass "java/lang/StringUTF16" = some m.cls := findClass_of_methodNamed Bd.named
  have hnm := (name_of_methodNamed Bd.named Bd.method).1
  have X0 : Stand p l e ({ frames := 0, cells := 0, slots := 0, locals := 0 } : Room) s m #[(.ref b), (.int (3 : Int32)), (.int cc)] below meth c s₁ [] 0 0 := Stand.of_body Bd
  have e0 : s₁.heap = h0 := by rw [← hh, Bd.state]; rfl
  have N0 := Fr.nil n0
  have KP : Keep h0 h0 [b] := Keep.refl _ _
  refine own_start (Fin := (own_Fin s (own_QPC_4_3 Z u0 u1 u2 u3 u4 u5 u6 u7 cc G1 b kb h0 n0) ({ frames := 0, cells := 0, slots := 0, locals := 0 } : Room).cells ({ frames := 0, cells := 0, slots := 0, locals := 0 } : Room).slots)) (own_from (mkF m 0 #[rv b, iv 3, iv cc] []) (castTop (own_ef_PC_4_3 m b (3 : Int32) cc)) ?_)
  obtain ⟨T176, X176, e176, st176⟩ := getS2 X0 hx hZ hown (host := "") (Or.inl (hw _ (List.mem_of_getElem? (i := 82) rfl))) Via.refl e0 (OAD.ext OL.2) (g := (mkF m 0 #[rv b, iv 3, iv cc] [])) rfl (hb hby own_d_jdk_52_method_4_0)
  refine own_to (mkF m 3 #[rv b, iv 3, iv cc] [(.int (1 : Int32))]) st176 ?_
  refine own_to (T' := T176) (mkF m 28 #[rv b, iv 3, iv cc] []) (fun _ k => XS.ifYes X176.here hx rfl (pc0 := 3) (pc' := 28) rfl (hb hby own_d_jdk_52_method_4_3) rfl ((if0 _ _).trans (feq (by decide : ¬ ((1 : Int32) = (0 : Int32)))).2) (by decide) (by decide) k) ?_
  refine own_to (T' := T176) (mkF m 29 #[rv b, iv 3, iv cc] [(.int (3 : Int32))]) (fun _ k => XS.iloadN X176.here hx rfl (hb hby own_d_jdk_52_method_4_28) rfl k) ?_
  refine own_to (T' := T176) (mkF m 30 #[rv b, iv 3, iv cc] [(.int (1 : Int32)), (.int (3 : Int32))]) (fun _ k => XS.iconst X176.here hx rfl (hb hby own_d_jdk_52_method_4_29) k) ?_
  refine own_to (T' := T176) (mkF m 31 #[rv b, iv 3, iv cc] [(.int (6 : Int32))]) (fun _ k => XS.ishl X176.here hx rfl (hb hby own_d_jdk_52_method_4_30) rfl k) ?_
  refine own_to (T' := T176) (mkF m 32 #[rv b, iv 6, iv cc] []) (fun _ k => XS.istoreN X176.here hx rfl (hb hby own_d_jdk_52_method_4_31) rfl (l' := #[rv b, iv 6, iv cc]) rfl k) ?_
  refine own_to (T' := T176) (mkF m 33 #[rv b, iv 6, iv cc] [(.ref b)]) (fun _ k => XS.aloadN X176.here hx rfl (hb hby own_d_jdk_52_method_4_32) rfl rfl k) ?_
  refine own_to (T' := T176) (mkF m 34 #[rv b, iv 6, iv cc] [(.int (6 : Int32)), (.ref b)]) (fun _ k => XS.iloadN X176.here hx rfl (hb hby own_d_jdk_52_method_4_33) rfl k) ?_
  refine own_to (T' := T176) (mkF m 37 #[rv b, iv 7, iv cc] [(.int (6 : Int32)), (.ref b)]) (fun _ k => XS.iinc X176.here hx rfl (hb hby own_d_jdk_52_method_4_34) rfl (l' := #[rv b, iv 7, iv cc]) rfl k) ?_
  refine own_to (T' := T176) (mkF m 38 #[rv b, iv 7, iv cc] [(.int cc), (.int (6 : Int32)), (.ref b)]) (fun _ k => XS.iloadN X176.here hx rfl (hb hby own_d_jdk_52_method_4_37) rfl k) ?_
  obtain ⟨T177, X177, e177, st177⟩ := getS2 X176 hx hZ hown (host := "") (Or.inl (hw _ (List.mem_of_getElem? (i := 83) rfl))) Via.refl e176 (OHI.ext OL.2) (g := (mkF m 38 #[rv b, iv 7, iv cc] [(.int cc), (.int (6 : Int32)), (.ref b)])) rfl (hb hby own_d_jdk_52_method_4_38)
  refine own_to (mkF m 41 #[rv b, iv 7, iv cc] [(.int (0 : Int32)), (.int cc), (.int (6 : Int32)), (.ref b)]) st177 ?_
  refine own_to (T' := T177) (mkF m 42 #[rv b, iv 7, iv cc] [(.int (cc >>> ((0 : Int32) &&& 31))), (.int (6 : Int32)), (.ref b)]) (fun _ k => XS.ishr X177.here hx rfl (hb hby own_d_jdk_52_method_4_41) rfl k) ?_
  refine own_to (T' := T177) (mkF m 43 #[rv b, iv 7, iv cc] [(.int ((cc >>> ((0 : Int32) &&& 31)).toInt8.toInt32)), (.int (6 : Int32)), (.ref b)]) (fun _ k => XS.i2b X177.here hx rfl (hb hby own_d_jdk_52_method_4_42) rfl k) ?_
  obtain ⟨cl178, Ar178, q178, S178, M178, H178, G178⟩ := id Vb
  obtain ⟨T178, h178, X178, e178, W178, st178⟩ := stB X177 hx hZ e177 Ar178 (j := (6 : Int32)) (inb_of S178 ⟨by decide, by decide⟩) (g := (mkF m 43 #[rv b, iv 7, iv cc] [(.int ((cc >>> ((0 : Int32) &&& 31)).toInt8.toInt32)), (.int (6 : Int32)), (.ref b)])) rfl rfl (hb hby own_d_jdk_52_method_4_43)
  refine own_to (mkF m 44 #[rv b, iv 7, iv cc] []) st178 ?_
  have N178 := Fr.snoc X178 N0 ge_b
  have tmp178 : Arv Z h178 b kb .byte (8 : Int32) [(.int u0), (.int u1), (.int u2), (.int u3), (.int u4), (.int u5), (.int (((cc >>> ((0 : Int32) &&& 31)).toInt8.toInt32).toInt8.toInt32)), (.int u7)] (.int (0 : Int32)) := Arv.set Ar178 q178 S178 M178 H178 G178 (fits_nar_byte _) W178 6 rfl (Nat.le_of_ble_eq_true rfl)
  rw [own_b8] at tmp178
  have OL := OL.wr W178 ge_b
  have KP := KP.wr W178 (Or.inl (List.mem_of_getElem? (i := 0) rfl))
  have Vb := tmp178
  refine own_to (T' := T178) (mkF m 45 #[rv b, iv 7, iv cc] [(.ref b)]) (fun _ k => XS.aloadN X178.here hx rfl (hb hby own_d_jdk_52_method_4_44) rfl rfl k) ?_
  refine own_to (T' := T178) (mkF m 46 #[rv b, iv 7, iv cc] [(.int (7 : Int32)), (.ref b)]) (fun _ k => XS.iloadN X178.here hx rfl (hb hby own_d_jdk_52_method_4_45) rfl k) ?_
  refine own_to (T' := T178) (mkF m 47 #[rv b, iv 7, iv cc] [(.int cc), (.int (7 : Int32)), (.ref b)]) (fun _ k => XS.iloadN X178.here hx rfl (hb hby own_d_jdk_52_method_4_46) rfl k) ?_
  obtain ⟨T179, X179, e179, st179⟩ := getS2 X178 hx hZ hown (host := "") (Or.inl (hw _ (List.mem_of_getElem? (i := 84) rfl))) Via.refl e178 (OLO.ext OL.2) (g := (mkF m 47 #[rv b, iv 7, iv cc] [(.int cc), (.int (7 : Int32)), (.ref b)])) rfl (hb hby own_d_jdk_52_method_4_47)
  refine own_to (mkF m 50 #[rv b, iv 7, iv cc] [(.int (8 : Int32)), (.int cc), (.int (7 : Int32)), (.ref b)]) st179 ?_
  refine own_to (T' := T179) (mkF m 51 #[rv b, iv 7, iv cc] [(.int (cc >>> ((8 : Int32) &&& 31))), (.int (7 : Int32)), (.ref b)]) (fun _ k => XS.ishr X179.here hx rfl (hb hby own_d_jdk_52_method_4_50) rfl k) ?_
  refine own_to (T' := T179) (mkF m 52 #[rv b, iv 7, iv cc] [(.int ((cc >>> ((8 : Int32) &&& 31)).toInt8.toInt32)), (.int (7 : Int32)), (.ref b)]) (fun _ k => XS.i2b X179.here hx rfl (hb hby own_d_jdk_52_method_4_51) rfl k) ?_
  obtain ⟨cl180, Ar180, q180, S180, M180, H180, G180⟩ := id Vb
  obtain ⟨T180, h180, X180, e180, W180, st180⟩ := stB X179 hx hZ e179 Ar180 (j := (7 : Int32)) (inb_of S180 ⟨by decide, by decide⟩) (g := (mkF m 52 #[rv b, iv 7, iv cc] [(.int ((cc >>> ((8 : Int32) &&& 31)).toInt8.toInt32)), (.int (7 : Int32)), (.ref b)])) rfl rfl (hb hby own_d_jdk_52_method_4_52)
  refine own_to (mkF m 53 #[rv b, iv 7, iv cc] []) st180 ?_
  have N180 := Fr.snoc X180 N178 ge_b
  have tmp180 : Arv Z h180 b kb .byte (8 : Int32) [(.int u0), (.int u1), (.int u2), (.int u3), (.int u4), (.int u5), (.int ((cc >>> ((0 : Int32) &&& 31)).toInt8.toInt32)), (.int (((cc >>> ((8 : Int32) &&& 31)).toInt8.toInt32).toInt8.toInt32))] (.int (0 : Int32)) := Arv.set Ar180 q180 S180 M180 H180 G180 (fits_nar_byte _) W180 7 rfl (Nat.le_of_ble_eq_true rfl)
  rw [own_b8] at tmp180
  have OL := OL.wr W180 ge_b
  have KP := KP.wr W180 (Or.inl (List.mem_of_getElem? (i := 0) rfl))
  have Vb := tmp180
  exact own_ret0 X180 hx Bd.returns hlk (hb hby own_d_jdk_52_method_4_53) (by decide) (by decide) (by rw [e180]; exact ⟨rfl, N180, KP, Vb⟩)
def own_QTS_4 (Z : State) (x0 x1 x2 x3 : Int32) (G1 : Int32) (a : Addr) (ka : ClassId) (h0 : Heap) (n0 : Nat) (v : Option Value) (h : Heap) (L : List Loc) : Prop := ∃ (b : Addr) (kb : ClassId), v = some (.ref b) ∧ Fr n0 L ∧ Keep h0 h [] ∧ n0 ≤ b ∧ h0.size ≤ b ∧ Arv Z h b kb .byte (8 : Int32) [(.int ((x0 >>> ((0 : Int32) &&& 31)).toInt8.toInt32)), (.int ((x0 >>> ((8 : Int32) &&& 31)).toInt8.toInt32)), (.int ((x1 >>> ((0 : Int32) &&& 31)).toInt8.toInt32)), (.int ((x1 >>> ((8 : Int32) &&& 31)).toInt8.toInt32)), (.int ((x2 >>> ((0 : Int32) &&& 31)).toInt8.toInt32)), (.int ((x2 >>> ((8 : Int32) &&& 31)).toInt8.toInt32)), (.int ((x3 >>> ((0 : Int32) &&& 31)).toInt8.toInt32)), (.int ((x3 >>> ((8 : Int32) &&& 31)).toInt8.toInt32))] (.int (0 : Int32))
set_option maxRecDepth 65536 in
set_option maxHeartbeats 40000000 in
theorem own_rmTS_4 (l : Launch) (Z : State) (a0 : Array Value) (hw : ∀ d ∈ tables_1, d.before a0 Z = true) (ws : List Jvm.Cond) (x0 x1 x2 x3 : Int32) (G1 : Int32) (a : Addr) (ka : ClassId) (h0 : Heap) (n0 : Nat) (Z0 : n0 ≤ h0.size) (OL : Old Z n0 h0) (Va : Arv Z h0 a ka .char (4 : Int32) [(.int x0), (.int x1), (.int x2), (.int x3)] (.int (0 : Int32))) (O2 : Sta Z Z.heap "java/lang/String" "COMPACT_STRINGS" "Z" (.int G1)) (P5 : ¬ (G1 = (0 : Int32))) (OAD : Sta Z Z.heap "java/lang/StringUTF16" "$assertionsDisabled" "Z" (.int (1 : Int32))) (OHI : Sta Z Z.heap "java/lang/StringUTF16" "HI_BYTE_SHIFT" "I" (.int (0 : Int32))) (OLO : Sta Z Z.heap "java/lang/StringUTF16" "LO_BYTE_SHIFT" "I" (.int (8 : Int32))) :
    MetFree l (⟨"java/lang/StringUTF16", "toBytes", "([CII)[B"⟩ : MethodName) (head1 (Jvm.Cond.code (⟨"java/lang/StringUTF16", "toBytes", "([CII)[B"⟩ : MethodName) jdk_52_method_14_code 5 (some (.array .byte)) :: ws) ({ frames := 2, cells := 1, slots := 8, locals := 40 } : Room)) (fun aa_ U => aa_ = #[(.ref a), (.int (0 : Int32)), (.int (4 : Int32))] ∧ Z.Warmed39 U.vm ∧ U.heap = h0) (fun _ _ _ _ _ => True) (fun _ U o U' => ∃ v L, o = .returned v ∧ own_QTS_4 Z x0 x1 x2 x3 G1 a ka h0 n0 v U'.heap L ∧ FrameEnd U o U' L ({ frames := 2, cells := 1, slots := 8, locals := 40 } : Room).cells ({ frames := 2, cells := 1, slots := 8, locals := 40 } : Room).slots) := by
  refine MetFree.of_bodySF (plainFor_of_name own_pn0) hisR ?_
  intro p e s m args below meth c s₁ Bd hml0 hP hK
  obtain ⟨rfl, hZ, hh⟩ := hP
  have hx := Bd.exec
  have hby := Bd.bytes
  have hlk : meth.locks = false := BodyLoose.notSynchronized Bd
  have hml : c.maxLocals = 5 := hml0
  have hown : s.vm.findClass "java/lang/StringUTF16" = some m.cls := findClass_of_methodNamed Bd.named
  have hnm := (name_of_methodNamed Bd.named Bd.method).1
  have X0 : Stand p l e ({ frames := 2, cells := 1, slots := 8, locals := 40 } : Room) s m #[(.ref a), (.int (0 : Int32)), (.int (4 : Int32))] below meth c s₁ [] 0 0 := Stand.of_body Bd
  have e0 : s₁.heap = h0 := by rw [← hh, Bd.state]; rfl
  have N0 := Fr.nil n0
  have KP : Keep h0 h0 [] := Keep.refl _ _
  refine own_start (Fin := (own_Fin s (own_QTS_4 Z x0 x1 x2 x3 G1 a ka h0 n0) ({ frames := 2, cells := 1, slots := 8, locals := 40 } : Room).cells ({ frames := 2, cells := 1, slots := 8, locals := 40 } : Room).slots)) (own_from (mkF m 0 #[rv a, iv 0, iv 4, .unset, .unset] []) (castTop (own_ef_TS_4 m a (0 : Int32) (4 : Int32))) ?_)
  refine own_to (T' := s₁) (mkF m 1 #[rv a, iv 0, iv 4, .unset, .unset] [(.int (4 : Int32))]) (fun _ k => XS.iloadN X0.here hx rfl (hb hby own_d_jdk_52_method_14_0) rfl k) ?_
  have KP0 := KP
  have lt0_a := Va.lt
  obtain ⟨_, _, ⟨T181, L181, k181, n181⟩, -, X181, ⟨Lc181, hQ181, l181, y181, z181⟩, st181⟩ := Jvm.LawKit.callS X0 hx (y := (⟨"java/lang/StringUTF16", "newBytesFor", "(I)[B"⟩ : MethodName)) hown (mvT hZ (hw _ (List.mem_of_getElem? (i := 72) rfl))) (mvT hZ (hw _ (List.mem_of_getElem? (i := 73) rfl))) (mvT hZ (hw _ (List.mem_of_getElem? (i := 18) rfl))) (mvT hZ (hw _ (List.mem_of_getElem? (i := 74) rfl))) (by decide) (backOf (W := 0) (own_rmNF_4 l Z a0 hw [] h0 n0 (Nat.le_trans Z0 KP.1) OL) hZ (hw _ (List.mem_of_getElem? (i := 74) rfl)) (hw _ (List.mem_of_getElem? (i := 18) rfl)) (by decide) (by decide)) (g := (mkF m 1 #[rv a, iv 0, iv 4, .unset, .unset] [(.int (4 : Int32))])) rfl (by rw [hml]; rfl) (argsL := [(.int (4 : Int32))]) (rest := []) (lenOf own_pd1 rfl) rfl (by show 2 * 0 + _ ≤ _; exact Nat.le_of_eq rfl) (hb hby own_d_jdk_52_method_14_1) (fun _ _ => ⟨rfl, e0, (by decide : 0 + 1 ≤ _), (by decide : 0 + 8 ≤ _)⟩)
  dsimp only [Pt.U, Pt.locs, Pt.cells, Pt.slots] at X181 l181 y181 z181 st181 hQ181
  subst l181 y181 z181
  obtain ⟨bu, kbu, rfl, N181q, K181, ge_bu, sz0_bu, V0_bu⟩ := hQ181
  have N181 := Fr.app N0 N181q
  have OL := OL.keep K181 all0
  have KP := KP.trans K181 all0
  have Va := Va.keep K181 nin0
  refine own_to (mkF m 4 #[rv a, iv 0, iv 4, .unset, .unset] [(.ref bu)]) st181 ?_
  have sz_bu : h0.size ≤ bu := Nat.le_trans KP0.1 sz0_bu
  have ne_a_bu : a ≠ bu := Nat.ne_of_lt (Nat.lt_of_lt_of_le lt0_a sz0_bu)
  have Vu : Arv Z T181.heap bu kbu .byte (8 : Int32) [(.int (0 : Int32)), (.int (0 : Int32)), (.int (0 : Int32)), (.int (0 : Int32)), (.int (0 : Int32)), (.int (0 : Int32)), (.int (0 : Int32)), (.int (0 : Int32))] (.int (0 : Int32)) := V0_bu
  refine own_to (T' := T181) (mkF m 5 #[rv a, iv 0, iv 4, rv bu, .unset] []) (fun _ k => XS.astoreN X181.here hx rfl (hb hby own_d_jdk_52_method_14_4) rfl rfl (l' := #[rv a, iv 0, iv 4, rv bu, .unset]) rfl k) ?_
  refine own_to (T' := T181) (mkF m 6 #[rv a, iv 0, iv 4, rv bu, .unset] [(.int (0 : Int32))]) (fun _ k => XS.iconst X181.here hx rfl (hb hby own_d_jdk_52_method_14_5) k) ?_
  refine own_to (T' := T181) (mkF m 8 #[rv a, iv 0, iv 4, rv bu, iv 0] []) (fun _ k => XS.istore X181.here hx rfl (hb hby own_d_jdk_52_method_14_6) rfl (l' := #[rv a, iv 0, iv 4, rv bu, iv 0]) rfl k) ?_
  refine own_to (T' := T181) (mkF m 10 #[rv a, iv 0, iv 4, rv bu, iv 0] [(.int (0 : Int32))]) (fun _ k => XS.iload X181.here hx rfl (hb hby own_d_jdk_52_method_14_8) rfl k) ?_
  refine own_to (T' := T181) (mkF m 11 #[rv a, iv 0, iv 4, rv bu, iv 0] [(.int (4 : Int32)), (.int (0 : Int32))]) (fun _ k => XS.iloadN X181.here hx rfl (hb hby own_d_jdk_52_method_14_10) rfl k) ?_
  refine own_to (T' := T181) (mkF m 14 #[rv a, iv 0, iv 4, rv bu, iv 0] []) (fun _ k => XS.icmpNo X181.here hx rfl (hb hby own_d_jdk_52_method_14_11) rfl (tlt (by decide : (0 : Int32) < (4 : Int32))).2.1 k) ?_
  refine own_to (T' := T181) (mkF m 15 #[rv a, iv 0, iv 4, rv bu, iv 0] [(.ref bu)]) (fun _ k => XS.aloadN X181.here hx rfl (hb hby own_d_jdk_52_method_14_14) rfl rfl k) ?_
  refine own_to (T' := T181) (mkF m 17 #[rv a, iv 0, iv 4, rv bu, iv 0] [(.int (0 : Int32)), (.ref bu)]) (fun _ k => XS.iload X181.here hx rfl (hb hby own_d_jdk_52_method_14_15) rfl k) ?_
  refine own_to (T' := T181) (mkF m 18 #[rv a, iv 0, iv 4, rv bu, iv 0] [(.ref a), (.int (0 : Int32)), (.ref bu)]) (fun _ k => XS.aloadN X181.here hx rfl (hb hby own_d_jdk_52_method_14_17) rfl rfl k) ?_
  refine own_to (T' := T181) (mkF m 19 #[rv a, iv 0, iv 4, rv bu, iv 0] [(.int (0 : Int32)), (.ref a), (.int (0 : Int32)), (.ref bu)]) (fun _ k => XS.iloadN X181.here hx rfl (hb hby own_d_jdk_52_method_14_18) rfl k) ?_
  obtain ⟨cl182, Ar182, -, S182, -, H182, -⟩ := id Va
  refine own_to (mkF m 20 #[rv a, iv 0, iv 4, rv bu, iv 0] [(.int x0), (.int (0 : Int32)), (.ref bu)]) (X181.caload hx (j := (0 : Int32)) (v := (.int x0)) Ar182.1 (State.isArrayOf_alike hZ.alike Ar182.2.1) Ar182.2.2 (inb_of S182 ⟨by decide, by decide⟩) (H182.at (inb_of S182 ⟨by decide, by decide⟩) rfl) (g := (mkF m 19 #[rv a, iv 0, iv 4, rv bu, iv 0] [(.int (0 : Int32)), (.ref a), (.int (0 : Int32)), (.ref bu)])) rfl rfl (hb hby own_d_jdk_52_method_14_19)) ?_
  obtain ⟨_, _, ⟨T183, L183, k183, n183⟩, -, X183, ⟨Lc183, hQ183, l183, y183, z183⟩, st183⟩ := Jvm.LawKit.callS X181 hx (y := (⟨"java/lang/StringUTF16", "putChar", "([BII)V"⟩ : MethodName)) hown (mvT hZ (hw _ (List.mem_of_getElem? (i := 79) rfl))) (mvT hZ (hw _ (List.mem_of_getElem? (i := 80) rfl))) (mvT hZ (hw _ (List.mem_of_getElem? (i := 18) rfl))) (mvT hZ (hw _ (List.mem_of_getElem? (i := 81) rfl))) (by decide) (backOf (W := 0) (own_rmPC_4_0 l Z a0 hw [] (0 : Int32) (0 : Int32) (0 : Int32) (0 : Int32) (0 : Int32) (0 : Int32) (0 : Int32) (0 : Int32) x0 G1 bu kbu T181.heap n0 (Nat.le_trans Z0 KP.1) OL ge_bu Vu O2 P5 OAD OHI OLO) hZ (hw _ (List.mem_of_getElem? (i := 81) rfl)) (hw _ (List.mem_of_getElem? (i := 18) rfl)) (by decide) (by decide)) (g := (mkF m 20 #[rv a, iv 0, iv 4, rv bu, iv 0] [(.int x0), (.int (0 : Int32)), (.ref bu)])) rfl (by rw [hml]; rfl) (argsL := [(.ref bu), (.int (0 : Int32)), (.int x0)]) (rest := []) (lenOf own_pd2 rfl) rfl (by show 2 * 0 + _ ≤ _; exact Nat.le_of_eq rfl) (hb hby own_d_jdk_52_method_14_20) (fun _ _ => ⟨rfl, rfl, (by decide : 1 + 0 ≤ _), (by decide : 8 + 0 ≤ _)⟩)
  dsimp only [Pt.U, Pt.locs, Pt.cells, Pt.slots] at X183 l183 y183 z183 st183 hQ183
  subst l183 y183 z183
  obtain ⟨rfl, N183q, K183, Vq183⟩ := hQ183
  have N183 := Fr.app N181 N183q
  have OL := OL.keep K183 (allS ge_bu all0)
  have KP := KP.trans K183 (allS (Or.inr sz_bu) all0)
  have Va := Va.keep K183 (ninS ne_a_bu nin0)
  refine own_to (mkF m 23 #[rv a, iv 0, iv 4, rv bu, iv 0] []) st183 ?_
  have Vu : Arv Z T183.heap bu kbu .byte (8 : Int32) [(.int ((x0 >>> ((0 : Int32) &&& 31)).toInt8.toInt32)), (.int ((x0 >>> ((8 : Int32) &&& 31)).toInt8.toInt32)), (.int (0 : Int32)), (.int (0 : Int32)), (.int (0 : Int32)), (.int (0 : Int32)), (.int (0 : Int32)), (.int (0 : Int32))] (.int (0 : Int32)) := Vq183
  refine own_to (T' := T183) (mkF m 26 #[rv a, iv 1, iv 4, rv bu, iv 0] []) (fun _ k => XS.iinc X183.here hx rfl (hb hby own_d_jdk_52_method_14_23) rfl (l' := #[rv a, iv 1, iv 4, rv bu, iv 0]) rfl k) ?_
  refine own_to (T' := T183) (mkF m 29 #[rv a, iv 1, iv 4, rv bu, iv 1] []) (fun _ k => XS.iinc X183.here hx rfl (hb hby own_d_jdk_52_method_14_26) rfl (l' := #[rv a, iv 1, iv 4, rv bu, iv 1]) rfl k) ?_
  refine own_to (T' := T183) (mkF m 8 #[rv a, iv 1, iv 4, rv bu, iv 1] []) (fun _ k => XS.goto X183.here hx rfl (pc0 := 29) (pc' := 8) rfl (hb hby own_d_jdk_52_method_14_29) (by decide) (by decide) k) ?_
  refine own_to (T' := T183) (mkF m 10 #[rv a, iv 1, iv 4, rv bu, iv 1] [(.int (1 : Int32))]) (fun _ k => XS.iload X183.here hx rfl (hb hby own_d_jdk_52_method_14_8) rfl k) ?_
  refine own_to (T' := T183) (mkF m 11 #[rv a, iv 1, iv 4, rv bu, iv 1] [(.int (4 : Int32)), (.int (1 : Int32))]) (fun _ k => XS.iloadN X183.here hx rfl (hb hby own_d_jdk_52_method_14_10) rfl k) ?_
  refine own_to (T' := T183) (mkF m 14 #[rv a, iv 1, iv 4, rv bu, iv 1] []) (fun _ k => XS.icmpNo X183.here hx rfl (hb hby own_d_jdk_52_method_14_11) rfl (tlt (by decide : (1 : Int32) < (4 : Int32))).2.1 k) ?_
  refine own_to (T' := T183) (mkF m 15 #[rv a, iv 1, iv 4, rv bu, iv 1] [(.ref bu)]) (fun _ k => XS.aloadN X183.here hx rfl (hb hby own_d_jdk_52_method_14_14) rfl rfl k) ?_
  refine own_to (T' := T183) (mkF m 17 #[rv a, iv 1, iv 4, rv bu, iv 1] [(.int (1 : Int32)), (.ref bu)]) (fun _ k => XS.iload X183.here hx rfl (hb hby own_d_jdk_52_method_14_15) rfl k) ?_
  refine own_to (T' := T183) (mkF m 18 #[rv a, iv 1, iv 4, rv bu, iv 1] [(.ref a), (.int (1 : Int32)), (.ref bu)]) (fun _ k => XS.aloadN X183.here hx rfl (hb hby own_d_jdk_52_method_14_17) rfl rfl k) ?_
  refine own_to (T' := T183) (mkF m 19 #[rv a, iv 1, iv 4, rv bu, iv 1] [(.int (1 : Int32)), (.ref a), (.int (1 : Int32)), (.ref bu)]) (fun _ k => XS.iloadN X183.here hx rfl (hb hby own_d_jdk_52_method_14_18) rfl k) ?_
  obtain ⟨cl184, Ar184, -, S184, -, H184, -⟩ := id Va
  refine own_to (mkF m 20 #[rv a, iv 1, iv 4, rv bu, iv 1] [(.int x1), (.int (1 : Int32)), (.ref bu)]) (X183.caload hx (j := (1 : Int32)) (v := (.int x1)) Ar184.1 (State.isArrayOf_alike hZ.alike Ar184.2.1) Ar184.2.2 (inb_of S184 ⟨by decide, by decide⟩) (H184.at (inb_of S184 ⟨by decide, by decide⟩) rfl) (g := (mkF m 19 #[rv a, iv 1, iv 4, rv bu, iv 1] [(.int (1 : Int32)), (.ref a), (.int (1 : Int32)), (.ref bu)])) rfl rfl (hb hby own_d_jdk_52_method_14_19)) ?_
  obtain ⟨_, _, ⟨T185, L185, k185, n185⟩, -, X185, ⟨Lc185, hQ185, l185, y185, z185⟩, st185⟩ := Jvm.LawKit.callS X183 hx (y := (⟨"java/lang/StringUTF16", "putChar", "([BII)V"⟩ : MethodName)) hown (mvT hZ (hw _ (List.mem_of_getElem? (i := 79) rfl))) (mvT hZ (hw _ (List.mem_of_getElem? (i := 80) rfl))) (mvT hZ (hw _ (List.mem_of_getElem? (i := 18) rfl))) (mvT hZ (hw _ (List.mem_of_getElem? (i := 81) rfl))) (by decide) (backOf (W := 0) (own_rmPC_4_1 l Z a0 hw [] ((x0 >>> ((0 : Int32) &&& 31)).toInt8.toInt32) ((x0 >>> ((8 : Int32) &&& 31)).toInt8.toInt32) (0 : Int32) (0 : Int32) (0 : Int32) (0 : Int32) (0 : Int32) (0 : Int32) x1 G1 bu kbu T183.heap n0 (Nat.le_trans Z0 KP.1) OL ge_bu Vu O2 P5 OAD OHI OLO) hZ (hw _ (List.mem_of_getElem? (i := 81) rfl)) (hw _ (List.mem_of_getElem? (i := 18) rfl)) (by decide) (by decide)) (g := (mkF m 20 #[rv a, iv 1, iv 4, rv bu, iv 1] [(.int x1), (.int (1 : Int32)), (.ref bu)])) rfl (by rw [hml]; rfl) (argsL := [(.ref bu), (.int (1 : Int32)), (.int x1)]) (rest := []) (lenOf own_pd2 rfl) rfl (by show 2 * 0 + _ ≤ _; exact Nat.le_of_eq rfl) (hb hby own_d_jdk_52_method_14_20) (fun _ _ => ⟨rfl, rfl, (by decide : 1 + 0 ≤ _), (by decide : 8 + 0 ≤ _)⟩)
  dsimp only [Pt.U, Pt.locs, Pt.cells, Pt.slots] at X185 l185 y185 z185 st185 hQ185
  subst l185 y185 z185
  obtain ⟨rfl, N185q, K185, Vq185⟩ := hQ185
  have N185 := Fr.app N183 N185q
  have OL := OL.keep K185 (allS ge_bu all0)
  have KP := KP.trans K185 (allS (Or.inr sz_bu) all0)
  have Va := Va.keep K185 (ninS ne_a_bu nin0)
  refine own_to (mkF m 23 #[rv a, iv 1, iv 4, rv bu, iv 1] []) st185 ?_
  have Vu : Arv Z T185.heap bu kbu .byte (8 : Int32) [(.int ((x0 >>> ((0 : Int32) &&& 31)).toInt8.toInt32)), (.int ((x0 >>> ((8 : Int32) &&& 31)).toInt8.toInt32)), (.int ((x1 >>> ((0 : Int32) &&& 31)).toInt8.toInt32)), (.int ((x1 >>> ((8 : Int32) &&& 31)).toInt8.toInt32)), (.int (0 : Int32)), (.int (0 : Int32)), (.int (0 : Int32)), (.int (0 : Int32))] (.int (0 : Int32)) := Vq185
  refine own_to (T' := T185) (mkF m 26 #[rv a, iv 2, iv 4, rv bu, iv 1] []) (fun _ k => XS.iinc X185.here hx rfl (hb hby own_d_jdk_52_method_14_23) rfl (l' := #[rv a, iv 2, iv 4, rv bu, iv 1]) rfl k) ?_
  refine own_to (T' := T185) (mkF m 29 #[rv a, iv 2, iv 4, rv bu, iv 2] []) (fun _ k => XS.iinc X185.here hx rfl (hb hby own_d_jdk_52_method_14_26) rfl (l' := #[rv a, iv 2, iv 4, rv bu, iv 2]) rfl k) ?_
  refine own_to (T' := T185) (mkF m 8 #[rv a, iv 2, iv 4, rv bu, iv 2] []) (fun _ k => XS.goto X185.here hx rfl (pc0 := 29) (pc' := 8) rfl (hb hby own_d_jdk_52_method_14_29) (by decide) (by decide) k) ?_
  refine own_to (T' := T185) (mkF m 10 #[rv a, iv 2, iv 4, rv bu, iv 2] [(.int (2 : Int32))]) (fun _ k => XS.iload X185.here hx rfl (hb hby own_d_jdk_52_method_14_8) rfl k) ?_
  refine own_to (T' := T185) (mkF m 11 #[rv a, iv 2, iv 4, rv bu, iv 2] [(.int (4 : Int32)), (.int (2 : Int32))]) (fun _ k => XS.iloadN X185.here hx rfl (hb hby own_d_jdk_52_method_14_10) rfl k) ?_
  refine own_to (T' := T185) (mkF m 14 #[rv a, iv 2, iv 4, rv bu, iv 2] []) (fun _ k => XS.icmpNo X185.here hx rfl (hb hby own_d_jdk_52_method_14_11) rfl (tlt (by decide : (2 : Int32) < (4 : Int32))).2.1 k) ?_
  refine own_to (T' := T185) (mkF m 15 #[rv a, iv 2, iv 4, rv bu, iv 2] [(.ref bu)]) (fun _ k => XS.aloadN X185.here hx rfl (hb hby own_d_jdk_52_method_14_14) rfl rfl k) ?_
  refine own_to (T' := T185) (mkF m 17 #[rv a, iv 2, iv 4, rv bu, iv 2] [(.int (2 : Int32)), (.ref bu)]) (fun _ k => XS.iload X185.here hx rfl (hb hby own_d_jdk_52_method_14_15) rfl k) ?_
  refine own_to (T' := T185) (mkF m 18 #[rv a, iv 2, iv 4, rv bu, iv 2] [(.ref a), (.int (2 : Int32)), (.ref bu)]) (fun _ k => XS.aloadN X185.here hx rfl (hb hby own_d_jdk_52_method_14_17) rfl rfl k) ?_
  refine own_to (T' := T185) (mkF m 19 #[rv a, iv 2, iv 4, rv bu, iv 2] [(.int (2 : Int32)), (.ref a), (.int (2 : Int32)), (.ref bu)]) (fun _ k => XS.iloadN X185.here hx rfl (hb hby own_d_jdk_52_method_14_18) rfl k) ?_
  obtain ⟨cl186, Ar186, -, S186, -, H186, -⟩ := id Va
  refine own_to (mkF m 20 #[rv a, iv 2, iv 4, rv bu, iv 2] [(.int x2), (.int (2 : Int32)), (.ref bu)]) (X185.caload hx (j := (2 : Int32)) (v := (.int x2)) Ar186.1 (State.isArrayOf_alike hZ.alike Ar186.2.1) Ar186.2.2 (inb_of S186 ⟨by decide, by decide⟩) (H186.at (inb_of S186 ⟨by decide, by decide⟩) rfl) (g := (mkF m 19 #[rv a, iv 2, iv 4, rv bu, iv 2] [(.int (2 : Int32)), (.ref a), (.int (2 : Int32)), (.ref bu)])) rfl rfl (hb hby own_d_jdk_52_method_14_19)) ?_
  obtain ⟨_, _, ⟨T187, L187, k187, n187⟩, -, X187, ⟨Lc187, hQ187, l187, y187, z187⟩, st187⟩ := Jvm.LawKit.callS X185 hx (y := (⟨"java/lang/StringUTF16", "putChar", "([BII)V"⟩ : MethodName)) hown (mvT hZ (hw _ (List.mem_of_getElem? (i := 79) rfl))) (mvT hZ (hw _ (List.mem_of_getElem? (i := 80) rfl))) (mvT hZ (hw _ (List.mem_of_getElem? (i := 18) rfl))) (mvT hZ (hw _ (List.mem_of_getElem? (i := 81) rfl))) (by decide) (backOf (W := 0) (own_rmPC_4_2 l Z a0 hw [] ((x0 >>> ((0 : Int32) &&& 31)).toInt8.toInt32) ((x0 >>> ((8 : Int32) &&& 31)).toInt8.toInt32) ((x1 >>> ((0 : Int32) &&& 31)).toInt8.toInt32) ((x1 >>> ((8 : Int32) &&& 31)).toInt8.toInt32) (0 : Int32) (0 : Int32) (0 : Int32) (0 : Int32) x2 G1 bu kbu T185.heap n0 (Nat.le_trans Z0 KP.1) OL ge_bu Vu O2 P5 OAD OHI OLO) hZ (hw _ (List.mem_of_getElem? (i := 81) rfl)) (hw _ (List.mem_of_getElem? (i := 18) rfl)) (by decide) (by decide)) (g := (mkF m 20 #[rv a, iv 2, iv 4, rv bu, iv 2] [(.int x2), (.int (2 : Int32)), (.ref bu)])) rfl (by rw [hml]; rfl) (argsL := [(.ref bu), (.int (2 : Int32)), (.int x2)]) (rest := []) (lenOf own_pd2 rfl) rfl (by show 2 * 0 + _ ≤ _; exact Nat.le_of_eq rfl) (hb hby own_d_jdk_52_method_14_20) (fun _ _ => ⟨rfl, rfl, (by decide : 1 + 0 ≤ _), (by decide : 8 + 0 ≤ _)⟩)
  dsimp only [Pt.U, Pt.locs, Pt.cells, Pt.slots] at X187 l187 y187 z187 st187 hQ187
  subst l187 y187 z187
  obtain ⟨rfl, N187q, K187, Vq187⟩ := hQ187
  have N187 := Fr.app N185 N187q
  have OL := OL.keep K187 (allS ge_bu all0)
  have KP := KP.trans K187 (allS (Or.inr sz_bu) all0)
  have Va := Va.keep K187 (ninS ne_a_bu nin0)
  refine own_to (mkF m 23 #[rv a, iv 2, iv 4, rv bu, iv 2] []) st187 ?_
  have Vu : Arv Z T187.heap bu kbu .byte (8 : Int32) [(.int ((x0 >>> ((0 : Int32) &&& 31)).toInt8.toInt32)), (.int ((x0 >>> ((8 : Int32) &&& 31)).toInt8.toInt32)), (.int ((x1 >>> ((0 : Int32) &&& 31)).toInt8.toInt32)), (.int ((x1 >>> ((8 : Int32) &&& 31)).toInt8.toInt32)), (.int ((x2 >>> ((0 : Int32) &&& 31)).toInt8.toInt32)), (.int ((x2 >>> ((8 : Int32) &&& 31)).toInt8.toInt32)), (.int (0 : Int32)), (.int (0 : Int32))] (.int (0 : Int32)) := Vq187
  refine own_to (T' := T187) (mkF m 26 #[rv a, iv 3, iv 4, rv bu, iv 2] []) (fun _ k => XS.iinc X187.here hx rfl (hb hby own_d_jdk_52_method_14_23) rfl (l' := #[rv a, iv 3, iv 4, rv bu, iv 2]) rfl k) ?_
  refine own_to (T' := T187) (mkF m 29 #[rv a, iv 3, iv 4, rv bu, iv 3] []) (fun _ k => XS.iinc X187.here hx rfl (hb hby own_d_jdk_52_method_14_26) rfl (l' := #[rv a, iv 3, iv 4, rv bu, iv 3]) rfl k) ?_
  refine own_to (T' := T187) (mkF m 8 #[rv a, iv 3, iv 4, rv bu, iv 3] []) (fun _ k => XS.goto X187.here hx rfl (pc0 := 29) (pc' := 8) rfl (hb hby own_d_jdk_52_method_14_29) (by decide) (by decide) k) ?_
  refine own_to (T' := T187) (mkF m 10 #[rv a, iv 3, iv 4, rv bu, iv 3] [(.int (3 : Int32))]) (fun _ k => XS.iload X187.here hx rfl (hb hby own_d_jdk_52_method_14_8) rfl k) ?_
  refine own_to (T' := T187) (mkF m 11 #[rv a, iv 3, iv 4, rv bu, iv 3] [(.int (4 : Int32)), (.int (3 : Int32))]) (fun _ k => XS.iloadN X187.here hx rfl (hb hby own_d_jdk_52_method_14_10) rfl k) ?_
  refine own_to (T' := T187) (mkF m 14 #[rv a, iv 3, iv 4, rv bu, iv 3] []) (fun _ k => XS.icmpNo X187.here hx rfl (hb hby own_d_jdk_52_method_14_11) rfl (tlt (by decide : (3 : Int32) < (4 : Int32))).2.1 k) ?_
  refine own_to (T' := T187) (mkF m 15 #[rv a, iv 3, iv 4, rv bu, iv 3] [(.ref bu)]) (fun _ k => XS.aloadN X187.here hx rfl (hb hby own_d_jdk_52_method_14_14) rfl rfl k) ?_
  refine own_to (T' := T187) (mkF m 17 #[rv a, iv 3, iv 4, rv bu, iv 3] [(.int (3 : Int32)), (.ref bu)]) (fun _ k => XS.iload X187.here hx rfl (hb hby own_d_jdk_52_method_14_15) rfl k) ?_
  refine own_to (T' := T187) (mkF m 18 #[rv a, iv 3, iv 4, rv bu, iv 3] [(.ref a), (.int (3 : Int32)), (.ref bu)]) (fun _ k => XS.aloadN X187.here hx rfl (hb hby own_d_jdk_52_method_14_17) rfl rfl k) ?_
  refine own_to (T' := T187) (mkF m 19 #[rv a, iv 3, iv 4, rv bu, iv 3] [(.int (3 : Int32)), (.ref a), (.int (3 : Int32)), (.ref bu)]) (fun _ k => XS.iloadN X187.here hx rfl (hb hby own_d_jdk_52_method_14_18) rfl k) ?_
  obtain ⟨cl188, Ar188, -, S188, -, H188, -⟩ := id Va
  refine own_to (mkF m 20 #[rv a, iv 3, iv 4, rv bu, iv 3] [(.int x3), (.int (3 : Int32)), (.ref bu)]) (X187.caload hx (j := (3 : Int32)) (v := (.int x3)) Ar188.1 (State.isArrayOf_alike hZ.alike Ar188.2.1) Ar188.2.2 (inb_of S188 ⟨by decide, by decide⟩) (H188.at (inb_of S188 ⟨by decide, by decide⟩) rfl) (g := (mkF m 19 #[rv a, iv 3, iv 4, rv bu, iv 3] [(.int (3 : Int32)), (.ref a), (.int (3 : Int32)), (.ref bu)])) rfl rfl (hb hby own_d_jdk_52_method_14_19)) ?_
  obtain ⟨_, _, ⟨T189, L189, k189, n189⟩, -, X189, ⟨Lc189, hQ189, l189, y189, z189⟩, st189⟩ := Jvm.LawKit.callS X187 hx (y := (⟨"java/lang/StringUTF16", "putChar", "([BII)V"⟩ : MethodName)) hown (mvT hZ (hw _ (List.mem_of_getElem? (i := 79) rfl))) (mvT hZ (hw _ (List.mem_of_getElem? (i := 80) rfl))) (mvT hZ (hw _ (List.mem_of_getElem? (i := 18) rfl))) (mvT hZ (hw _ (List.mem_of_getElem? (i := 81) rfl))) (by decide) (backOf (W := 0) (own_rmPC_4_3 l Z a0 hw [] ((x0 >>> ((0 : Int32) &&& 31)).toInt8.toInt32) ((x0 >>> ((8 : Int32) &&& 31)).toInt8.toInt32) ((x1 >>> ((0 : Int32) &&& 31)).toInt8.toInt32) ((x1 >>> ((8 : Int32) &&& 31)).toInt8.toInt32) ((x2 >>> ((0 : Int32) &&& 31)).toInt8.toInt32) ((x2 >>> ((8 : Int32) &&& 31)).toInt8.toInt32) (0 : Int32) (0 : Int32) x3 G1 bu kbu T187.heap n0 (Nat.le_trans Z0 KP.1) OL ge_bu Vu O2 P5 OAD OHI OLO) hZ (hw _ (List.mem_of_getElem? (i := 81) rfl)) (hw _ (List.mem_of_getElem? (i := 18) rfl)) (by decide) (by decide)) (g := (mkF m 20 #[rv a, iv 3, iv 4, rv bu, iv 3] [(.int x3), (.int (3 : Int32)), (.ref bu)])) rfl (by rw [hml]; rfl) (argsL := [(.ref bu), (.int (3 : Int32)), (.int x3)]) (rest := []) (lenOf own_pd2 rfl) rfl (by show 2 * 0 + _ ≤ _; exact Nat.le_of_eq rfl) (hb hby own_d_jdk_52_method_14_20) (fun _ _ => ⟨rfl, rfl, (by decide : 1 + 0 ≤ _), (by decide : 8 + 0 ≤ _)⟩)
  dsimp only [Pt.U, Pt.locs, Pt.cells, Pt.slots] at X189 l189 y189 z189 st189 hQ189
  subst l189 y189 z189
  obtain ⟨rfl, N189q, K189, Vq189⟩ := hQ189
  have N189 := Fr.app N187 N189q
  have OL := OL.keep K189 (allS ge_bu all0)
  have KP := KP.trans K189 (allS (Or.inr sz_bu) all0)
  have Va := Va.keep K189 (ninS ne_a_bu nin0)
  refine own_to (mkF m 23 #[rv a, iv 3, iv 4, rv bu, iv 3] []) st189 ?_
  have Vu : Arv Z T189.heap bu kbu .byte (8 : Int32) [(.int ((x0 >>> ((0 : Int32) &&& 31)).toInt8.toInt32)), (.int ((x0 >>> ((8 : Int32) &&& 31)).toInt8.toInt32)), (.int ((x1 >>> ((0 : Int32) &&& 31)).toInt8.toInt32)), (.int ((x1 >>> ((8 : Int32) &&& 31)).toInt8.toInt32)), (.int ((x2 >>> ((0 : Int32) &&& 31)).toInt8.toInt32)), (.int ((x2 >>> ((8 : Int32) &&& 31)).toInt8.toInt32)), (.int ((x3 >>> ((0 : Int32) &&& 31)).toInt8.toInt32)), (.int ((x3 >>> ((8 : Int32) &&& 31)).toInt8.toInt32))] (.int (0 : Int32)) := Vq189
  refine own_to (T' := T189) (mkF m 26 #[rv a, iv 4, iv 4, rv bu, iv 3] []) (fun _ k => XS.iinc X189.here hx rfl (hb hby own_d_jdk_52_method_14_23) rfl (l' := #[rv a, iv 4, iv 4, rv bu, iv 3]) rfl k) ?_
  refine own_to (T' := T189) (mkF m 29 #[rv a, iv 4, iv 4, rv bu, iv 4] []) (fun _ k => XS.iinc X189.here hx rfl (hb hby own_d_jdk_52_method_14_26) rfl (l' := #[rv a, iv 4, iv 4, rv bu, iv 4]) rfl k) ?_
  refine own_to (T' := T189) (mkF m 8 #[rv a, iv 4, iv 4, rv bu, iv 4] []) (fun _ k => XS.goto X189.here hx rfl (pc0 := 29) (pc' := 8) rfl (hb hby own_d_jdk_52_method_14_29) (by decide) (by decide) k) ?_
  refine own_to (T' := T189) (mkF m 10 #[rv a, iv 4, iv 4, rv bu, iv 4] [(.int (4 : Int32))]) (fun _ k => XS.iload X189.here hx rfl (hb hby own_d_jdk_52_method_14_8) rfl k) ?_
  refine own_to (T' := T189) (mkF m 11 #[rv a, iv 4, iv 4, rv bu, iv 4] [(.int (4 : Int32)), (.int (4 : Int32))]) (fun _ k => XS.iloadN X189.here hx rfl (hb hby own_d_jdk_52_method_14_10) rfl k) ?_
  refine own_to (T' := T189) (mkF m 32 #[rv a, iv 4, iv 4, rv bu, iv 4] []) (fun _ k => XS.icmpYes X189.here hx rfl (pc0 := 11) (pc' := 32) rfl (hb hby own_d_jdk_52_method_14_11) rfl (flt (by decide : ¬ ((4 : Int32) < (4 : Int32)))).2.1 (by decide) (by decide) k) ?_
  refine own_to (T' := T189) (mkF m 33 #[rv a, iv 4, iv 4, rv bu, iv 4] [(.ref bu)]) (fun _ k => XS.aloadN X189.here hx rfl (hb hby own_d_jdk_52_method_14_32) rfl rfl k) ?_
  exact own_retA X189 hx Bd.returns rfl hlk (hb hby own_d_jdk_52_method_14_33) rfl (by decide) (by decide) (by exact ⟨bu, kbu, rfl, N189, KP, ge_bu, sz_bu, Vu⟩)
def own_QGC_4_0 (Z : State) (x0 x1 x2 x3 : Int32) (G1 : Int32) (b : Addr) (kb : ClassId) (h0 : Heap) (n0 : Nat) (v : Option Value) (h : Heap) (L : List Loc) : Prop := v = some (.int x0) ∧ Fr n0 L ∧ h = h0
set_option maxRecDepth 65536 in
set_option maxHeartbeats 40000000 in
theorem own_rmGC_4_0 (l : Launch) (Z : State) (a0 : Array Value) (hw : ∀ d ∈ tables_1, d.before a0 Z = true) (ws : List Jvm.Cond) (x0 x1 x2 x3 : Int32) (G1 : Int32) (b : Addr) (kb : ClassId) (h0 : Heap) (n0 : Nat) (Z0 : n0 ≤ h0.size) (OL : Old Z n0 h0) (hx0 : own_C16 x0) (Vb : Arv Z h0 b kb .byte (8 : Int32) [(.int ((x0 >>> ((0 : Int32) &&& 31)).toInt8.toInt32)), (.int ((x0 >>> ((8 : Int32) &&& 31)).toInt8.toInt32)), (.int ((x1 >>> ((0 : Int32) &&& 31)).toInt8.toInt32)), (.int ((x1 >>> ((8 : Int32) &&& 31)).toInt8.toInt32)), (.int ((x2 >>> ((0 : Int32) &&& 31)).toInt8.toInt32)), (.int ((x2 >>> ((8 : Int32) &&& 31)).toInt8.toInt32)), (.int ((x3 >>> ((0 : Int32) &&& 31)).toInt8.toInt32)), (.int ((x3 >>> ((8 : Int32) &&& 31)).toInt8.toInt32))] (.int (0 : Int32))) (O2 : Sta Z Z.heap "java/lang/String" "COMPACT_STRINGS" "Z" (.int G1)) (P5 : ¬ (G1 = (0 : Int32))) (OAD : Sta Z Z.heap "java/lang/StringUTF16" "$assertionsDisabled" "Z" (.int (1 : Int32))) (OHI : Sta Z Z.heap "java/lang/StringUTF16" "HI_BYTE_SHIFT" "I" (.int (0 : Int32))) (OLO : Sta Z Z.heap "java/lang/StringUTF16" "LO_BYTE_SHIFT" "I" (.int (8 : Int32))) :
    MetFree l (⟨"java/lang/StringUTF16", "getChar", "([BI)C"⟩ : MethodName) (head1 (Jvm.Cond.code (⟨"java/lang/StringUTF16", "getChar", "([BI)C"⟩ : MethodName) jdk_52_method_5_code 2 (some .char) :: ws) ({ frames := 0, cells := 0, slots := 0, locals := 0 } : Room)) (fun aa_ U => aa_ = #[(.ref b), (.int (0 : Int32))] ∧ Z.Warmed39 U.vm ∧ U.heap = h0) (fun _ _ _ _ _ => True) (fun _ U o U' => ∃ v L, o = .returned v ∧ own_QGC_4_0 Z x0 x1 x2 x3 G1 b kb h0 n0 v U'.heap L ∧ FrameEnd U o U' L ({ frames := 0, cells := 0, slots := 0, locals := 0 } : Room).cells ({ frames := 0, cells := 0, slots := 0, locals := 0 } : Room).slots) := by
  refine MetFree.of_bodySF (plainFor_of_name own_pn0) hisR ?_
  intro p e s m args below meth c s₁ Bd hml0 hP hK
  obtain ⟨rfl, hZ, hh⟩ := hP
  have hx := Bd.exec
  have hby := Bd.bytes
  have hlk : meth.locks = false := BodyLoose.notSynchronized Bd
  have hml : c.maxLocals = 2 := hml0
  have hown : s.vm.findClass "java/lang/StringUTF16" = some m.cls := findClass_of_methodNamed Bd.named
  have hnm := (name_of_methodNamed Bd.named Bd.method).1
  have X0 : Stand p l e ({ frames := 0, cells := 0, slots := 0, locals := 0 } : Room) s m #[(.ref b), (.int (0 : Int32))] below meth c s₁ [] 0 0 := Stand.of_body Bd
  have e0 : s₁.heap = h0 := by rw [← hh, Bd.state]; rfl
  have N0 := Fr.nil n0
  have KP : Keep h0 h0 [] := Keep.refl _ _
  refine own_start (Fin := (own_Fin s (own_QGC_4_0 Z x0 x1 x2 x3 G1 b kb h0 n0) ({ frames := 0, cells := 0, slots := 0, locals := 0 } : Room).cells ({ frames := 0, cells := 0, slots := 0, locals := 0 } : Room).slots)) (own_from (mkF m 0 #[rv b, iv 0] []) (castTop (own_ef_GC_4_0 m b (0 : Int32))) ?_)
  obtain ⟨T190, X190, e190, st190⟩ := getS2 X0 hx hZ hown (host := "") (Or.inl (hw _ (List.mem_of_getElem? (i := 82) rfl))) Via.refl e0 (OAD.ext OL.2) (g := (mkF m 0 #[rv b, iv 0] [])) rfl (hb hby own_d_jdk_52_method_5_0)
  refine own_to (mkF m 3 #[rv b, iv 0] [(.int (1 : Int32))]) st190 ?_
  refine own_to (T' := T190) (mkF m 28 #[rv b, iv 0] []) (fun _ k => XS.ifYes X190.here hx rfl (pc0 := 3) (pc' := 28) rfl (hb hby own_d_jdk_52_method_5_3) rfl ((if0 _ _).trans (feq (by decide : ¬ ((1 : Int32) = (0 : Int32)))).2) (by decide) (by decide) k) ?_
  refine own_to (T' := T190) (mkF m 29 #[rv b, iv 0] [(.int (0 : Int32))]) (fun _ k => XS.iloadN X190.here hx rfl (hb hby own_d_jdk_52_method_5_28) rfl k) ?_
  refine own_to (T' := T190) (mkF m 30 #[rv b, iv 0] [(.int (1 : Int32)), (.int (0 : Int32))]) (fun _ k => XS.iconst X190.here hx rfl (hb hby own_d_jdk_52_method_5_29) k) ?_
  refine own_to (T' := T190) (mkF m 31 #[rv b, iv 0] [(.int (0 : Int32))]) (fun _ k => XS.ishl X190.here hx rfl (hb hby own_d_jdk_52_method_5_30) rfl k) ?_
  refine own_to (T' := T190) (mkF m 32 #[rv b, iv 0] []) (fun _ k => XS.istoreN X190.here hx rfl (hb hby own_d_jdk_52_method_5_31) rfl (l' := #[rv b, iv 0]) rfl k) ?_
  refine own_to (T' := T190) (mkF m 33 #[rv b, iv 0] [(.ref b)]) (fun _ k => XS.aloadN X190.here hx rfl (hb hby own_d_jdk_52_method_5_32) rfl rfl k) ?_
  refine own_to (T' := T190) (mkF m 34 #[rv b, iv 0] [(.int (0 : Int32)), (.ref b)]) (fun _ k => XS.iloadN X190.here hx rfl (hb hby own_d_jdk_52_method_5_33) rfl k) ?_
  refine own_to (T' := T190) (mkF m 37 #[rv b, iv 1] [(.int (0 : Int32)), (.ref b)]) (fun _ k => XS.iinc X190.here hx rfl (hb hby own_d_jdk_52_method_5_34) rfl (l' := #[rv b, iv 1]) rfl k) ?_
  obtain ⟨cl191, Ar191, -, S191, -, H191, -⟩ := id Vb
  refine own_to (mkF m 38 #[rv b, iv 1] [(.int ((x0 >>> ((0 : Int32) &&& 31)).toInt8.toInt32))]) (X190.baloadBytes hx (j := (0 : Int32)) (v := (.int ((x0 >>> ((0 : Int32) &&& 31)).toInt8.toInt32))) (by rw [e190]; exact Ar191.1) (State.isArrayOf_alike hZ.alike Ar191.2.1) Ar191.2.2 (inb_of S191 ⟨by decide, by decide⟩) (H191.at (inb_of S191 ⟨by decide, by decide⟩) rfl) (g := (mkF m 37 #[rv b, iv 1] [(.int (0 : Int32)), (.ref b)])) rfl rfl (hb hby own_d_jdk_52_method_5_37)) ?_
  refine own_to (T' := T190) (mkF m 41 #[rv b, iv 1] [(.int (255 : Int32)), (.int ((x0 >>> ((0 : Int32) &&& 31)).toInt8.toInt32))]) (fun _ k => XS.sipush X190.here hx rfl (hb hby own_d_jdk_52_method_5_38) k) ?_
  refine own_to (T' := T190) (mkF m 42 #[rv b, iv 1] [(.int (((x0 >>> ((0 : Int32) &&& 31)).toInt8.toInt32) &&& (255 : Int32)))]) (fun _ k => XS.iand X190.here hx rfl (hb hby own_d_jdk_52_method_5_41) rfl k) ?_
  obtain ⟨T192, X192, e192, st192⟩ := getS2 X190 hx hZ hown (host := "") (Or.inl (hw _ (List.mem_of_getElem? (i := 83) rfl))) Via.refl e190 (OHI.ext OL.2) (g := (mkF m 42 #[rv b, iv 1] [(.int (((x0 >>> ((0 : Int32) &&& 31)).toInt8.toInt32) &&& (255 : Int32)))])) rfl (hb hby own_d_jdk_52_method_5_42)
  refine own_to (mkF m 45 #[rv b, iv 1] [(.int (0 : Int32)), (.int (((x0 >>> ((0 : Int32) &&& 31)).toInt8.toInt32) &&& (255 : Int32)))]) st192 ?_
  refine own_to (T' := T192) (mkF m 46 #[rv b, iv 1] [(.int ((((x0 >>> ((0 : Int32) &&& 31)).toInt8.toInt32) &&& (255 : Int32)) <<< ((0 : Int32) &&& 31)))]) (fun _ k => XS.ishl X192.here hx rfl (hb hby own_d_jdk_52_method_5_45) rfl k) ?_
  refine own_to (T' := T192) (mkF m 47 #[rv b, iv 1] [(.ref b), (.int ((((x0 >>> ((0 : Int32) &&& 31)).toInt8.toInt32) &&& (255 : Int32)) <<< ((0 : Int32) &&& 31)))]) (fun _ k => XS.aloadN X192.here hx rfl (hb hby own_d_jdk_52_method_5_46) rfl rfl k) ?_
  refine own_to (T' := T192) (mkF m 48 #[rv b, iv 1] [(.int (1 : Int32)), (.ref b), (.int ((((x0 >>> ((0 : Int32) &&& 31)).toInt8.toInt32) &&& (255 : Int32)) <<< ((0 : Int32) &&& 31)))]) (fun _ k => XS.iloadN X192.here hx rfl (hb hby own_d_jdk_52_method_5_47) rfl k) ?_
  obtain ⟨cl193, Ar193, -, S193, -, H193, -⟩ := id Vb
  refine own_to (mkF m 49 #[rv b, iv 1] [(.int ((x0 >>> ((8 : Int32) &&& 31)).toInt8.toInt32)), (.int ((((x0 >>> ((0 : Int32) &&& 31)).toInt8.toInt32) &&& (255 : Int32)) <<< ((0 : Int32) &&& 31)))]) (X192.baloadBytes hx (j := (1 : Int32)) (v := (.int ((x0 >>> ((8 : Int32) &&& 31)).toInt8.toInt32))) (by rw [e192]; exact Ar193.1) (State.isArrayOf_alike hZ.alike Ar193.2.1) Ar193.2.2 (inb_of S193 ⟨by decide, by decide⟩) (H193.at (inb_of S193 ⟨by decide, by decide⟩) rfl) (g := (mkF m 48 #[rv b, iv 1] [(.int (1 : Int32)), (.ref b), (.int ((((x0 >>> ((0 : Int32) &&& 31)).toInt8.toInt32) &&& (255 : Int32)) <<< ((0 : Int32) &&& 31)))])) rfl rfl (hb hby own_d_jdk_52_method_5_48)) ?_
  refine own_to (T' := T192) (mkF m 52 #[rv b, iv 1] [(.int (255 : Int32)), (.int ((x0 >>> ((8 : Int32) &&& 31)).toInt8.toInt32)), (.int ((((x0 >>> ((0 : Int32) &&& 31)).toInt8.toInt32) &&& (255 : Int32)) <<< ((0 : Int32) &&& 31)))]) (fun _ k => XS.sipush X192.here hx rfl (hb hby own_d_jdk_52_method_5_49) k) ?_
  refine own_to (T' := T192) (mkF m 53 #[rv b, iv 1] [(.int (((x0 >>> ((8 : Int32) &&& 31)).toInt8.toInt32) &&& (255 : Int32))), (.int ((((x0 >>> ((0 : Int32) &&& 31)).toInt8.toInt32) &&& (255 : Int32)) <<< ((0 : Int32) &&& 31)))]) (fun _ k => XS.iand X192.here hx rfl (hb hby own_d_jdk_52_method_5_52) rfl k) ?_
  obtain ⟨T194, X194, e194, st194⟩ := getS2 X192 hx hZ hown (host := "") (Or.inl (hw _ (List.mem_of_getElem? (i := 84) rfl))) Via.refl e192 (OLO.ext OL.2) (g := (mkF m 53 #[rv b, iv 1] [(.int (((x0 >>> ((8 : Int32) &&& 31)).toInt8.toInt32) &&& (255 : Int32))), (.int ((((x0 >>> ((0 : Int32) &&& 31)).toInt8.toInt32) &&& (255 : Int32)) <<< ((0 : Int32) &&& 31)))])) rfl (hb hby own_d_jdk_52_method_5_53)
  refine own_to (mkF m 56 #[rv b, iv 1] [(.int (8 : Int32)), (.int (((x0 >>> ((8 : Int32) &&& 31)).toInt8.toInt32) &&& (255 : Int32))), (.int ((((x0 >>> ((0 : Int32) &&& 31)).toInt8.toInt32) &&& (255 : Int32)) <<< ((0 : Int32) &&& 31)))]) st194 ?_
  refine own_to (T' := T194) (mkF m 57 #[rv b, iv 1] [(.int ((((x0 >>> ((8 : Int32) &&& 31)).toInt8.toInt32) &&& (255 : Int32)) <<< ((8 : Int32) &&& 31))), (.int ((((x0 >>> ((0 : Int32) &&& 31)).toInt8.toInt32) &&& (255 : Int32)) <<< ((0 : Int32) &&& 31)))]) (fun _ k => XS.ishl X194.here hx rfl (hb hby own_d_jdk_52_method_5_56) rfl k) ?_
  refine own_to (T' := T194) (mkF m 58 #[rv b, iv 1] [(.int (((((x0 >>> ((0 : Int32) &&& 31)).toInt8.toInt32) &&& (255 : Int32)) <<< ((0 : Int32) &&& 31)) ||| ((((x0 >>> ((8 : Int32) &&& 31)).toInt8.toInt32) &&& (255 : Int32)) <<< ((8 : Int32) &&& 31))))]) (fun _ k => XS.ior X194.here hx rfl (hb hby own_d_jdk_52_method_5_57) rfl k) ?_
  refine own_to (T' := T194) (mkF m 59 #[rv b, iv 1] [(.int ((((((x0 >>> ((0 : Int32) &&& 31)).toInt8.toInt32) &&& (255 : Int32)) <<< ((0 : Int32) &&& 31)) ||| ((((x0 >>> ((8 : Int32) &&& 31)).toInt8.toInt32) &&& (255 : Int32)) <<< ((8 : Int32) &&& 31))).toUInt32.toUInt16.toUInt32.toInt32))]) (fun _ k => XS.i2c X194.here hx rfl (hb hby own_d_jdk_52_method_5_58) rfl k) ?_
  exact own_retN X194 hx (t := .char) Bd.returns (by simp) hlk (hb hby own_d_jdk_52_method_5_59) (by decide) (by decide) (by rw [e194]; exact ⟨by rw [own_hi hx0, own_nar16 hx0], N0, rfl⟩)
def own_QGC_4_1 (Z : State) (x0 x1 x2 x3 : Int32) (G1 : Int32) (b : Addr) (kb : ClassId) (h0 : Heap) (n0 : Nat) (v : Option Value) (h : Heap) (L : List Loc) : Prop := v = some (.int x1) ∧ Fr n0 L ∧ h = h0
set_option maxRecDepth 65536 in
set_option maxHeartbeats 40000000 in
theorem own_rmGC_4_1 (l : Launch) (Z : State) (a0 : Array Value) (hw : ∀ d ∈ tables_1, d.before a0 Z = true) (ws : List Jvm.Cond) (x0 x1 x2 x3 : Int32) (G1 : Int32) (b : Addr) (kb : ClassId) (h0 : Heap) (n0 : Nat) (Z0 : n0 ≤ h0.size) (OL : Old Z n0 h0) (hx1 : own_C16 x1) (Vb : Arv Z h0 b kb .byte (8 : Int32) [(.int ((x0 >>> ((0 : Int32) &&& 31)).toInt8.toInt32)), (.int ((x0 >>> ((8 : Int32) &&& 31)).toInt8.toInt32)), (.int ((x1 >>> ((0 : Int32) &&& 31)).toInt8.toInt32)), (.int ((x1 >>> ((8 : Int32) &&& 31)).toInt8.toInt32)), (.int ((x2 >>> ((0 : Int32) &&& 31)).toInt8.toInt32)), (.int ((x2 >>> ((8 : Int32) &&& 31)).toInt8.toInt32)), (.int ((x3 >>> ((0 : Int32) &&& 31)).toInt8.toInt32)), (.int ((x3 >>> ((8 : Int32) &&& 31)).toInt8.toInt32))] (.int (0 : Int32))) (O2 : Sta Z Z.heap "java/lang/String" "COMPACT_STRINGS" "Z" (.int G1)) (P5 : ¬ (G1 = (0 : Int32))) (OAD : Sta Z Z.heap "java/lang/StringUTF16" "$assertionsDisabled" "Z" (.int (1 : Int32))) (OHI : Sta Z Z.heap "java/lang/StringUTF16" "HI_BYTE_SHIFT" "I" (.int (0 : Int32))) (OLO : Sta Z Z.heap "java/lang/StringUTF16" "LO_BYTE_SHIFT" "I" (.int (8 : Int32))) :
    MetFree l (⟨"java/lang/StringUTF16", "getChar", "([BI)C"⟩ : MethodName) (head1 (Jvm.Cond.code (⟨"java/lang/StringUTF16", "getChar", "([BI)C"⟩ : MethodName) jdk_52_method_5_code 2 (some .char) :: ws) ({ frames := 0, cells := 0, slots := 0, locals := 0 } : Room)) (fun aa_ U => aa_ = #[(.ref b), (.int (1 : Int32))] ∧ Z.Warmed39 U.vm ∧ U.heap = h0) (fun _ _ _ _ _ => True) (fun _ U o U' => ∃ v L, o = .returned v ∧ own_QGC_4_1 Z x0 x1 x2 x3 G1 b kb h0 n0 v U'.heap L ∧ FrameEnd U o U' L ({ frames := 0, cells := 0, slots := 0, locals := 0 } : Room).cells ({ frames := 0, cells := 0, slots := 0, locals := 0 } : Room).slots) := by
  refine MetFree.of_bodySF (plainFor_of_name own_pn0) hisR ?_
  intro p e s m args below meth c s₁ Bd hml0 hP hK
  obtain ⟨rfl, hZ, hh⟩ := hP
  have hx := Bd.exec
  have hby := Bd.bytes
  have hlk : meth.locks = false := BodyLoose.notSynchronized Bd
  have hml : c.maxLocals = 2 := hml0
  have hown : s.vm.findClass "java/lang/StringUTF16" = some m.cls := findClass_of_methodNamed Bd.named
  have hnm := (name_of_methodNamed Bd.named Bd.method).1
  have X0 : Stand p l e ({ frames := 0, cells := 0, slots := 0, locals := 0 } : Room) s m #[(.ref b), (.int (1 : Int32))] below meth c s₁ [] 0 0 := Stand.of_body Bd
  have e0 : s₁.heap = h0 := by rw [← hh, Bd.state]; rfl
  have N0 := Fr.nil n0
  have KP : Keep h0 h0 [] := Keep.refl _ _
  refine own_start (Fin := (own_Fin s (own_QGC_4_1 Z x0 x1 x2 x3 G1 b kb h0 n0) ({ frames := 0, cells := 0, slots := 0, locals := 0 } : Room).cells ({ frames := 0, cells := 0, slots := 0, locals := 0 } : Room).slots)) (own_from (mkF m 0 #[rv b, iv 1] []) (castTop (own_ef_GC_4_1 m b (1 : Int32))) ?_)
  obtain ⟨T195, X195, e195, st195⟩ := getS2 X0 hx hZ hown (host := "") (Or.inl (hw _ (List.mem_of_getElem? (i := 82) rfl))) Via.refl e0 (OAD.ext OL.2) (g := (mkF m 0 #[rv b, iv 1] [])) rfl (hb hby own_d_jdk_52_method_5_0)
  refine own_to (mkF m 3 #[rv b, iv 1] [(.int (1 : Int32))]) st195 ?_
  refine own_to (T' := T195) (mkF m 28 #[rv b, iv 1] []) (fun _ k => XS.ifYes X195.here hx rfl (pc0 := 3) (pc' := 28) rfl (hb hby own_d_jdk_52_method_5_3) rfl ((if0 _ _).trans (feq (by decide : ¬ ((1 : Int32) = (0 : Int32)))).2) (by decide) (by decide) k) ?_
  refine own_to (T' := T195) (mkF m 29 #[rv b, iv 1] [(.int (1 : Int32))]) (fun _ k => XS.iloadN X195.here hx rfl (hb hby own_d_jdk_52_method_5_28) rfl k) ?_
  refine own_to (T' := T195) (mkF m 30 #[rv b, iv 1] [(.int (1 : Int32)), (.int (1 : Int32))]) (fun _ k => XS.iconst X195.here hx rfl (hb hby own_d_jdk_52_method_5_29) k) ?_
  refine own_to (T' := T195) (mkF m 31 #[rv b, iv 1] [(.int (2 : Int32))]) (fun _ k => XS.ishl X195.here hx rfl (hb hby own_d_jdk_52_method_5_30) rfl k) ?_
  refine own_to (T' := T195) (mkF m 32 #[rv b, iv 2] []) (fun _ k => XS.istoreN X195.here hx rfl (hb hby own_d_jdk_52_method_5_31) rfl (l' := #[rv b, iv 2]) rfl k) ?_
  refine own_to (T' := T195) (mkF m 33 #[rv b, iv 2] [(.ref b)]) (fun _ k => XS.aloadN X195.here hx rfl (hb hby own_d_jdk_52_method_5_32) rfl rfl k) ?_
  refine own_to (T' := T195) (mkF m 34 #[rv b, iv 2] [(.int (2 : Int32)), (.ref b)]) (fun _ k => XS.iloadN X195.here hx rfl (hb hby own_d_jdk_52_method_5_33) rfl k) ?_
  refine own_to (T' := T195) (mkF m 37 #[rv b, iv 3] [(.int (2 : Int32)), (.ref b)]) (fun _ k => XS.iinc X195.here hx rfl (hb hby own_d_jdk_52_method_5_34) rfl (l' := #[rv b, iv 3]) rfl k) ?_
  obtain ⟨cl196, Ar196, -, S196, -, H196, -⟩ := id Vb
  refine own_to (mkF m 38 #[rv b, iv 3] [(.int ((x1 >>> ((0 : Int32) &&& 31)).toInt8.toInt32))]) (X195.baloadBytes hx (j := (2 : Int32)) (v := (.int ((x1 >>> ((0 : Int32) &&& 31)).toInt8.toInt32))) (by rw [e195]; exact Ar196.1) (State.isArrayOf_alike hZ.alike Ar196.2.1) Ar196.2.2 (inb_of S196 ⟨by decide, by decide⟩) (H196.at (inb_of S196 ⟨by decide, by decide⟩) rfl) (g := (mkF m 37 #[rv b, iv 3] [(.int (2 : Int32)), (.ref b)])) rfl rfl (hb hby own_d_jdk_52_method_5_37)) ?_
  refine own_to (T' := T195) (mkF m 41 #[rv b, iv 3] [(.int (255 : Int32)), (.int ((x1 >>> ((0 : Int32) &&& 31)).toInt8.toInt32))]) (fun _ k => XS.sipush X195.here hx rfl (hb hby own_d_jdk_52_method_5_38) k) ?_
  refine own_to (T' := T195) (mkF m 42 #[rv b, iv 3] [(.int (((x1 >>> ((0 : Int32) &&& 31)).toInt8.toInt32) &&& (255 : Int32)))]) (fun _ k => XS.iand X195.here hx rfl (hb hby own_d_jdk_52_method_5_41) rfl k) ?_
  obtain ⟨T197, X197, e197, st197⟩ := getS2 X195 hx hZ hown (host := "") (Or.inl (hw _ (List.mem_of_getElem? (i := 83) rfl))) Via.refl e195 (OHI.ext OL.2) (g := (mkF m 42 #[rv b, iv 3] [(.int (((x1 >>> ((0 : Int32) &&& 31)).toInt8.toInt32) &&& (255 : Int32)))])) rfl (hb hby own_d_jdk_52_method_5_42)
  refine own_to (mkF m 45 #[rv b, iv 3] [(.int (0 : Int32)), (.int (((x1 >>> ((0 : Int32) &&& 31)).toInt8.toInt32) &&& (255 : Int32)))]) st197 ?_
  refine own_to (T' := T197) (mkF m 46 #[rv b, iv 3] [(.int ((((x1 >>> ((0 : Int32) &&& 31)).toInt8.toInt32) &&& (255 : Int32)) <<< ((0 : Int32) &&& 31)))]) (fun _ k => XS.ishl X197.here hx rfl (hb hby own_d_jdk_52_method_5_45) rfl k) ?_
  refine own_to (T' := T197) (mkF m 47 #[rv b, iv 3] [(.ref b), (.int ((((x1 >>> ((0 : Int32) &&& 31)).toInt8.toInt32) &&& (255 : Int32)) <<< ((0 : Int32) &&& 31)))]) (fun _ k => XS.aloadN X197.here hx rfl (hb hby own_d_jdk_52_method_5_46) rfl rfl k) ?_
  refine own_to (T' := T197) (mkF m 48 #[rv b, iv 3] [(.int (3 : Int32)), (.ref b), (.int ((((x1 >>> ((0 : Int32) &&& 31)).toInt8.toInt32) &&& (255 : Int32)) <<< ((0 : Int32) &&& 31)))]) (fun _ k => XS.iloadN X197.here hx rfl (hb hby own_d_jdk_52_method_5_47) rfl k) ?_
  obtain ⟨cl198, Ar198, -, S198, -, H198, -⟩ := id Vb
  refine own_to (mkF m 49 #[rv b, iv 3] [(.int ((x1 >>> ((8 : Int32) &&& 31)).toInt8.toInt32)), (.int ((((x1 >>> ((0 : Int32) &&& 31)).toInt8.toInt32) &&& (255 : Int32)) <<< ((0 : Int32) &&& 31)))]) (X197.baloadBytes hx (j := (3 : Int32)) (v := (.int ((x1 >>> ((8 : Int32) &&& 31)).toInt8.toInt32))) (by rw [e197]; exact Ar198.1) (State.isArrayOf_alike hZ.alike Ar198.2.1) Ar198.2.2 (inb_of S198 ⟨by decide, by decide⟩) (H198.at (inb_of S198 ⟨by decide, by decide⟩) rfl) (g := (mkF m 48 #[rv b, iv 3] [(.int (3 : Int32)), (.ref b), (.int ((((x1 >>> ((0 : Int32) &&& 31)).toInt8.toInt32) &&& (255 : Int32)) <<< ((0 : Int32) &&& 31)))])) rfl rfl (hb hby own_d_jdk_52_method_5_48)) ?_
  refine own_to (T' := T197) (mkF m 52 #[rv b, iv 3] [(.int (255 : Int32)), (.int ((x1 >>> ((8 : Int32) &&& 31)).toInt8.toInt32)), (.int ((((x1 >>> ((0 : Int32) &&& 31)).toInt8.toInt32) &&& (255 : Int32)) <<< ((0 : Int32) &&& 31)))]) (fun _ k => XS.sipush X197.here hx rfl (hb hby own_d_jdk_52_method_5_49) k) ?_
  refine own_to (T' := T197) (mkF m 53 #[rv b, iv 3] [(.int (((x1 >>> ((8 : Int32) &&& 31)).toInt8.toInt32) &&& (255 : Int32))), (.int ((((x1 >>> ((0 : Int32) &&& 31)).toInt8.toInt32) &&& (255 : Int32)) <<< ((0 : Int32) &&& 31)))]) (fun _ k => XS.iand X197.here hx rfl (hb hby own_d_jdk_52_method_5_52) rfl k) ?_
  obtain ⟨T199, X199, e199, st199⟩ := getS2 X197 hx hZ hown (host := "") (Or.inl (hw _ (List.mem_of_getElem? (i := 84) rfl))) Via.refl e197 (OLO.ext OL.2) (g := (mkF m 53 #[rv b, iv 3] [(.int (((x1 >>> ((8 : Int32) &&& 31)).toInt8.toInt32) &&& (255 : Int32))), (.int ((((x1 >>> ((0 : Int32) &&& 31)).toInt8.toInt32) &&& (255 : Int32)) <<< ((0 : Int32) &&& 31)))])) rfl (hb hby own_d_jdk_52_method_5_53)
  refine own_to (mkF m 56 #[rv b, iv 3] [(.int (8 : Int32)), (.int (((x1 >>> ((8 : Int32) &&& 31)).toInt8.toInt32) &&& (255 : Int32))), (.int ((((x1 >>> ((0 : Int32) &&& 31)).toInt8.toInt32) &&& (255 : Int32)) <<< ((0 : Int32) &&& 31)))]) st199 ?_
  refine own_to (T' := T199) (mkF m 57 #[rv b, iv 3] [(.int ((((x1 >>> ((8 : Int32) &&& 31)).toInt8.toInt32) &&& (255 : Int32)) <<< ((8 : Int32) &&& 31))), (.int ((((x1 >>> ((0 : Int32) &&& 31)).toInt8.toInt32) &&& (255 : Int32)) <<< ((0 : Int32) &&& 31)))]) (fun _ k => XS.ishl X199.here hx rfl (hb hby own_d_jdk_52_method_5_56) rfl k) ?_
  refine own_to (T' := T199) (mkF m 58 #[rv b, iv 3] [(.int (((((x1 >>> ((0 : Int32) &&& 31)).toInt8.toInt32) &&& (255 : Int32)) <<< ((0 : Int32) &&& 31)) ||| ((((x1 >>> ((8 : Int32) &&& 31)).toInt8.toInt32) &&& (255 : Int32)) <<< ((8 : Int32) &&& 31))))]) (fun _ k => XS.ior X199.here hx rfl (hb hby own_d_jdk_52_method_5_57) rfl k) ?_
  refine own_to (T' := T199) (mkF m 59 #[rv b, iv 3] [(.int ((((((x1 >>> ((0 : Int32) &&& 31)).toInt8.toInt32) &&& (255 : Int32)) <<< ((0 : Int32) &&& 31)) ||| ((((x1 >>> ((8 : Int32) &&& 31)).toInt8.toInt32) &&& (255 : Int32)) <<< ((8 : Int32) &&& 31))).toUInt32.toUInt16.toUInt32.toInt32))]) (fun _ k => XS.i2c X199.here hx rfl (hb hby own_d_jdk_52_method_5_58) rfl k) ?_
  exact own_retN X199 hx (t := .char) Bd.returns (by simp) hlk (hb hby own_d_jdk_52_method_5_59) (by decide) (by decide) (by rw [e199]; exact ⟨by rw [own_hi hx1, own_nar16 hx1], N0, rfl⟩)
def own_QGC_4_2 (Z : State) (x0 x1 x2 x3 : Int32) (G1 : Int32) (b : Addr) (kb : ClassId) (h0 : Heap) (n0 : Nat) (v : Option Value) (h : Heap) (L : List Loc) : Prop := v = some (.int x2) ∧ Fr n0 L ∧ h = h0
set_option maxRecDepth 65536 in
set_option maxHeartbeats 40000000 in
theorem own_rmGC_4_2 (l : Launch) (Z : State) (a0 : Array Value) (hw : ∀ d ∈ tables_1, d.before a0 Z = true) (ws : List Jvm.Cond) (x0 x1 x2 x3 : Int32) (G1 : Int32) (b : Addr) (kb : ClassId) (h0 : Heap) (n0 : Nat) (Z0 : n0 ≤ h0.size) (OL : Old Z n0 h0) (hx2 : own_C16 x2) (Vb : Arv Z h0 b kb .byte (8 : Int32) [(.int ((x0 >>> ((0 : Int32) &&& 31)).toInt8.toInt32)), (.int ((x0 >>> ((8 : Int32) &&& 31)).toInt8.toInt32)), (.int ((x1 >>> ((0 : Int32) &&& 31)).toInt8.toInt32)), (.int ((x1 >>> ((8 : Int32) &&& 31)).toInt8.toInt32)), (.int ((x2 >>> ((0 : Int32) &&& 31)).toInt8.toInt32)), (.int ((x2 >>> ((8 : Int32) &&& 31)).toInt8.toInt32)), (.int ((x3 >>> ((0 : Int32) &&& 31)).toInt8.toInt32)), (.int ((x3 >>> ((8 : Int32) &&& 31)).toInt8.toInt32))] (.int (0 : Int32))) (O2 : Sta Z Z.heap "java/lang/String" "COMPACT_STRINGS" "Z" (.int G1)) (P5 : ¬ (G1 = (0 : Int32))) (OAD : Sta Z Z.heap "java/lang/StringUTF16" "$assertionsDisabled" "Z" (.int (1 : Int32))) (OHI : Sta Z Z.heap "java/lang/StringUTF16" "HI_BYTE_SHIFT" "I" (.int (0 : Int32))) (OLO : Sta Z Z.heap "java/lang/StringUTF16" "LO_BYTE_SHIFT" "I" (.int (8 : Int32))) :
    MetFree l (⟨"java/lang/StringUTF16", "getChar", "([BI)C"⟩ : MethodName) (head1 (Jvm.Cond.code (⟨"java/lang/StringUTF16", "getChar", "([BI)C"⟩ : MethodName) jdk_52_method_5_code 2 (some .char) :: ws) ({ frames := 0, cells := 0, slots := 0, locals := 0 } : Room)) (fun aa_ U => aa_ = #[(.ref b), (.int (2 : Int32))] ∧ Z.Warmed39 U.vm ∧ U.heap = h0) (fun _ _ _ _ _ => True) (fun _ U o U' => ∃ v L, o = .returned v ∧ own_QGC_4_2 Z x0 x1 x2 x3 G1 b kb h0 n0 v U'.heap L ∧ FrameEnd U o U' L ({ frames := 0, cells := 0, slots := 0, locals := 0 } : Room).cells ({ frames := 0, cells := 0, slots := 0, locals := 0 } : Room).slots) := by
  refine MetFree.of_bodySF (plainFor_of_name own_pn0) hisR ?_
  intro p e s m args below meth c s₁ Bd hml0 hP hK
  obtain ⟨rfl, hZ, hh⟩ := hP
  have hx := Bd.exec
  have hby := Bd.bytes
  have hlk : meth.locks = false := BodyLoose.notSynchronized Bd
  have hml : c.maxLocals = 2 := hml0
  have hown : s.vm.findClass "java/lang/StringUTF16" = some m.cls := findClass_of_methodNamed Bd.named
  have hnm := (name_of_methodNamed Bd.named Bd.method).1
  have X0 : Stand p l e ({ frames := 0, cells := 0, slots := 0, locals := 0 } : Room) s m #[(.ref b), (.int (2 : Int32))] below meth c s₁ [] 0 0 := Stand.of_body Bd
  have e0 : s₁.heap = h0 := by rw [← hh, Bd.state]; rfl
  have N0 := Fr.nil n0
  have KP : Keep h0 h0 [] := Keep.refl _ _
  refine own_start (Fin := (own_Fin s (own_QGC_4_2 Z x0 x1 x2 x3 G1 b kb h0 n0) ({ frames := 0, cells := 0, slots := 0, locals := 0 } : Room).cells ({ frames := 0, cells := 0, slots := 0, locals := 0 } : Room).slots)) (own_from (mkF m 0 #[rv b, iv 2] []) (castTop (own_ef_GC_4_2 m b (2 : Int32))) ?_)
  obtain ⟨T200, X200, e200, st200⟩ := getS2 X0 hx hZ hown (host := "") (Or.inl (hw _ (List.mem_of_getElem? (i := 82) rfl))) Via.refl e0 (OAD.ext OL.2) (g := (mkF m 0 #[rv b, iv 2] [])) rfl (hb hby own_d_jdk_52_method_5_0)
  refine own_to (mkF m 3 #[rv b, iv 2] [(.int (1 : Int32))]) st200 ?_
  refine own_to (T' := T200) (mkF m 28 #[rv b, iv 2] []) (fun _ k => XS.ifYes X200.here hx rfl (pc0 := 3) (pc' := 28) rfl (hb hby own_d_jdk_52_method_5_3) rfl ((if0 _ _).trans (feq (by decide : ¬ ((1 : Int32) = (0 : Int32)))).2) (by decide) (by decide) k) ?_
  refine own_to (T' := T200) (mkF m 29 #[rv b, iv 2] [(.int (2 : Int32))]) (fun _ k => XS.iloadN X200.here hx rfl (hb hby own_d_jdk_52_method_5_28) rfl k) ?_
  refine own_to (T' := T200) (mkF m 30 #[rv b, iv 2] [(.int (1 : Int32)), (.int (2 : Int32))]) (fun _ k => XS.iconst X200.here hx rfl (hb hby own_d_jdk_52_method_5_29) k) ?_
  refine own_to (T' := T200) (mkF m 31 #[rv b, iv 2] [(.int (4 : Int32))]) (fun _ k => XS.ishl X200.here hx rfl (hb hby own_d_jdk_52_method_5_30) rfl k) ?_
  refine own_to (T' := T200) (mkF m 32 #[rv b, iv 4] []) (fun _ k => XS.istoreN X200.here hx rfl (hb hby own_d_jdk_52_method_5_31) rfl (l' := #[rv b, iv 4]) rfl k) ?_
  refine own_to (T' := T200) (mkF m 33 #[rv b, iv 4] [(.ref b)]) (fun _ k => XS.aloadN X200.here hx rfl (hb hby own_d_jdk_52_method_5_32) rfl rfl k) ?_
  refine own_to (T' := T200) (mkF m 34 #[rv b, iv 4] [(.int (4 : Int32)), (.ref b)]) (fun _ k => XS.iloadN X200.here hx rfl (hb hby own_d_jdk_52_method_5_33) rfl k) ?_
  refine own_to (T' := T200) (mkF m 37 #[rv b, iv 5] [(.int (4 : Int32)), (.ref b)]) (fun _ k => XS.iinc X200.here hx rfl (hb hby own_d_jdk_52_method_5_34) rfl (l' := #[rv b, iv 5]) rfl k) ?_
  obtain ⟨cl201, Ar201, -, S201, -, H201, -⟩ := id Vb
  refine own_to (mkF m 38 #[rv b, iv 5] [(.int ((x2 >>> ((0 : Int32) &&& 31)).toInt8.toInt32))]) (X200.baloadBytes hx (j := (4 : Int32)) (v := (.int ((x2 >>> ((0 : Int32) &&& 31)).toInt8.toInt32))) (by rw [e200]; exact Ar201.1) (State.isArrayOf_alike hZ.alike Ar201.2.1) Ar201.2.2 (inb_of S201 ⟨by decide, by decide⟩) (H201.at (inb_of S201 ⟨by decide, by decide⟩) rfl) (g := (mkF m 37 #[rv b, iv 5] [(.int (4 : Int32)), (.ref b)])) rfl rfl (hb hby own_d_jdk_52_method_5_37)) ?_
  refine own_to (T' := T200) (mkF m 41 #[rv b, iv 5] [(.int (255 : Int32)), (.int ((x2 >>> ((0 : Int32) &&& 31)).toInt8.toInt32))]) (fun _ k => XS.sipush X200.here hx rfl (hb hby own_d_jdk_52_method_5_38) k) ?_
  refine own_to (T' := T200) (mkF m 42 #[rv b, iv 5] [(.int (((x2 >>> ((0 : Int32) &&& 31)).toInt8.toInt32) &&& (255 : Int32)))]) (fun _ k => XS.iand X200.here hx rfl (hb hby own_d_jdk_52_method_5_41) rfl k) ?_
  obtain ⟨T202, X202, e202, st202⟩ := getS2 X200 hx hZ hown (host := "") (Or.inl (hw _ (List.mem_of_getElem? (i := 83) rfl))) Via.refl e200 (OHI.ext OL.2) (g := (mkF m 42 #[rv b, iv 5] [(.int (((x2 >>> ((0 : Int32) &&& 31)).toInt8.toInt32) &&& (255 : Int32)))])) rfl (hb hby own_d_jdk_52_method_5_42)
  refine own_to (mkF m 45 #[rv b, iv 5] [(.int (0 : Int32)), (.int (((x2 >>> ((0 : Int32) &&& 31)).toInt8.toInt32) &&& (255 : Int32)))]) st202 ?_
  refine own_to (T' := T202) (mkF m 46 #[rv b, iv 5] [(.int ((((x2 >>> ((0 : Int32) &&& 31)).toInt8.toInt32) &&& (255 : Int32)) <<< ((0 : Int32) &&& 31)))]) (fun _ k => XS.ishl X202.here hx rfl (hb hby own_d_jdk_52_method_5_45) rfl k) ?_
  refine own_to (T' := T202) (mkF m 47 #[rv b, iv 5] [(.ref b), (.int ((((x2 >>> ((0 : Int32) &&& 31)).toInt8.toInt32) &&& (255 : Int32)) <<< ((0 : Int32) &&& 31)))]) (fun _ k => XS.aloadN X202.here hx rfl (hb hby own_d_jdk_52_method_5_46) rfl rfl k) ?_
  refine own_to (T' := T202) (mkF m 48 #[rv b, iv 5] [(.int (5 : Int32)), (.ref b), (.int ((((x2 >>> ((0 : Int32) &&& 31)).toInt8.toInt32) &&& (255 : Int32)) <<< ((0 : Int32) &&& 31)))]) (fun _ k => XS.iloadN X202.here hx rfl (hb hby own_d_jdk_52_method_5_47) rfl k) ?_
  obtain ⟨cl203, Ar203, -, S203, -, H203, -⟩ := id Vb
  refine own_to (mkF m 49 #[rv b, iv 5] [(.int ((x2 >>> ((8 : Int32) &&& 31)).toInt8.toInt32)), (.int ((((x2 >>> ((0 : Int32) &&& 31)).toInt8.toInt32) &&& (255 : Int32)) <<< ((0 : Int32) &&& 31)))]) (X202.baloadBytes hx (j := (5 : Int32)) (v := (.int ((x2 >>> ((8 : Int32) &&& 31)).toInt8.toInt32))) (by rw [e202]; exact Ar203.1) (State.isArrayOf_alike hZ.alike Ar203.2.1) Ar203.2.2 (inb_of S203 ⟨by decide, by decide⟩) (H203.at (inb_of S203 ⟨by decide, by decide⟩) rfl) (g := (mkF m 48 #[rv b, iv 5] [(.int (5 : Int32)), (.ref b), (.int ((((x2 >>> ((0 : Int32) &&& 31)).toInt8.toInt32) &&& (255 : Int32)) <<< ((0 : Int32) &&& 31)))])) rfl rfl (hb hby own_d_jdk_52_method_5_48)) ?_
  refine own_to (T' := T202) (mkF m 52 #[rv b, iv 5] [(.int (255 : Int32)), (.int ((x2 >>> ((8 : Int32) &&& 31)).toInt8.toInt32)), (.int ((((x2 >>> ((0 : Int32) &&& 31)).toInt8.toInt32) &&& (255 : Int32)) <<< ((0 : Int32) &&& 31)))]) (fun _ k => XS.sipush X202.here hx rfl (hb hby own_d_jdk_52_method_5_49) k) ?_
  refine own_to (T' := T202) (mkF m 53 #[rv b, iv 5] [(.int (((x2 >>> ((8 : Int32) &&& 31)).toInt8.toInt32) &&& (255 : Int32))), (.int ((((x2 >>> ((0 : Int32) &&& 31)).toInt8.toInt32) &&& (255 : Int32)) <<< ((0 : Int32) &&& 31)))]) (fun _ k => XS.iand X202.here hx rfl (hb hby own_d_jdk_52_method_5_52) rfl k) ?_
  obtain ⟨T204, X204, e204, st204⟩ := getS2 X202 hx hZ hown (host := "") (Or.inl (hw _ (List.mem_of_getElem? (i := 84) rfl))) Via.refl e202 (OLO.ext OL.2) (g := (mkF m 53 #[rv b, iv 5] [(.int (((x2 >>> ((8 : Int32) &&& 31)).toInt8.toInt32) &&& (255 : Int32))), (.int ((((x2 >>> ((0 : Int32) &&& 31)).toInt8.toInt32) &&& (255 : Int32)) <<< ((0 : Int32) &&& 31)))])) rfl (hb hby own_d_jdk_52_method_5_53)
  refine own_to (mkF m 56 #[rv b, iv 5] [(.int (8 : Int32)), (.int (((x2 >>> ((8 : Int32) &&& 31)).toInt8.toInt32) &&& (255 : Int32))), (.int ((((x2 >>> ((0 : Int32) &&& 31)).toInt8.toInt32) &&& (255 : Int32)) <<< ((0 : Int32) &&& 31)))]) st204 ?_
  refine own_to (T' := T204) (mkF m 57 #[rv b, iv 5] [(.int ((((x2 >>> ((8 : Int32) &&& 31)).toInt8.toInt32) &&& (255 : Int32)) <<< ((8 : Int32) &&& 31))), (.int ((((x2 >>> ((0 : Int32) &&& 31)).toInt8.toInt32) &&& (255 : Int32)) <<< ((0 : Int32) &&& 31)))]) (fun _ k => XS.ishl X204.here hx rfl (hb hby own_d_jdk_52_method_5_56) rfl k) ?_
  refine own_to (T' := T204) (mkF m 58 #[rv b, iv 5] [(.int (((((x2 >>> ((0 : Int32) &&& 31)).toInt8.toInt32) &&& (255 : Int32)) <<< ((0 : Int32) &&& 31)) ||| ((((x2 >>> ((8 : Int32) &&& 31)).toInt8.toInt32) &&& (255 : Int32)) <<< ((8 : Int32) &&& 31))))]) (fun _ k => XS.ior X204.here hx rfl (hb hby own_d_jdk_52_method_5_57) rfl k) ?_
  refine own_to (T' := T204) (mkF m 59 #[rv b, iv 5] [(.int ((((((x2 >>> ((0 : Int32) &&& 31)).toInt8.toInt32) &&& (255 : Int32)) <<< ((0 : Int32) &&& 31)) ||| ((((x2 >>> ((8 : Int32) &&& 31)).toInt8.toInt32) &&& (255 : Int32)) <<< ((8 : Int32) &&& 31))).toUInt32.toUInt16.toUInt32.toInt32))]) (fun _ k => XS.i2c X204.here hx rfl (hb hby own_d_jdk_52_method_5_58) rfl k) ?_
  exact own_retN X204 hx (t := .char) Bd.returns (by simp) hlk (hb hby own_d_jdk_52_method_5_59) (by decide) (by decide) (by rw [e204]; exact ⟨by rw [own_hi hx2, own_nar16 hx2], N0, rfl⟩)
def own_QGC_4_3 (Z : State) (x0 x1 x2 x3 : Int32) (G1 : Int32) (b : Addr) (kb : ClassId) (h0 : Heap) (n0 : Nat) (v : Option Value) (h : Heap) (L : List Loc) : Prop := v = some (.int x3) ∧ Fr n0 L ∧ h = h0
set_option maxRecDepth 65536 in
set_option maxHeartbeats 40000000 in
theorem own_rmGC_4_3 (l : Launch) (Z : State) (a0 : Array Value) (hw : ∀ d ∈ tables_1, d.before a0 Z = true) (ws : List Jvm.Cond) (x0 x1 x2 x3 : Int32) (G1 : Int32) (b : Addr) (kb : ClassId) (h0 : Heap) (n0 : Nat) (Z0 : n0 ≤ h0.size) (OL : Old Z n0 h0) (hx3 : own_C16 x3) (Vb : Arv Z h0 b kb .byte (8 : Int32) [(.int ((x0 >>> ((0 : Int32) &&& 31)).toInt8.toInt32)), (.int ((x0 >>> ((8 : Int32) &&& 31)).toInt8.toInt32)), (.int ((x1 >>> ((0 : Int32) &&& 31)).toInt8.toInt32)), (.int ((x1 >>> ((8 : Int32) &&& 31)).toInt8.toInt32)), (.int ((x2 >>> ((0 : Int32) &&& 31)).toInt8.toInt32)), (.int ((x2 >>> ((8 : Int32) &&& 31)).toInt8.toInt32)), (.int ((x3 >>> ((0 : Int32) &&& 31)).toInt8.toInt32)), (.int ((x3 >>> ((8 : Int32) &&& 31)).toInt8.toInt32))] (.int (0 : Int32))) (O2 : Sta Z Z.heap "java/lang/String" "COMPACT_STRINGS" "Z" (.int G1)) (P5 : ¬ (G1 = (0 : Int32))) (OAD : Sta Z Z.heap "java/lang/StringUTF16" "$assertionsDisabled" "Z" (.int (1 : Int32))) (OHI : Sta Z Z.heap "java/lang/StringUTF16" "HI_BYTE_SHIFT" "I" (.int (0 : Int32))) (OLO : Sta Z Z.heap "java/lang/StringUTF16" "LO_BYTE_SHIFT" "I" (.int (8 : Int32))) :
    MetFree l (⟨"java/lang/StringUTF16", "getChar", "([BI)C"⟩ : MethodName) (head1 (Jvm.Cond.code (⟨"java/lang/StringUTF16", "getChar", "([BI)C"⟩ : MethodName) jdk_52_method_5_code 2 (some .char) :: ws) ({ frames := 0, cells := 0, slots := 0, locals := 0 } : Room)) (fun aa_ U => aa_ = #[(.ref b), (.int (3 : Int32))] ∧ Z.Warmed39 U.vm ∧ U.heap = h0) (fun _ _ _ _ _ => True) (fun _ U o U' => ∃ v L, o = .returned v ∧ own_QGC_4_3 Z x0 x1 x2 x3 G1 b kb h0 n0 v U'.heap L ∧ FrameEnd U o U' L ({ frames := 0, cells := 0, slots := 0, locals := 0 } : Room).cells ({ frames := 0, cells := 0, slots := 0, locals := 0 } : Room).slots) := by
  refine MetFree.of_bodySF (plainFor_of_name own_pn0) hisR ?_
  intro p e s m args below meth c s₁ Bd hml0 hP hK
  obtain ⟨rfl, hZ, hh⟩ := hP
  have hx := Bd.exec
  have hby := Bd.bytes
  have hlk : meth.locks = false := BodyLoose.notSynchronized Bd
  have hml : c.maxLocals = 2 := hml0
  have hown : s.vm.findClass "java/lang/StringUTF16" = some m.cls := findClass_of_methodNamed Bd.named
  have hnm := (name_of_methodNamed Bd.named Bd.method).1
  have X0 : Stand p l e ({ frames := 0, cells := 0, slots := 0, locals := 0 } : Room) s m #[(.ref b), (.int (3 : Int32))] below meth c s₁ [] 0 0 := Stand.of_body Bd
  have e0 : s₁.heap = h0 := by rw [← hh, Bd.state]; rfl
  have N0 := Fr.nil n0
  have KP : Keep h0 h0 [] := Keep.refl _ _
  refine own_start (Fin := (own_Fin s (own_QGC_4_3 Z x0 x1 x2 x3 G1 b kb h0 n0) ({ frames := 0, cells := 0, slots := 0, locals := 0 } : Room).cells ({ frames := 0, cells := 0, slots := 0, locals := 0 } : Room).slots)) (own_from (mkF m 0 #[rv b, iv 3] []) (castTop (own_ef_GC_4_3 m b (3 : Int32))) ?_)
  obtain ⟨T205, X205, e205, st205⟩ := getS2 X0 hx hZ hown (host := "") (Or.inl (hw _ (List.mem_of_getElem? (i := 82) rfl))) Via.refl e0 (OAD.ext OL.2) (g := (mkF m 0 #[rv b, iv 3] [])) rfl (hb hby own_d_jdk_52_method_5_0)
  refine own_to (mkF m 3 #[rv b, iv 3] [(.int (1 : Int32))]) st205 ?_
  refine own_to (T' := T205) (mkF m 28 #[rv b, iv 3] []) (fun _ k => XS.ifYes X205.here hx rfl (pc0 := 3) (pc' := 28) rfl (hb hby own_d_jdk_52_method_5_3) rfl ((if0 _ _).trans (feq (by decide : ¬ ((1 : Int32) = (0 : Int32)))).2) (by decide) (by decide) k) ?_
  refine own_to (T' := T205) (mkF m 29 #[rv b, iv 3] [(.int (3 : Int32))]) (fun _ k => XS.iloadN X205.here hx rfl (hb hby own_d_jdk_52_method_5_28) rfl k) ?_
  refine own_to (T' := T205) (mkF m 30 #[rv b, iv 3] [(.int (1 : Int32)), (.int (3 : Int32))]) (fun _ k => XS.iconst X205.here hx rfl (hb hby own_d_jdk_52_method_5_29) k) ?_
  refine own_to (T' := T205) (mkF m 31 #[rv b, iv 3] [(.int (6 : Int32))]) (fun _ k => XS.ishl X205.here hx rfl (hb hby own_d_jdk_52_method_5_30) rfl k) ?_
  refine own_to (T' := T205) (mkF m 32 #[rv b, iv 6] []) (fun _ k => XS.istoreN X205.here hx rfl (hb hby own_d_jdk_52_method_5_31) rfl (l' := #[rv b, iv 6]) rfl k) ?_
  refine own_to (T' := T205) (mkF m 33 #[rv b, iv 6] [(.ref b)]) (fun _ k => XS.aloadN X205.here hx rfl (hb hby own_d_jdk_52_method_5_32) rfl rfl k) ?_
  refine own_to (T' := T205) (mkF m 34 #[rv b, iv 6] [(.int (6 : Int32)), (.ref b)]) (fun _ k => XS.iloadN X205.here hx rfl (hb hby own_d_jdk_52_method_5_33) rfl k) ?_
  refine own_to (T' := T205) (mkF m 37 #[rv b, iv 7] [(.int (6 : Int32)), (.ref b)]) (fun _ k => XS.iinc X205.here hx rfl (hb hby own_d_jdk_52_method_5_34) rfl (l' := #[rv b, iv 7]) rfl k) ?_
  obtain ⟨cl206, Ar206, -, S206, -, H206, -⟩ := id Vb
  refine own_to (mkF m 38 #[rv b, iv 7] [(.int ((x3 >>> ((0 : Int32) &&& 31)).toInt8.toInt32))]) (X205.baloadBytes hx (j := (6 : Int32)) (v := (.int ((x3 >>> ((0 : Int32) &&& 31)).toInt8.toInt32))) (by rw [e205]; exact Ar206.1) (State.isArrayOf_alike hZ.alike Ar206.2.1) Ar206.2.2 (inb_of S206 ⟨by decide, by decide⟩) (H206.at (inb_of S206 ⟨by decide, by decide⟩) rfl) (g := (mkF m 37 #[rv b, iv 7] [(.int (6 : Int32)), (.ref b)])) rfl rfl (hb hby own_d_jdk_52_method_5_37)) ?_
  refine own_to (T' := T205) (mkF m 41 #[rv b, iv 7] [(.int (255 : Int32)), (.int ((x3 >>> ((0 : Int32) &&& 31)).toInt8.toInt32))]) (fun _ k => XS.sipush X205.here hx rfl (hb hby own_d_jdk_52_method_5_38) k) ?_
  refine own_to (T' := T205) (mkF m 42 #[rv b, iv 7] [(.int (((x3 >>> ((0 : Int32) &&& 31)).toInt8.toInt32) &&& (255 : Int32)))]) (fun _ k => XS.iand X205.here hx rfl (hb hby own_d_jdk_52_method_5_41) rfl k) ?_
  obtain ⟨T207, X207, e207, st207⟩ := getS2 X205 hx hZ hown (host := "") (Or.inl (hw _ (List.mem_of_getElem? (i := 83) rfl))) Via.refl e205 (OHI.ext OL.2) (g := (mkF m 42 #[rv b, iv 7] [(.int (((x3 >>> ((0 : Int32) &&& 31)).toInt8.toInt32) &&& (255 : Int32)))])) rfl (hb hby own_d_jdk_52_method_5_42)
  refine own_to (mkF m 45 #[rv b, iv 7] [(.int (0 : Int32)), (.int (((x3 >>> ((0 : Int32) &&& 31)).toInt8.toInt32) &&& (255 : Int32)))]) st207 ?_
  refine own_to (T' := T207) (mkF m 46 #[rv b, iv 7] [(.int ((((x3 >>> ((0 : Int32) &&& 31)).toInt8.toInt32) &&& (255 : Int32)) <<< ((0 : Int32) &&& 31)))]) (fun _ k => XS.ishl X207.here hx rfl (hb hby own_d_jdk_52_method_5_45) rfl k) ?_
  refine own_to (T' := T207) (mkF m 47 #[rv b, iv 7] [(.ref b), (.int ((((x3 >>> ((0 : Int32) &&& 31)).toInt8.toInt32) &&& (255 : Int32)) <<< ((0 : Int32) &&& 31)))]) (fun _ k => XS.aloadN X207.here hx rfl (hb hby own_d_jdk_52_method_5_46) rfl rfl k) ?_
  refine own_to (T' := T207) (mkF m 48 #[rv b, iv 7] [(.int (7 : Int32)), (.ref b), (.int ((((x3 >>> ((0 : Int32) &&& 31)).toInt8.toInt32) &&& (255 : Int32)) <<< ((0 : Int32) &&& 31)))]) (fun _ k => XS.iloadN X207.here hx rfl (hb hby own_d_jdk_52_method_5_47) rfl k) ?_
  obtain ⟨cl208, Ar208, -, S208, -, H208, -⟩ := id Vb
  refine own_to (mkF m 49 #[rv b, iv 7] [(.int ((x3 >>> ((8 : Int32) &&& 31)).toInt8.toInt32)), (.int ((((x3 >>> ((0 : Int32) &&& 31)).toInt8.toInt32) &&& (255 : Int32)) <<< ((0 : Int32) &&& 31)))]) (X207.baloadBytes hx (j := (7 : Int32)) (v := (.int ((x3 >>> ((8 : Int32) &&& 31)).toInt8.toInt32))) (by rw [e207]; exact Ar208.1) (State.isArrayOf_alike hZ.alike Ar208.2.1) Ar208.2.2 (inb_of S208 ⟨by decide, by decide⟩) (H208.at (inb_of S208 ⟨by decide, by decide⟩) rfl) (g := (mkF m 48 #[rv b, iv 7] [(.int (7 : Int32)), (.ref b), (.int ((((x3 >>> ((0 : Int32) &&& 31)).toInt8.toInt32) &&& (255 : Int32)) <<< ((0 : Int32) &&& 31)))])) rfl rfl (hb hby own_d_jdk_52_method_5_48)) ?_
  refine own_to (T' := T207) (mkF m 52 #[rv b, iv 7] [(.int (255 : Int32)), (.int ((x3 >>> ((8 : Int32) &&& 31)).toInt8.toInt32)), (.int ((((x3 >>> ((0 : Int32) &&& 31)).toInt8.toInt32) &&& (255 : Int32)) <<< ((0 : Int32) &&& 31)))]) (fun _ k => XS.sipush X207.here hx rfl (hb hby own_d_jdk_52_method_5_49) k) ?_
  refine own_to (T' := T207) (mkF m 53 #[rv b, iv 7] [(.int (((x3 >>> ((8 : Int32) &&& 31)).toInt8.toInt32) &&& (255 : Int32))), (.int ((((x3 >>> ((0 : Int32) &&& 31)).toInt8.toInt32) &&& (255 : Int32)) <<< ((0 : Int32) &&& 31)))]) (fun _ k => XS.iand X207.here hx rfl (hb hby own_d_jdk_52_method_5_52) rfl k) ?_
  obtain ⟨T209, X209, e209, st209⟩ := getS2 X207 hx hZ hown (host := "") (Or.inl (hw _ (List.mem_of_getElem? (i := 84) rfl))) Via.refl e207 (OLO.ext OL.2) (g := (mkF m 53 #[rv b, iv 7] [(.int (((x3 >>> ((8 : Int32) &&& 31)).toInt8.toInt32) &&& (255 : Int32))), (.int ((((x3 >>> ((0 : Int32) &&& 31)).toInt8.toInt32) &&& (255 : Int32)) <<< ((0 : Int32) &&& 31)))])) rfl (hb hby own_d_jdk_52_method_5_53)
  refine own_to (mkF m 56 #[rv b, iv 7] [(.int (8 : Int32)), (.int (((x3 >>> ((8 : Int32) &&& 31)).toInt8.toInt32) &&& (255 : Int32))), (.int ((((x3 >>> ((0 : Int32) &&& 31)).toInt8.toInt32) &&& (255 : Int32)) <<< ((0 : Int32) &&& 31)))]) st209 ?_
  refine own_to (T' := T209) (mkF m 57 #[rv b, iv 7] [(.int ((((x3 >>> ((8 : Int32) &&& 31)).toInt8.toInt32) &&& (255 : Int32)) <<< ((8 : Int32) &&& 31))), (.int ((((x3 >>> ((0 : Int32) &&& 31)).toInt8.toInt32) &&& (255 : Int32)) <<< ((0 : Int32) &&& 31)))]) (fun _ k => XS.ishl X209.here hx rfl (hb hby own_d_jdk_52_method_5_56) rfl k) ?_
  refine own_to (T' := T209) (mkF m 58 #[rv b, iv 7] [(.int (((((x3 >>> ((0 : Int32) &&& 31)).toInt8.toInt32) &&& (255 : Int32)) <<< ((0 : Int32) &&& 31)) ||| ((((x3 >>> ((8 : Int32) &&& 31)).toInt8.toInt32) &&& (255 : Int32)) <<< ((8 : Int32) &&& 31))))]) (fun _ k => XS.ior X209.here hx rfl (hb hby own_d_jdk_52_method_5_57) rfl k) ?_
  refine own_to (T' := T209) (mkF m 59 #[rv b, iv 7] [(.int ((((((x3 >>> ((0 : Int32) &&& 31)).toInt8.toInt32) &&& (255 : Int32)) <<< ((0 : Int32) &&& 31)) ||| ((((x3 >>> ((8 : Int32) &&& 31)).toInt8.toInt32) &&& (255 : Int32)) <<< ((8 : Int32) &&& 31))).toUInt32.toUInt16.toUInt32.toInt32))]) (fun _ k => XS.i2c X209.here hx rfl (hb hby own_d_jdk_52_method_5_58) rfl k) ?_
  exact own_retN X209 hx (t := .char) Bd.returns (by simp) hlk (hb hby own_d_jdk_52_method_5_59) (by decide) (by decide) (by rw [e209]; exact ⟨by rw [own_hi hx3, own_nar16 hx3], N0, rfl⟩)
def own_QC3_4 (Z : State) (x0 x1 x2 x3 : Int32) (G1 : Int32) (a : Addr) (ka : ClassId) (h0 : Heap) (n0 : Nat) (v : Option Value) (h : Heap) (L : List Loc) : Prop := ∃ (b : Addr) (kb : ClassId), v = some (.ref b) ∧ Fr n0 L ∧ Keep h0 h [] ∧ n0 ≤ b ∧ h0.size ≤ b ∧ ((¬ ((255 : Int32) < x0) ∧ ¬ ((255 : Int32) < x1) ∧ ¬ ((255 : Int32) < x2) ∧ ¬ ((255 : Int32) < x3) ∧ Arv Z h b kb .byte (4 : Int32) [(.int (x0.toInt8.toInt32)), (.int (x1.toInt8.toInt32)), (.int (x2.toInt8.toInt32)), (.int (x3.toInt8.toInt32))] (.int (0 : Int32))) ∨ Arv Z h b kb .byte (8 : Int32) [(.int ((x0 >>> ((0 : Int32) &&& 31)).toInt8.toInt32)), (.int ((x0 >>> ((8 : Int32) &&& 31)).toInt8.toInt32)), (.int ((x1 >>> ((0 : Int32) &&& 31)).toInt8.toInt32)), (.int ((x1 >>> ((8 : Int32) &&& 31)).toInt8.toInt32)), (.int ((x2 >>> ((0 : Int32) &&& 31)).toInt8.toInt32)), (.int ((x2 >>> ((8 : Int32) &&& 31)).toInt8.toInt32)), (.int ((x3 >>> ((0 : Int32) &&& 31)).toInt8.toInt32)), (.int ((x3 >>> ((8 : Int32) &&& 31)).toInt8.toInt32))] (.int (0 : Int32)))
set_option maxRecDepth 65536 in
set_option maxHeartbeats 40000000 in
theorem own_rmC3_4 (l : Launch) (Z : State) (a0 : Array Value) (hw : ∀ d ∈ tables_1, d.before a0 Z = true) (ws : List Jvm.Cond) (x0 x1 x2 x3 : Int32) (G1 : Int32) (a : Addr) (ka : ClassId) (h0 : Heap) (n0 : Nat) (Z0 : n0 ≤ h0.size) (OL : Old Z n0 h0) (hx0 : own_C16 x0) (hx1 : own_C16 x1) (hx2 : own_C16 x2) (hx3 : own_C16 x3) (Va : Arv Z h0 a ka .char (4 : Int32) [(.int x0), (.int x1), (.int x2), (.int x3)] (.int (0 : Int32))) (O2 : Sta Z Z.heap "java/lang/String" "COMPACT_STRINGS" "Z" (.int G1)) (P5 : ¬ (G1 = (0 : Int32))) (OAD : Sta Z Z.heap "java/lang/StringUTF16" "$assertionsDisabled" "Z" (.int (1 : Int32))) (OHI : Sta Z Z.heap "java/lang/StringUTF16" "HI_BYTE_SHIFT" "I" (.int (0 : Int32))) (OLO : Sta Z Z.heap "java/lang/StringUTF16" "LO_BYTE_SHIFT" "I" (.int (8 : Int32))) :
    MetFree l (⟨"java/lang/StringUTF16", "compress", "([CII)[B"⟩ : MethodName) (head1 (Jvm.Cond.code (⟨"java/lang/StringUTF16", "compress", "([CII)[B"⟩ : MethodName) jdk_52_method_16_code 6 (some (.array .byte)) :: ws) ({ frames := 3, cells := 2, slots := 12, locals := 70 } : Room)) (fun aa_ U => aa_ = #[(.ref a), (.int (0 : Int32)), (.int (4 : Int32))] ∧ Z.Warmed39 U.vm ∧ U.heap = h0) (fun _ _ _ _ _ => True) (fun _ U o U' => ∃ v L, o = .returned v ∧ own_QC3_4 Z x0 x1 x2 x3 G1 a ka h0 n0 v U'.heap L ∧ FrameEnd U o U' L ({ frames := 3, cells := 2, slots := 12, locals := 70 } : Room).cells ({ frames := 3, cells := 2, slots := 12, locals := 70 } : Room).slots) := by
  refine MetFree.of_bodySF (plainFor_of_name own_pn0) hisR ?_
  intro p e s m args below meth c s₁ Bd hml0 hP hK
  obtain ⟨rfl, hZ, hh⟩ := hP
  have hx := Bd.exec
  have hby := Bd.bytes
  have hlk : meth.locks = false := BodyLoose.notSynchronized Bd
  have hml : c.maxLocals = 6 := hml0
  have hown : s.vm.findClass "java/lang/StringUTF16" = some m.cls := findClass_of_methodNamed Bd.named
  have hnm := (name_of_methodNamed Bd.named Bd.method).1
  have X0 : Stand p l e ({ frames := 3, cells := 2, slots := 12, locals := 70 } : Room) s m #[(.ref a), (.int (0 : Int32)), (.int (4 : Int32))] below meth c s₁ [] 0 0 := Stand.of_body Bd
  have e0 : s₁.heap = h0 := by rw [← hh, Bd.state]; rfl
  have N0 := Fr.nil n0
  have KP : Keep h0 h0 [] := Keep.refl _ _
  refine own_start (Fin := (own_Fin s (own_QC3_4 Z x0 x1 x2 x3 G1 a ka h0 n0) ({ frames := 3, cells := 2, slots := 12, locals := 70 } : Room).cells ({ frames := 3, cells := 2, slots := 12, locals := 70 } : Room).slots)) (own_from (mkF m 0 #[rv a, iv 0, iv 4, .unset, .unset, .unset] []) (castTop (own_ef_C3_4 m a (0 : Int32) (4 : Int32))) ?_)
  refine own_to (T' := s₁) (mkF m 1 #[rv a, iv 0, iv 4, .unset, .unset, .unset] [(.int (4 : Int32))]) (fun _ k => XS.iloadN X0.here hx rfl (hb hby own_d_jdk_52_method_16_0) rfl k) ?_
  obtain ⟨T210, h210, k210, X210, e210, E210, A210, B210, st210⟩ := newPE X0 hx hZ (hw _ (List.mem_of_getElem? (i := 20) rfl)) e0 (g := (mkF m 1 #[rv a, iv 0, iv 4, .unset, .unset, .unset] [(.int (4 : Int32))])) rfl (hb hby own_d_jdk_52_method_16_1) rfl (by decide) (cap := 4) (by decide) (by decide) (by decide) (by decide) (ad := "[B") (by decide)
  obtain ⟨b210, g210⟩ : ∃ z, z = h0.size := ⟨_, rfl⟩
  rw [← g210] at A210 B210 st210
  have sz_b210 : h0.size ≤ b210 := Nat.le_trans KP.1 (Nat.le_of_eq g210.symm)
  have ge_b210 : n0 ≤ b210 := Nat.le_trans Z0 sz_b210
  have ne_a_b210 : a ≠ b210 := Nat.ne_of_lt (Nat.lt_of_lt_of_le Va.lt (Nat.le_of_eq g210.symm))
  have OL := OL.ext E210
  have KP := KP.ext E210
  have Va := Va.ext E210
  have V_b210 : Arv Z h210 b210 k210 .byte (4 : Int32) [(.int (0 : Int32)), (.int (0 : Int32)), (.int (0 : Int32)), (.int (0 : Int32))] (.int (0 : Int32)) := (Arv.new A210 (by decide)).pad (pad_rep [] (.int (0 : Int32)) 4)
  refine own_to (mkF m 3 #[rv a, iv 0, iv 4, .unset, .unset, .unset] [(.ref b210)]) st210 ?_
  refine own_to (T' := T210) (mkF m 4 #[rv a, iv 0, iv 4, rv b210, .unset, .unset] []) (fun _ k => XS.astoreN X210.here hx rfl (hb hby own_d_jdk_52_method_16_3) rfl rfl (l' := #[rv a, iv 0, iv 4, rv b210, .unset, .unset]) rfl k) ?_
  refine own_to (T' := T210) (mkF m 5 #[rv a, iv 0, iv 4, rv b210, .unset, .unset] [(.ref a)]) (fun _ k => XS.aloadN X210.here hx rfl (hb hby own_d_jdk_52_method_16_4) rfl rfl k) ?_
  refine own_to (T' := T210) (mkF m 6 #[rv a, iv 0, iv 4, rv b210, .unset, .unset] [(.int (0 : Int32)), (.ref a)]) (fun _ k => XS.iloadN X210.here hx rfl (hb hby own_d_jdk_52_method_16_5) rfl k) ?_
  refine own_to (T' := T210) (mkF m 7 #[rv a, iv 0, iv 4, rv b210, .unset, .unset] [(.ref b210), (.int (0 : Int32)), (.ref a)]) (fun _ k => XS.aloadN X210.here hx rfl (hb hby own_d_jdk_52_method_16_6) rfl rfl k) ?_
  refine own_to (T' := T210) (mkF m 8 #[rv a, iv 0, iv 4, rv b210, .unset, .unset] [(.int (0 : Int32)), (.ref b210), (.int (0 : Int32)), (.ref a)]) (fun _ k => XS.iconst X210.here hx rfl (hb hby own_d_jdk_52_method_16_7) k) ?_
  refine own_to (T' := T210) (mkF m 9 #[rv a, iv 0, iv 4, rv b210, .unset, .unset] [(.int (4 : Int32)), (.int (0 : Int32)), (.ref b210), (.int (0 : Int32)), (.ref a)]) (fun _ k => XS.iloadN X210.here hx rfl (hb hby own_d_jdk_52_method_16_8) rfl k) ?_
  obtain ⟨_, _, ⟨T211, L211, k211, n211⟩, -, X211, ⟨Lc211, hQ211, l211, y211, z211⟩, st211⟩ := Jvm.LawKit.callS X210 hx (y := (⟨"java/lang/StringUTF16", "compress", "([CI[BII)I"⟩ : MethodName)) hown (mvT hZ (hw _ (List.mem_of_getElem? (i := 21) rfl))) (mvT hZ (hw _ (List.mem_of_getElem? (i := 22) rfl))) (mvT hZ (hw _ (List.mem_of_getElem? (i := 18) rfl))) (mvT hZ (hw _ (List.mem_of_getElem? (i := 23) rfl))) (by decide) (backOf (W := 0) (own_rmC5_4 l Z a0 hw [] x0 x1 x2 x3 a ka b210 k210 h210 n0 (Nat.le_trans Z0 KP.1) OL ne_a_b210 ge_b210 Va V_b210) hZ (hw _ (List.mem_of_getElem? (i := 23) rfl)) (hw _ (List.mem_of_getElem? (i := 18) rfl)) (by decide) (by decide)) (g := (mkF m 9 #[rv a, iv 0, iv 4, rv b210, .unset, .unset] [(.int (4 : Int32)), (.int (0 : Int32)), (.ref b210), (.int (0 : Int32)), (.ref a)])) rfl (by rw [hml]; rfl) (argsL := [(.ref a), (.int (0 : Int32)), (.ref b210), (.int (0 : Int32)), (.int (4 : Int32))]) (rest := []) (lenOf own_pd3 rfl) rfl (by show 2 * 0 + _ ≤ _; exact Nat.le_of_eq rfl) (hb hby own_d_jdk_52_method_16_9) (fun _ _ => ⟨rfl, e210, (by decide : 1 + 0 ≤ _), (by decide : 4 + 0 ≤ _)⟩)
  dsimp only [Pt.U, Pt.locs, Pt.cells, Pt.slots] at X211 l211 y211 z211 st211 hQ211
  subst l211 y211 z211
  obtain ⟨N211q, K211, hor211⟩ := hQ211
  have N211 := Fr.app N0 N211q
  have OL := OL.keep K211 (allS ge_b210 all0)
  have KP := KP.trans K211 (allS (Or.inr sz_b210) all0)
  have Va := Va.keep K211 (ninS ne_a_b210 nin0)
  rcases hor211 with ⟨rfl, hg0, hg1, hg2, hg3, Vg⟩ | ⟨rfl, hbad⟩ | ⟨rfl, hbad⟩ | ⟨rfl, hbad⟩ | ⟨rfl, hbad⟩
  · refine own_to (mkF m 12 #[rv a, iv 0, iv 4, rv b210, .unset, .unset] [(.int (4 : Int32))]) st211 ?_
    refine own_to (T' := T211) (mkF m 14 #[rv a, iv 0, iv 4, rv b210, iv 4, .unset] []) (fun _ k => XS.istore X211.here hx rfl (hb hby own_d_jdk_52_method_16_12) rfl (l' := #[rv a, iv 0, iv 4, rv b210, iv 4, .unset]) rfl k) ?_
    refine own_to (T' := T211) (mkF m 16 #[rv a, iv 0, iv 4, rv b210, iv 4, .unset] [(.int (4 : Int32))]) (fun _ k => XS.iload X211.here hx rfl (hb hby own_d_jdk_52_method_16_14) rfl k) ?_
    refine own_to (T' := T211) (mkF m 17 #[rv a, iv 0, iv 4, rv b210, iv 4, .unset] [(.int (4 : Int32)), (.int (4 : Int32))]) (fun _ k => XS.iloadN X211.here hx rfl (hb hby own_d_jdk_52_method_16_16) rfl k) ?_
    refine own_to (T' := T211) (mkF m 57 #[rv a, iv 0, iv 4, rv b210, iv 4, .unset] []) (fun _ k => XS.icmpYes X211.here hx rfl (pc0 := 17) (pc' := 57) rfl (hb hby own_d_jdk_52_method_16_17) rfl (teq (by decide : (4 : Int32) = (4 : Int32))).1 (by decide) (by decide) k) ?_
    refine own_to (T' := T211) (mkF m 58 #[rv a, iv 0, iv 4, rv b210, iv 4, .unset] [(.ref b210)]) (fun _ k => XS.aloadN X211.here hx rfl (hb hby own_d_jdk_52_method_16_57) rfl rfl k) ?_
    exact own_retA X211 hx Bd.returns rfl hlk (hb hby own_d_jdk_52_method_16_58) rfl (by decide) (by decide) (by exact ⟨b210, k210, rfl, N211, KP, ge_b210, sz_b210, Or.inl ⟨hg0, hg1, hg2, hg3, Vg⟩⟩)
  · refine own_to (mkF m 12 #[rv a, iv 0, iv 4, rv b210, .unset, .unset] [(.int (0 : Int32))]) st211 ?_
    refine own_to (T' := T211) (mkF m 14 #[rv a, iv 0, iv 4, rv b210, iv 0, .unset] []) (fun _ k => XS.istore X211.here hx rfl (hb hby own_d_jdk_52_method_16_12) rfl (l' := #[rv a, iv 0, iv 4, rv b210, iv 0, .unset]) rfl k) ?_
    refine own_to (T' := T211) (mkF m 16 #[rv a, iv 0, iv 4, rv b210, iv 0, .unset] [(.int (0 : Int32))]) (fun _ k => XS.iload X211.here hx rfl (hb hby own_d_jdk_52_method_16_14) rfl k) ?_
    refine own_to (T' := T211) (mkF m 17 #[rv a, iv 0, iv 4, rv b210, iv 0, .unset] [(.int (4 : Int32)), (.int (0 : Int32))]) (fun _ k => XS.iloadN X211.here hx rfl (hb hby own_d_jdk_52_method_16_16) rfl k) ?_
    refine own_to (T' := T211) (mkF m 20 #[rv a, iv 0, iv 4, rv b210, iv 0, .unset] []) (fun _ k => XS.icmpNo X211.here hx rfl (hb hby own_d_jdk_52_method_16_17) rfl (feq (by decide : ¬ ((0 : Int32) = (4 : Int32)))).1 k) ?_
    refine own_to (T' := T211) (mkF m 21 #[rv a, iv 0, iv 4, rv b210, iv 0, .unset] [(.ref a)]) (fun _ k => XS.aloadN X211.here hx rfl (hb hby own_d_jdk_52_method_16_20) rfl rfl k) ?_
    refine own_to (T' := T211) (mkF m 22 #[rv a, iv 0, iv 4, rv b210, iv 0, .unset] [(.int (0 : Int32)), (.ref a)]) (fun _ k => XS.iloadN X211.here hx rfl (hb hby own_d_jdk_52_method_16_21) rfl k) ?_
    refine own_to (T' := T211) (mkF m 23 #[rv a, iv 0, iv 4, rv b210, iv 0, .unset] [(.int (4 : Int32)), (.int (0 : Int32)), (.ref a)]) (fun _ k => XS.iloadN X211.here hx rfl (hb hby own_d_jdk_52_method_16_22) rfl k) ?_
    have KP0 := KP
    have lt0_a := Va.lt
    obtain ⟨_, _, ⟨T212, L212, k212, n212⟩, -, X212, ⟨Lc212, hQ212, l212, y212, z212⟩, st212⟩ := Jvm.LawKit.callS X211 hx (y := (⟨"java/lang/StringUTF16", "toBytes", "([CII)[B"⟩ : MethodName)) hown (mvT hZ (hw _ (List.mem_of_getElem? (i := 69) rfl))) (mvT hZ (hw _ (List.mem_of_getElem? (i := 70) rfl))) (mvT hZ (hw _ (List.mem_of_getElem? (i := 18) rfl))) (mvT hZ (hw _ (List.mem_of_getElem? (i := 71) rfl))) (by decide) (backOf (W := 0) (own_rmTS_4 l Z a0 hw [] x0 x1 x2 x3 G1 a ka T211.heap n0 (Nat.le_trans Z0 KP.1) OL Va O2 P5 OAD OHI OLO) hZ (hw _ (List.mem_of_getElem? (i := 71) rfl)) (hw _ (List.mem_of_getElem? (i := 18) rfl)) (by decide) (by decide)) (g := (mkF m 23 #[rv a, iv 0, iv 4, rv b210, iv 0, .unset] [(.int (4 : Int32)), (.int (0 : Int32)), (.ref a)])) rfl (by rw [hml]; rfl) (argsL := [(.ref a), (.int (0 : Int32)), (.int (4 : Int32))]) (rest := []) (lenOf own_pd4 rfl) rfl (by show 2 * 0 + _ ≤ _; exact Nat.le_of_eq rfl) (hb hby own_d_jdk_52_method_16_23) (fun _ _ => ⟨rfl, rfl, (by decide : 1 + 1 ≤ _), (by decide : 4 + 8 ≤ _)⟩)
    dsimp only [Pt.U, Pt.locs, Pt.cells, Pt.slots] at X212 l212 y212 z212 st212 hQ212
    subst l212 y212 z212
    obtain ⟨bu, kbu, rfl, N212q, K212, ge_bu, sz0_bu, Vu⟩ := hQ212
    have N212 := Fr.app N211 N212q
    have OL := OL.keep K212 all0
    have KP := KP.trans K212 all0
    have Va := Va.keep K212 nin0
    refine own_to (mkF m 26 #[rv a, iv 0, iv 4, rv b210, iv 0, .unset] [(.ref bu)]) st212 ?_
    have sz_bu : h0.size ≤ bu := Nat.le_trans KP0.1 sz0_bu
    have ne_a_bu : a ≠ bu := Nat.ne_of_lt (Nat.lt_of_lt_of_le lt0_a sz0_bu)
    refine own_to (T' := T212) (mkF m 28 #[rv a, iv 0, iv 4, rv b210, iv 0, rv bu] []) (fun _ k => XS.astore X212.here hx rfl (hb hby own_d_jdk_52_method_16_26) rfl rfl (l' := #[rv a, iv 0, iv 4, rv b210, iv 0, rv bu]) rfl k) ?_
    refine own_to (T' := T212) (mkF m 30 #[rv a, iv 0, iv 4, rv b210, iv 0, rv bu] [(.ref bu)]) (fun _ k => XS.aload X212.here hx rfl (hb hby own_d_jdk_52_method_16_28) rfl rfl k) ?_
    refine own_to (T' := T212) (mkF m 32 #[rv a, iv 0, iv 4, rv b210, iv 0, rv bu] [(.int (0 : Int32)), (.ref bu)]) (fun _ k => XS.iload X212.here hx rfl (hb hby own_d_jdk_52_method_16_30) rfl k) ?_
    obtain ⟨_, _, ⟨T213, L213, k213, n213⟩, -, X213, ⟨Lc213, hQ213, l213, y213, z213⟩, st213⟩ := Jvm.LawKit.callS X212 hx (y := (⟨"java/lang/StringUTF16", "getChar", "([BI)C"⟩ : MethodName)) hown (mvT hZ (hw _ (List.mem_of_getElem? (i := 85) rfl))) (mvT hZ (hw _ (List.mem_of_getElem? (i := 86) rfl))) (mvT hZ (hw _ (List.mem_of_getElem? (i := 18) rfl))) (mvT hZ (hw _ (List.mem_of_getElem? (i := 87) rfl))) (by decide) (backOf (W := 0) (own_rmGC_4_0 l Z a0 hw [] x0 x1 x2 x3 G1 bu kbu T212.heap n0 (Nat.le_trans Z0 KP.1) OL hx0 Vu O2 P5 OAD OHI OLO) hZ (hw _ (List.mem_of_getElem? (i := 87) rfl)) (hw _ (List.mem_of_getElem? (i := 18) rfl)) (by decide) (by decide)) (g := (mkF m 32 #[rv a, iv 0, iv 4, rv b210, iv 0, rv bu] [(.int (0 : Int32)), (.ref bu)])) rfl (by rw [hml]; rfl) (argsL := [(.ref bu), (.int (0 : Int32))]) (rest := []) (lenOf own_pd5 rfl) rfl (by show 2 * 0 + _ ≤ _; exact Nat.le_of_eq rfl) (hb hby own_d_jdk_52_method_16_32) (fun _ _ => ⟨rfl, rfl, (by decide : 2 + 0 ≤ _), (by decide : 12 + 0 ≤ _)⟩)
    dsimp only [Pt.U, Pt.locs, Pt.cells, Pt.slots] at X213 l213 y213 z213 st213 hQ213
    subst l213 y213 z213
    obtain ⟨rfl, N213q, e213⟩ := hQ213
    have N213 := Fr.app N212 N213q
    refine own_to (mkF m 35 #[rv a, iv 0, iv 4, rv b210, iv 0, rv bu] [(.int x0)]) st213 ?_
    refine own_to (T' := T213) (mkF m 38 #[rv a, iv 0, iv 4, rv b210, iv 0, rv bu] [(.int (255 : Int32)), (.int x0)]) (fun _ k => XS.sipush X213.here hx rfl (hb hby own_d_jdk_52_method_16_35) k) ?_
    refine own_to (T' := T213) (mkF m 54 #[rv a, iv 0, iv 4, rv b210, iv 0, rv bu] []) (fun _ k => XS.icmpYes X213.here hx rfl (pc0 := 38) (pc' := 54) rfl (hb hby own_d_jdk_52_method_16_38) rfl (tlt hbad).2.2.1 (by decide) (by decide) k) ?_
    refine own_to (T' := T213) (mkF m 56 #[rv a, iv 0, iv 4, rv b210, iv 0, rv bu] [(.ref bu)]) (fun _ k => XS.aload X213.here hx rfl (hb hby own_d_jdk_52_method_16_54) rfl rfl k) ?_
    exact own_retA X213 hx Bd.returns rfl hlk (hb hby own_d_jdk_52_method_16_56) rfl (by decide) (by decide) (by rw [e213]; exact ⟨bu, kbu, rfl, N213, KP, ge_bu, sz_bu, Or.inr Vu⟩)
  · refine own_to (mkF m 12 #[rv a, iv 0, iv 4, rv b210, .unset, .unset] [(.int (1 : Int32))]) st211 ?_
    refine own_to (T' := T211) (mkF m 14 #[rv a, iv 0, iv 4, rv b210, iv 1, .unset] []) (fun _ k => XS.istore X211.here hx rfl (hb hby own_d_jdk_52_method_16_12) rfl (l' := #[rv a, iv 0, iv 4, rv b210, iv 1, .unset]) rfl k) ?_
    refine own_to (T' := T211) (mkF m 16 #[rv a, iv 0, iv 4, rv b210, iv 1, .unset] [(.int (1 : Int32))]) (fun _ k => XS.iload X211.here hx rfl (hb hby own_d_jdk_52_method_16_14) rfl k) ?_
    refine own_to (T' := T211) (mkF m 17 #[rv a, iv 0, iv 4, rv b210, iv 1, .unset] [(.int (4 : Int32)), (.int (1 : Int32))]) (fun _ k => XS.iloadN X211.here hx rfl (hb hby own_d_jdk_52_method_16_16) rfl k) ?_
    refine own_to (T' := T211) (mkF m 20 #[rv a, iv 0, iv 4, rv b210, iv 1, .unset] []) (fun _ k => XS.icmpNo X211.here hx rfl (hb hby own_d_jdk_52_method_16_17) rfl (feq (by decide : ¬ ((1 : Int32) = (4 : Int32)))).1 k) ?_
    refine own_to (T' := T211) (mkF m 21 #[rv a, iv 0, iv 4, rv b210, iv 1, .unset] [(.ref a)]) (fun _ k => XS.aloadN X211.here hx rfl (hb hby own_d_jdk_52_method_16_20) rfl rfl k) ?_
    refine own_to (T' := T211) (mkF m 22 #[rv a, iv 0, iv 4, rv b210, iv 1, .unset] [(.int (0 : Int32)), (.ref a)]) (fun _ k => XS.iloadN X211.here hx rfl (hb hby own_d_jdk_52_method_16_21) rfl k) ?_
    refine own_to (T' := T211) (mkF m 23 #[rv a, iv 0, iv 4, rv b210, iv 1, .unset] [(.int (4 : Int32)), (.int (0 : Int32)), (.ref a)]) (fun _ k => XS.iloadN X211.here hx rfl (hb hby own_d_jdk_52_method_16_22) rfl k) ?_
    have KP0 := KP
    have lt0_a := Va.lt
    obtain ⟨_, _, ⟨T214, L214, k214, n214⟩, -, X214, ⟨Lc214, hQ214, l214, y214, z214⟩, st214⟩ := Jvm.LawKit.callS X211 hx (y := (⟨"java/lang/StringUTF16", "toBytes", "([CII)[B"⟩ : MethodName)) hown (mvT hZ (hw _ (List.mem_of_getElem? (i := 69) rfl))) (mvT hZ (hw _ (List.mem_of_getElem? (i := 70) rfl))) (mvT hZ (hw _ (List.mem_of_getElem? (i := 18) rfl))) (mvT hZ (hw _ (List.mem_of_getElem? (i := 71) rfl))) (by decide) (backOf (W := 0) (own_rmTS_4 l Z a0 hw [] x0 x1 x2 x3 G1 a ka T211.heap n0 (Nat.le_trans Z0 KP.1) OL Va O2 P5 OAD OHI OLO) hZ (hw _ (List.mem_of_getElem? (i := 71) rfl)) (hw _ (List.mem_of_getElem? (i := 18) rfl)) (by decide) (by decide)) (g := (mkF m 23 #[rv a, iv 0, iv 4, rv b210, iv 1, .unset] [(.int (4 : Int32)), (.int (0 : Int32)), (.ref a)])) rfl (by rw [hml]; rfl) (argsL := [(.ref a), (.int (0 : Int32)), (.int (4 : Int32))]) (rest := []) (lenOf own_pd4 rfl) rfl (by show 2 * 0 + _ ≤ _; exact Nat.le_of_eq rfl) (hb hby own_d_jdk_52_method_16_23) (fun _ _ => ⟨rfl, rfl, (by decide : 1 + 1 ≤ _), (by decide : 4 + 8 ≤ _)⟩)
    dsimp only [Pt.U, Pt.locs, Pt.cells, Pt.slots] at X214 l214 y214 z214 st214 hQ214
    subst l214 y214 z214
    obtain ⟨bu, kbu, rfl, N214q, K214, ge_bu, sz0_bu, Vu⟩ := hQ214
    have N214 := Fr.app N211 N214q
    have OL := OL.keep K214 all0
    have KP := KP.trans K214 all0
    have Va := Va.keep K214 nin0
    refine own_to (mkF m 26 #[rv a, iv 0, iv 4, rv b210, iv 1, .unset] [(.ref bu)]) st214 ?_
    have sz_bu : h0.size ≤ bu := Nat.le_trans KP0.1 sz0_bu
    have ne_a_bu : a ≠ bu := Nat.ne_of_lt (Nat.lt_of_lt_of_le lt0_a sz0_bu)
    refine own_to (T' := T214) (mkF m 28 #[rv a, iv 0, iv 4, rv b210, iv 1, rv bu] []) (fun _ k => XS.astore X214.here hx rfl (hb hby own_d_jdk_52_method_16_26) rfl rfl (l' := #[rv a, iv 0, iv 4, rv b210, iv 1, rv bu]) rfl k) ?_
    refine own_to (T' := T214) (mkF m 30 #[rv a, iv 0, iv 4, rv b210, iv 1, rv bu] [(.ref bu)]) (fun _ k => XS.aload X214.here hx rfl (hb hby own_d_jdk_52_method_16_28) rfl rfl k) ?_
    refine own_to (T' := T214) (mkF m 32 #[rv a, iv 0, iv 4, rv b210, iv 1, rv bu] [(.int (1 : Int32)), (.ref bu)]) (fun _ k => XS.iload X214.here hx rfl (hb hby own_d_jdk_52_method_16_30) rfl k) ?_
    obtain ⟨_, _, ⟨T215, L215, k215, n215⟩, -, X215, ⟨Lc215, hQ215, l215, y215, z215⟩, st215⟩ := Jvm.LawKit.callS X214 hx (y := (⟨"java/lang/StringUTF16", "getChar", "([BI)C"⟩ : MethodName)) hown (mvT hZ (hw _ (List.mem_of_getElem? (i := 85) rfl))) (mvT hZ (hw _ (List.mem_of_getElem? (i := 86) rfl))) (mvT hZ (hw _ (List.mem_of_getElem? (i := 18) rfl))) (mvT hZ (hw _ (List.mem_of_getElem? (i := 87) rfl))) (by decide) (backOf (W := 0) (own_rmGC_4_1 l Z a0 hw [] x0 x1 x2 x3 G1 bu kbu T214.heap n0 (Nat.le_trans Z0 KP.1) OL hx1 Vu O2 P5 OAD OHI OLO) hZ (hw _ (List.mem_of_getElem? (i := 87) rfl)) (hw _ (List.mem_of_getElem? (i := 18) rfl)) (by decide) (by decide)) (g := (mkF m 32 #[rv a, iv 0, iv 4, rv b210, iv 1, rv bu] [(.int (1 : Int32)), (.ref bu)])) rfl (by rw [hml]; rfl) (argsL := [(.ref bu), (.int (1 : Int32))]) (rest := []) (lenOf own_pd5 rfl) rfl (by show 2 * 0 + _ ≤ _; exact Nat.le_of_eq rfl) (hb hby own_d_jdk_52_method_16_32) (fun _ _ => ⟨rfl, rfl, (by decide : 2 + 0 ≤ _), (by decide : 12 + 0 ≤ _)⟩)
    dsimp only [Pt.U, Pt.locs, Pt.cells, Pt.slots] at X215 l215 y215 z215 st215 hQ215
    subst l215 y215 z215
    obtain ⟨rfl, N215q, e215⟩ := hQ215
    have N215 := Fr.app N214 N215q
    refine own_to (mkF m 35 #[rv a, iv 0, iv 4, rv b210, iv 1, rv bu] [(.int x1)]) st215 ?_
    refine own_to (T' := T215) (mkF m 38 #[rv a, iv 0, iv 4, rv b210, iv 1, rv bu] [(.int (255 : Int32)), (.int x1)]) (fun _ k => XS.sipush X215.here hx rfl (hb hby own_d_jdk_52_method_16_35) k) ?_
    refine own_to (T' := T215) (mkF m 54 #[rv a, iv 0, iv 4, rv b210, iv 1, rv bu] []) (fun _ k => XS.icmpYes X215.here hx rfl (pc0 := 38) (pc' := 54) rfl (hb hby own_d_jdk_52_method_16_38) rfl (tlt hbad).2.2.1 (by decide) (by decide) k) ?_
    refine own_to (T' := T215) (mkF m 56 #[rv a, iv 0, iv 4, rv b210, iv 1, rv bu] [(.ref bu)]) (fun _ k => XS.aload X215.here hx rfl (hb hby own_d_jdk_52_method_16_54) rfl rfl k) ?_
    exact own_retA X215 hx Bd.returns rfl hlk (hb hby own_d_jdk_52_method_16_56) rfl (by decide) (by decide) (by rw [e215]; exact ⟨bu, kbu, rfl, N215, KP, ge_bu, sz_bu, Or.inr Vu⟩)
  · refine own_to (mkF m 12 #[rv a, iv 0, iv 4, rv b210, .unset, .unset] [(.int (2 : Int32))]) st211 ?_
    refine own_to (T' := T211) (mkF m 14 #[rv a, iv 0, iv 4, rv b210, iv 2, .unset] []) (fun _ k => XS.istore X211.here hx rfl (hb hby own_d_jdk_52_method_16_12) rfl (l' := #[rv a, iv 0, iv 4, rv b210, iv 2, .unset]) rfl k) ?_
    refine own_to (T' := T211) (mkF m 16 #[rv a, iv 0, iv 4, rv b210, iv 2, .unset] [(.int (2 : Int32))]) (fun _ k => XS.iload X211.here hx rfl (hb hby own_d_jdk_52_method_16_14) rfl k) ?_
    refine own_to (T' := T211) (mkF m 17 #[rv a, iv 0, iv 4, rv b210, iv 2, .unset] [(.int (4 : Int32)), (.int (2 : Int32))]) (fun _ k => XS.iloadN X211.here hx rfl (hb hby own_d_jdk_52_method_16_16) rfl k) ?_
    refine own_to (T' := T211) (mkF m 20 #[rv a, iv 0, iv 4, rv b210, iv 2, .unset] []) (fun _ k => XS.icmpNo X211.here hx rfl (hb hby own_d_jdk_52_method_16_17) rfl (feq (by decide : ¬ ((2 : Int32) = (4 : Int32)))).1 k) ?_
    refine own_to (T' := T211) (mkF m 21 #[rv a, iv 0, iv 4, rv b210, iv 2, .unset] [(.ref a)]) (fun _ k => XS.aloadN X211.here hx rfl (hb hby own_d_jdk_52_method_16_20) rfl rfl k) ?_
    refine own_to (T' := T211) (mkF m 22 #[rv a, iv 0, iv 4, rv b210, iv 2, .unset] [(.int (0 : Int32)), (.ref a)]) (fun _ k => XS.iloadN X211.here hx rfl (hb hby own_d_jdk_52_method_16_21) rfl k) ?_
    refine own_to (T' := T211) (mkF m 23 #[rv a, iv 0, iv 4, rv b210, iv 2, .unset] [(.int (4 : Int32)), (.int (0 : Int32)), (.ref a)]) (fun _ k => XS.iloadN X211.here hx rfl (hb hby own_d_jdk_52_method_16_22) rfl k) ?_
    have KP0 := KP
    have lt0_a := Va.lt
    obtain ⟨_, _, ⟨T216, L216, k216, n216⟩, -, X216, ⟨Lc216, hQ216, l216, y216, z216⟩, st216⟩ := Jvm.LawKit.callS X211 hx (y := (⟨"java/lang/StringUTF16", "toBytes", "([CII)[B"⟩ : MethodName)) hown (mvT hZ (hw _ (List.mem_of_getElem? (i := 69) rfl))) (mvT hZ (hw _ (List.mem_of_getElem? (i := 70) rfl))) (mvT hZ (hw _ (List.mem_of_getElem? (i := 18) rfl))) (mvT hZ (hw _ (List.mem_of_getElem? (i := 71) rfl))) (by decide) (backOf (W := 0) (own_rmTS_4 l Z a0 hw [] x0 x1 x2 x3 G1 a ka T211.heap n0 (Nat.le_trans Z0 KP.1) OL Va O2 P5 OAD OHI OLO) hZ (hw _ (List.mem_of_getElem? (i := 71) rfl)) (hw _ (List.mem_of_getElem? (i := 18) rfl)) (by decide) (by decide)) (g := (mkF m 23 #[rv a, iv 0, iv 4, rv b210, iv 2, .unset] [(.int (4 : Int32)), (.int (0 : Int32)), (.ref a)])) rfl (by rw [hml]; rfl) (argsL := [(.ref a), (.int (0 : Int32)), (.int (4 : Int32))]) (rest := []) (lenOf own_pd4 rfl) rfl (by show 2 * 0 + _ ≤ _; exact Nat.le_of_eq rfl) (hb hby own_d_jdk_52_method_16_23) (fun _ _ => ⟨rfl, rfl, (by decide : 1 + 1 ≤ _), (by decide : 4 + 8 ≤ _)⟩)
    dsimp only [Pt.U, Pt.locs, Pt.cells, Pt.slots] at X216 l216 y216 z216 st216 hQ216
    subst l216 y216 z216
    obtain ⟨bu, kbu, rfl, N216q, K216, ge_bu, sz0_bu, Vu⟩ := hQ216
    have N216 := Fr.app N211 N216q
    have OL := OL.keep K216 all0
    have KP := KP.trans K216 all0
    have Va := Va.keep K216 nin0
    refine own_to (mkF m 26 #[rv a, iv 0, iv 4, rv b210, iv 2, .unset] [(.ref bu)]) st216 ?_
    have sz_bu : h0.size ≤ bu := Nat.le_trans KP0.1 sz0_bu
    have ne_a_bu : a ≠ bu := Nat.ne_of_lt (Nat.lt_of_lt_of_le lt0_a sz0_bu)
    refine own_to (T' := T216) (mkF m 28 #[rv a, iv 0, iv 4, rv b210, iv 2, rv bu] []) (fun _ k => XS.astore X216.here hx rfl (hb hby own_d_jdk_52_method_16_26) rfl rfl (l' := #[rv a, iv 0, iv 4, rv b210, iv 2, rv bu]) rfl k) ?_
    refine own_to (T' := T216) (mkF m 30 #[rv a, iv 0, iv 4, rv b210, iv 2, rv bu] [(.ref bu)]) (fun _ k => XS.aload X216.here hx rfl (hb hby own_d_jdk_52_method_16_28) rfl rfl k) ?_
    refine own_to (T' := T216) (mkF m 32 #[rv a, iv 0, iv 4, rv b210, iv 2, rv bu] [(.int (2 : Int32)), (.ref bu)]) (fun _ k => XS.iload X216.here hx rfl (hb hby own_d_jdk_52_method_16_30) rfl k) ?_
    obtain ⟨_, _, ⟨T217, L217, k217, n217⟩, -, X217, ⟨Lc217, hQ217, l217, y217, z217⟩, st217⟩ := Jvm.LawKit.callS X216 hx (y := (⟨"java/lang/StringUTF16", "getChar", "([BI)C"⟩ : MethodName)) hown (mvT hZ (hw _ (List.mem_of_getElem? (i := 85) rfl))) (mvT hZ (hw _ (List.mem_of_getElem? (i := 86) rfl))) (mvT hZ (hw _ (List.mem_of_getElem? (i := 18) rfl))) (mvT hZ (hw _ (List.mem_of_getElem? (i := 87) rfl))) (by decide) (backOf (W := 0) (own_rmGC_4_2 l Z a0 hw [] x0 x1 x2 x3 G1 bu kbu T216.heap n0 (Nat.le_trans Z0 KP.1) OL hx2 Vu O2 P5 OAD OHI OLO) hZ (hw _ (List.mem_of_getElem? (i := 87) rfl)) (hw _ (List.mem_of_getElem? (i := 18) rfl)) (by decide) (by decide)) (g := (mkF m 32 #[rv a, iv 0, iv 4, rv b210, iv 2, rv bu] [(.int (2 : Int32)), (.ref bu)])) rfl (by rw [hml]; rfl) (argsL := [(.ref bu), (.int (2 : Int32))]) (rest := []) (lenOf own_pd5 rfl) rfl (by show 2 * 0 + _ ≤ _; exact Nat.le_of_eq rfl) (hb hby own_d_jdk_52_method_16_32) (fun _ _ => ⟨rfl, rfl, (by decide : 2 + 0 ≤ _), (by decide : 12 + 0 ≤ _)⟩)
    dsimp only [Pt.U, Pt.locs, Pt.cells, Pt.slots] at X217 l217 y217 z217 st217 hQ217
    subst l217 y217 z217
    obtain ⟨rfl, N217q, e217⟩ := hQ217
    have N217 := Fr.app N216 N217q
    refine own_to (mkF m 35 #[rv a, iv 0, iv 4, rv b210, iv 2, rv bu] [(.int x2)]) st217 ?_
    refine own_to (T' := T217) (mkF m 38 #[rv a, iv 0, iv 4, rv b210, iv 2, rv bu] [(.int (255 : Int32)), (.int x2)]) (fun _ k => XS.sipush X217.here hx rfl (hb hby own_d_jdk_52_method_16_35) k) ?_
    refine own_to (T' := T217) (mkF m 54 #[rv a, iv 0, iv 4, rv b210, iv 2, rv bu] []) (fun _ k => XS.icmpYes X217.here hx rfl (pc0 := 38) (pc' := 54) rfl (hb hby own_d_jdk_52_method_16_38) rfl (tlt hbad).2.2.1 (by decide) (by decide) k) ?_
    refine own_to (T' := T217) (mkF m 56 #[rv a, iv 0, iv 4, rv b210, iv 2, rv bu] [(.ref bu)]) (fun _ k => XS.aload X217.here hx rfl (hb hby own_d_jdk_52_method_16_54) rfl rfl k) ?_
    exact own_retA X217 hx Bd.returns rfl hlk (hb hby own_d_jdk_52_method_16_56) rfl (by decide) (by decide) (by rw [e217]; exact ⟨bu, kbu, rfl, N217, KP, ge_bu, sz_bu, Or.inr Vu⟩)
  · refine own_to (mkF m 12 #[rv a, iv 0, iv 4, rv b210, .unset, .unset] [(.int (3 : Int32))]) st211 ?_
    refine own_to (T' := T211) (mkF m 14 #[rv a, iv 0, iv 4, rv b210, iv 3, .unset] []) (fun _ k => XS.istore X211.here hx rfl (hb hby own_d_jdk_52_method_16_12) rfl (l' := #[rv a, iv 0, iv 4, rv b210, iv 3, .unset]) rfl k) ?_
    refine own_to (T' := T211) (mkF m 16 #[rv a, iv 0, iv 4, rv b210, iv 3, .unset] [(.int (3 : Int32))]) (fun _ k => XS.iload X211.here hx rfl (hb hby own_d_jdk_52_method_16_14) rfl k) ?_
    refine own_to (T' := T211) (mkF m 17 #[rv a, iv 0, iv 4, rv b210, iv 3, .unset] [(.int (4 : Int32)), (.int (3 : Int32))]) (fun _ k => XS.iloadN X211.here hx rfl (hb hby own_d_jdk_52_method_16_16) rfl k) ?_
    refine own_to (T' := T211) (mkF m 20 #[rv a, iv 0, iv 4, rv b210, iv 3, .unset] []) (fun _ k => XS.icmpNo X211.here hx rfl (hb hby own_d_jdk_52_method_16_17) rfl (feq (by decide : ¬ ((3 : Int32) = (4 : Int32)))).1 k) ?_
    refine own_to (T' := T211) (mkF m 21 #[rv a, iv 0, iv 4, rv b210, iv 3, .unset] [(.ref a)]) (fun _ k => XS.aloadN X211.here hx rfl (hb hby own_d_jdk_52_method_16_20) rfl rfl k) ?_
    refine own_to (T' := T211) (mkF m 22 #[rv a, iv 0, iv 4, rv b210, iv 3, .unset] [(.int (0 : Int32)), (.ref a)]) (fun _ k => XS.iloadN X211.here hx rfl (hb hby own_d_jdk_52_method_16_21) rfl k) ?_
    refine own_to (T' := T211) (mkF m 23 #[rv a, iv 0, iv 4, rv b210, iv 3, .unset] [(.int (4 : Int32)), (.int (0 : Int32)), (.ref a)]) (fun _ k => XS.iloadN X211.here hx rfl (hb hby own_d_jdk_52_method_16_22) rfl k) ?_
    have KP0 := KP
    have lt0_a := Va.lt
    obtain ⟨_, _, ⟨T218, L218, k218, n218⟩, -, X218, ⟨Lc218, hQ218, l218, y218, z218⟩, st218⟩ := Jvm.LawKit.callS X211 hx (y := (⟨"java/lang/StringUTF16", "toBytes", "([CII)[B"⟩ : MethodName)) hown (mvT hZ (hw _ (List.mem_of_getElem? (i := 69) rfl))) (mvT hZ (hw _ (List.mem_of_getElem? (i := 70) rfl))) (mvT hZ (hw _ (List.mem_of_getElem? (i := 18) rfl))) (mvT hZ (hw _ (List.mem_of_getElem? (i := 71) rfl))) (by decide) (backOf (W := 0) (own_rmTS_4 l Z a0 hw [] x0 x1 x2 x3 G1 a ka T211.heap n0 (Nat.le_trans Z0 KP.1) OL Va O2 P5 OAD OHI OLO) hZ (hw _ (List.mem_of_getElem? (i := 71) rfl)) (hw _ (List.mem_of_getElem? (i := 18) rfl)) (by decide) (by decide)) (g := (mkF m 23 #[rv a, iv 0, iv 4, rv b210, iv 3, .unset] [(.int (4 : Int32)), (.int (0 : Int32)), (.ref a)])) rfl (by rw [hml]; rfl) (argsL := [(.ref a), (.int (0 : Int32)), (.int (4 : Int32))]) (rest := []) (lenOf own_pd4 rfl) rfl (by show 2 * 0 + _ ≤ _; exact Nat.le_of_eq rfl) (hb hby own_d_jdk_52_method_16_23) (fun _ _ => ⟨rfl, rfl, (by decide : 1 + 1 ≤ _), (by decide : 4 + 8 ≤ _)⟩)
    dsimp only [Pt.U, Pt.locs, Pt.cells, Pt.slots] at X218 l218 y218 z218 st218 hQ218
    subst l218 y218 z218
    obtain ⟨bu, kbu, rfl, N218q, K218, ge_bu, sz0_bu, Vu⟩ := hQ218
    have N218 := Fr.app N211 N218q
    have OL := OL.keep K218 all0
    have KP := KP.trans K218 all0
    have Va := Va.keep K218 nin0
    refine own_to (mkF m 26 #[rv a, iv 0, iv 4, rv b210, iv 3, .unset] [(.ref bu)]) st218 ?_
    have sz_bu : h0.size ≤ bu := Nat.le_trans KP0.1 sz0_bu
    have ne_a_bu : a ≠ bu := Nat.ne_of_lt (Nat.lt_of_lt_of_le lt0_a sz0_bu)
    refine own_to (T' := T218) (mkF m 28 #[rv a, iv 0, iv 4, rv b210, iv 3, rv bu] []) (fun _ k => XS.astore X218.here hx rfl (hb hby own_d_jdk_52_method_16_26) rfl rfl (l' := #[rv a, iv 0, iv 4, rv b210, iv 3, rv bu]) rfl k) ?_
    refine own_to (T' := T218) (mkF m 30 #[rv a, iv 0, iv 4, rv b210, iv 3, rv bu] [(.ref bu)]) (fun _ k => XS.aload X218.here hx rfl (hb hby own_d_jdk_52_method_16_28) rfl rfl k) ?_
    refine own_to (T' := T218) (mkF m 32 #[rv a, iv 0, iv 4, rv b210, iv 3, rv bu] [(.int (3 : Int32)), (.ref bu)]) (fun _ k => XS.iload X218.here hx rfl (hb hby own_d_jdk_52_method_16_30) rfl k) ?_
    obtain ⟨_, _, ⟨T219, L219, k219, n219⟩, -, X219, ⟨Lc219, hQ219, l219, y219, z219⟩, st219⟩ := Jvm.LawKit.callS X218 hx (y := (⟨"java/lang/StringUTF16", "getChar", "([BI)C"⟩ : MethodName)) hown (mvT hZ (hw _ (List.mem_of_getElem? (i := 85) rfl))) (mvT hZ (hw _ (List.mem_of_getElem? (i := 86) rfl))) (mvT hZ (hw _ (List.mem_of_getElem? (i := 18) rfl))) (mvT hZ (hw _ (List.mem_of_getElem? (i := 87) rfl))) (by decide) (backOf (W := 0) (own_rmGC_4_3 l Z a0 hw [] x0 x1 x2 x3 G1 bu kbu T218.heap n0 (Nat.le_trans Z0 KP.1) OL hx3 Vu O2 P5 OAD OHI OLO) hZ (hw _ (List.mem_of_getElem? (i := 87) rfl)) (hw _ (List.mem_of_getElem? (i := 18) rfl)) (by decide) (by decide)) (g := (mkF m 32 #[rv a, iv 0, iv 4, rv b210, iv 3, rv bu] [(.int (3 : Int32)), (.ref bu)])) rfl (by rw [hml]; rfl) (argsL := [(.ref bu), (.int (3 : Int32))]) (rest := []) (lenOf own_pd5 rfl) rfl (by show 2 * 0 + _ ≤ _; exact Nat.le_of_eq rfl) (hb hby own_d_jdk_52_method_16_32) (fun _ _ => ⟨rfl, rfl, (by decide : 2 + 0 ≤ _), (by decide : 12 + 0 ≤ _)⟩)
    dsimp only [Pt.U, Pt.locs, Pt.cells, Pt.slots] at X219 l219 y219 z219 st219 hQ219
    subst l219 y219 z219
    obtain ⟨rfl, N219q, e219⟩ := hQ219
    have N219 := Fr.app N218 N219q
    refine own_to (mkF m 35 #[rv a, iv 0, iv 4, rv b210, iv 3, rv bu] [(.int x3)]) st219 ?_
    refine own_to (T' := T219) (mkF m 38 #[rv a, iv 0, iv 4, rv b210, iv 3, rv bu] [(.int (255 : Int32)), (.int x3)]) (fun _ k => XS.sipush X219.here hx rfl (hb hby own_d_jdk_52_method_16_35) k) ?_
    refine own_to (T' := T219) (mkF m 54 #[rv a, iv 0, iv 4, rv b210, iv 3, rv bu] []) (fun _ k => XS.icmpYes X219.here hx rfl (pc0 := 38) (pc' := 54) rfl (hb hby own_d_jdk_52_method_16_38) rfl (tlt hbad).2.2.1 (by decide) (by decide) k) ?_
    refine own_to (T' := T219) (mkF m 56 #[rv a, iv 0, iv 4, rv b210, iv 3, rv bu] [(.ref bu)]) (fun _ k => XS.aload X219.here hx rfl (hb hby own_d_jdk_52_method_16_54) rfl rfl k) ?_
    exact own_retA X219 hx Bd.returns rfl hlk (hb hby own_d_jdk_52_method_16_56) rfl (by decide) (by decide) (by rw [e219]; exact ⟨bu, kbu, rfl, N219, KP, ge_bu, sz_bu, Or.inr Vu⟩)
def own_QCF_4_0 (Z : State) (x0 x1 x2 x3 : Int32) (b : Addr) (kb : ClassId) (h0 : Heap) (n0 : Nat) (v : Option Value) (h : Heap) (L : List Loc) : Prop := v = some (.int (0 : Int32)) ∧ Fr n0 L ∧ h = h0
set_option maxRecDepth 65536 in
set_option maxHeartbeats 40000000 in
theorem own_rmCF_4_0 (l : Launch) (Z : State) (a0 : Array Value) (hw : ∀ d ∈ tables_1, d.before a0 Z = true) (ws : List Jvm.Cond) (x0 x1 x2 x3 : Int32) (b : Addr) (kb : ClassId) (h0 : Heap) (n0 : Nat) (Z0 : n0 ≤ h0.size) (OL : Old Z n0 h0) (Vb : Arv Z h0 b kb .byte (4 : Int32) [(.int (x0.toInt8.toInt32)), (.int (x1.toInt8.toInt32)), (.int (x2.toInt8.toInt32)), (.int (x3.toInt8.toInt32))] (.int (0 : Int32))) :
    MetFree l (⟨"java/lang/StringUTF16", "coderFromArrayLen", "([BI)B"⟩ : MethodName) (head1 (Jvm.Cond.code (⟨"java/lang/StringUTF16", "coderFromArrayLen", "([BI)B"⟩ : MethodName) jdk_52_method_15_code 2 (some .byte) :: ws) ({ frames := 0, cells := 0, slots := 0, locals := 0 } : Room)) (fun aa_ U => aa_ = #[(.ref b), (.int (4 : Int32))] ∧ Z.Warmed39 U.vm ∧ U.heap = h0) (fun _ _ _ _ _ => True) (fun _ U o U' => ∃ v L, o = .returned v ∧ own_QCF_4_0 Z x0 x1 x2 x3 b kb h0 n0 v U'.heap L ∧ FrameEnd U o U' L ({ frames := 0, cells := 0, slots := 0, locals := 0 } : Room).cells ({ frames := 0, cells := 0, slots := 0, locals := 0 } : Room).slots) := by
  refine MetFree.of_bodySF (plainFor_of_name own_pn0) hisR ?_
  intro p e s m args below meth c s₁ Bd hml0 hP hK
  obtain ⟨rfl, hZ, hh⟩ := hP
  have hx := Bd.exec
  have hby := Bd.bytes
  have hlk : meth.locks = false := BodyLoose.notSynchronized Bd
  have hml : c.maxLocals = 2 := hml0
  have hown : s.vm.findClass "java/lang/StringUTF16" = some m.cls := findClass_of_methodNamed Bd.named
  have hnm := (name_of_methodNamed Bd.named Bd.method).1
  have X0 : Stand p l e ({ frames := 0, cells := 0, slots := 0, locals := 0 } : Room) s m #[(.ref b), (.int (4 : Int32))] below meth c s₁ [] 0 0 := Stand.of_body Bd
  have e0 : s₁.heap = h0 := by rw [← hh, Bd.state]; rfl
  have N0 := Fr.nil n0
  have KP : Keep h0 h0 [] := Keep.refl _ _
  refine own_start (Fin := (own_Fin s (own_QCF_4_0 Z x0 x1 x2 x3 b kb h0 n0) ({ frames := 0, cells := 0, slots := 0, locals := 0 } : Room).cells ({ frames := 0, cells := 0, slots := 0, locals := 0 } : Room).slots)) (own_from (mkF m 0 #[rv b, iv 4] []) (castTop (own_ef_CF_4_0 m b (4 : Int32))) ?_)
  refine own_to (T' := s₁) (mkF m 1 #[rv b, iv 4] [(.int (4 : Int32))]) (fun _ k => XS.iloadN X0.here hx rfl (hb hby own_d_jdk_52_method_15_0) rfl k) ?_
  refine own_to (T' := s₁) (mkF m 2 #[rv b, iv 4] [(.ref b), (.int (4 : Int32))]) (fun _ k => XS.aloadN X0.here hx rfl (hb hby own_d_jdk_52_method_15_1) rfl rfl k) ?_
  obtain ⟨cl220, Ar220, -, S220, M220, -, -⟩ := id Vb
  refine own_to (mkF m 3 #[rv b, iv 4] [(.int (4 : Int32)), (.int (4 : Int32))]) (by have q := X0.arraylength hx (by rw [e0]; exact Ar220.1) (State.isArrayOf_alike hZ.alike Ar220.2.1) (g := (mkF m 2 #[rv b, iv 4] [(.ref b), (.int (4 : Int32))])) rfl rfl (hb hby own_d_jdk_52_method_15_2); rw [len_of S220 M220] at q; exact q) ?_
  refine own_to (T' := s₁) (mkF m 4 #[rv b, iv 4] [(.int (0 : Int32))]) (fun _ k => XS.isub X0.here hx rfl (hb hby own_d_jdk_52_method_15_3) rfl k) ?_
  refine own_to (T' := s₁) (mkF m 6 #[rv b, iv 4] [(.int (31 : Int32)), (.int (0 : Int32))]) (fun _ k => XS.bipush X0.here hx rfl (hb hby own_d_jdk_52_method_15_4) k) ?_
  refine own_to (T' := s₁) (mkF m 7 #[rv b, iv 4] [(.int (0 : Int32))]) (fun _ k => XS.iushr X0.here hx rfl (hb hby own_d_jdk_52_method_15_6) rfl k) ?_
  refine own_to (T' := s₁) (mkF m 8 #[rv b, iv 4] [(.int ((0 : Int32).toInt8.toInt32))]) (fun _ k => XS.i2b X0.here hx rfl (hb hby own_d_jdk_52_method_15_7) rfl k) ?_
  exact own_retN X0 hx (t := .byte) Bd.returns (by simp) hlk (hb hby own_d_jdk_52_method_15_8) (by decide) (by decide) (by rw [e0]; exact ⟨rfl, N0, rfl⟩)
def own_QCF_4_1 (Z : State) (x0 x1 x2 x3 : Int32) (b : Addr) (kb : ClassId) (h0 : Heap) (n0 : Nat) (v : Option Value) (h : Heap) (L : List Loc) : Prop := v = some (.int (1 : Int32)) ∧ Fr n0 L ∧ h = h0
set_option maxRecDepth 65536 in
set_option maxHeartbeats 40000000 in
theorem own_rmCF_4_1 (l : Launch) (Z : State) (a0 : Array Value) (hw : ∀ d ∈ tables_1, d.before a0 Z = true) (ws : List Jvm.Cond) (x0 x1 x2 x3 : Int32) (b : Addr) (kb : ClassId) (h0 : Heap) (n0 : Nat) (Z0 : n0 ≤ h0.size) (OL : Old Z n0 h0) (Vb : Arv Z h0 b kb .byte (8 : Int32) [(.int ((x0 >>> ((0 : Int32) &&& 31)).toInt8.toInt32)), (.int ((x0 >>> ((8 : Int32) &&& 31)).toInt8.toInt32)), (.int ((x1 >>> ((0 : Int32) &&& 31)).toInt8.toInt32)), (.int ((x1 >>> ((8 : Int32) &&& 31)).toInt8.toInt32)), (.int ((x2 >>> ((0 : Int32) &&& 31)).toInt8.toInt32)), (.int ((x2 >>> ((8 : Int32) &&& 31)).toInt8.toInt32)), (.int ((x3 >>> ((0 : Int32) &&& 31)).toInt8.toInt32)), (.int ((x3 >>> ((8 : Int32) &&& 31)).toInt8.toInt32))] (.int (0 : Int32))) :
    MetFree l (⟨"java/lang/StringUTF16", "coderFromArrayLen", "([BI)B"⟩ : MethodName) (head1 (Jvm.Cond.code (⟨"java/lang/StringUTF16", "coderFromArrayLen", "([BI)B"⟩ : MethodName) jdk_52_method_15_code 2 (some .byte) :: ws) ({ frames := 0, cells := 0, slots := 0, locals := 0 } : Room)) (fun aa_ U => aa_ = #[(.ref b), (.int (4 : Int32))] ∧ Z.Warmed39 U.vm ∧ U.heap = h0) (fun _ _ _ _ _ => True) (fun _ U o U' => ∃ v L, o = .returned v ∧ own_QCF_4_1 Z x0 x1 x2 x3 b kb h0 n0 v U'.heap L ∧ FrameEnd U o U' L ({ frames := 0, cells := 0, slots := 0, locals := 0 } : Room).cells ({ frames := 0, cells := 0, slots := 0, locals := 0 } : Room).slots) := by
  refine MetFree.of_bodySF (plainFor_of_name own_pn0) hisR ?_
  intro p e s m args below meth c s₁ Bd hml0 hP hK
  obtain ⟨rfl, hZ, hh⟩ := hP
  have hx := Bd.exec
  have hby := Bd.bytes
  have hlk : meth.locks = false := BodyLoose.notSynchronized Bd
  have hml : c.maxLocals = 2 := hml0
  have hown : s.vm.findClass "java/lang/StringUTF16" = some m.cls := findClass_of_methodNamed Bd.named
  have hnm := (name_of_methodNamed Bd.named Bd.method).1
  have X0 : Stand p l e ({ frames := 0, cells := 0, slots := 0, locals := 0 } : Room) s m #[(.ref b), (.int (4 : Int32))] below meth c s₁ [] 0 0 := Stand.of_body Bd
  have e0 : s₁.heap = h0 := by rw [← hh, Bd.state]; rfl
  have N0 := Fr.nil n0
  have KP : Keep h0 h0 [] := Keep.refl _ _
  refine own_start (Fin := (own_Fin s (own_QCF_4_1 Z x0 x1 x2 x3 b kb h0 n0) ({ frames := 0, cells := 0, slots := 0, locals := 0 } : Room).cells ({ frames := 0, cells := 0, slots := 0, locals := 0 } : Room).slots)) (own_from (mkF m 0 #[rv b, iv 4] []) (castTop (own_ef_CF_4_1 m b (4 : Int32))) ?_)
  refine own_to (T' := s₁) (mkF m 1 #[rv b, iv 4] [(.int (4 : Int32))]) (fun _ k => XS.iloadN X0.here hx rfl (hb hby own_d_jdk_52_method_15_0) rfl k) ?_
  refine own_to (T' := s₁) (mkF m 2 #[rv b, iv 4] [(.ref b), (.int (4 : Int32))]) (fun _ k => XS.aloadN X0.here hx rfl (hb hby own_d_jdk_52_method_15_1) rfl rfl k) ?_
  obtain ⟨cl221, Ar221, -, S221, M221, -, -⟩ := id Vb
  refine own_to (mkF m 3 #[rv b, iv 4] [(.int (8 : Int32)), (.int (4 : Int32))]) (by have q := X0.arraylength hx (by rw [e0]; exact Ar221.1) (State.isArrayOf_alike hZ.alike Ar221.2.1) (g := (mkF m 2 #[rv b, iv 4] [(.ref b), (.int (4 : Int32))])) rfl rfl (hb hby own_d_jdk_52_method_15_2); rw [len_of S221 M221] at q; exact q) ?_
  refine own_to (T' := s₁) (mkF m 4 #[rv b, iv 4] [(.int (-4 : Int32))]) (fun _ k => XS.isub X0.here hx rfl (hb hby own_d_jdk_52_method_15_3) rfl k) ?_
  refine own_to (T' := s₁) (mkF m 6 #[rv b, iv 4] [(.int (31 : Int32)), (.int (-4 : Int32))]) (fun _ k => XS.bipush X0.here hx rfl (hb hby own_d_jdk_52_method_15_4) k) ?_
  refine own_to (T' := s₁) (mkF m 7 #[rv b, iv 4] [(.int (1 : Int32))]) (fun _ k => XS.iushr X0.here hx rfl (hb hby own_d_jdk_52_method_15_6) rfl k) ?_
  refine own_to (T' := s₁) (mkF m 8 #[rv b, iv 4] [(.int ((1 : Int32).toInt8.toInt32))]) (fun _ k => XS.i2b X0.here hx rfl (hb hby own_d_jdk_52_method_15_7) rfl k) ?_
  exact own_retN X0 hx (t := .byte) Bd.returns (by simp) hlk (hb hby own_d_jdk_52_method_15_8) (by decide) (by decide) (by rw [e0]; exact ⟨rfl, N0, rfl⟩)
def own_QI4_4 (Z : State) (x0 x1 x2 x3 : Int32) (G1 : Int32) (sx a : Addr) (ka : ClassId) (h0 : Heap) (n0 : Nat) (v : Option Value) (h : Heap) (L : List Loc) : Prop := v = none ∧ Fr n0 L ∧ Keep h0 h [sx] ∧ ∃ (t : Addr) (kb : ClassId), n0 ≤ t ∧ h0.size ≤ t ∧ ((¬ ((255 : Int32) < x0) ∧ ¬ ((255 : Int32) < x1) ∧ ¬ ((255 : Int32) < x2) ∧ ¬ ((255 : Int32) < x3) ∧ own_StrG Z h sx t kb (0 : Int32) (4 : Int32) [(.int (x0.toInt8.toInt32)), (.int (x1.toInt8.toInt32)), (.int (x2.toInt8.toInt32)), (.int (x3.toInt8.toInt32))]) ∨ own_StrG Z h sx t kb (1 : Int32) (8 : Int32) [(.int ((x0 >>> ((0 : Int32) &&& 31)).toInt8.toInt32)), (.int ((x0 >>> ((8 : Int32) &&& 31)).toInt8.toInt32)), (.int ((x1 >>> ((0 : Int32) &&& 31)).toInt8.toInt32)), (.int ((x1 >>> ((8 : Int32) &&& 31)).toInt8.toInt32)), (.int ((x2 >>> ((0 : Int32) &&& 31)).toInt8.toInt32)), (.int ((x2 >>> ((8 : Int32) &&& 31)).toInt8.toInt32)), (.int ((x3 >>> ((0 : Int32) &&& 31)).toInt8.toInt32)), (.int ((x3 >>> ((8 : Int32) &&& 31)).toInt8.toInt32))])
set_option maxRecDepth 65536 in
set_option maxHeartbeats 40000000 in
theorem own_rmI4_4 (l : Launch) (Z : State) (a0 : Array Value) (hw : ∀ d ∈ tables_1, d.before a0 Z = true) (ws : List Jvm.Cond) (x0 x1 x2 x3 : Int32) (G1 : Int32) (sx a : Addr) (ka : ClassId) (h0 : Heap) (n0 : Nat) (Z0 : n0 ≤ h0.size) (OL : Old Z n0 h0) (ge_sx : n0 ≤ sx) (ne_sx_a : sx ≠ a) (E_sx : Exa Z h0 sx "java/lang/String") (F_value_sx : Fld Z h0 sx "java/lang/String" "value" "[B" .null) (F_coder_sx : Fld Z h0 sx "java/lang/String" "coder" "B" (.int (0 : Int32))) (hx0 : own_C16 x0) (hx1 : own_C16 x1) (hx2 : own_C16 x2) (hx3 : own_C16 x3) (Va : Arv Z h0 a ka .char (4 : Int32) [(.int x0), (.int x1), (.int x2), (.int x3)] (.int (0 : Int32))) (O2 : Sta Z Z.heap "java/lang/String" "COMPACT_STRINGS" "Z" (.int G1)) (P5 : ¬ (G1 = (0 : Int32))) (OAD : Sta Z Z.heap "java/lang/StringUTF16" "$assertionsDisabled" "Z" (.int (1 : Int32))) (OHI : Sta Z Z.heap "java/lang/StringUTF16" "HI_BYTE_SHIFT" "I" (.int (0 : Int32))) (OLO : Sta Z Z.heap "java/lang/StringUTF16" "LO_BYTE_SHIFT" "I" (.int (8 : Int32))) :
    MetFree l (⟨"java/lang/String", "<init>", "([CIILjava/lang/Void;)V"⟩ : MethodName) (head1 (Jvm.Cond.code (⟨"java/lang/String", "<init>", "([CIILjava/lang/Void;)V"⟩ : MethodName) jdk_42_method_149_code 6 none :: ws) ({ frames := 4, cells := 2, slots := 12, locals := 100 } : Room)) (fun aa_ U => aa_ = #[(.ref sx), (.ref a), (.int (0 : Int32)), (.int (4 : Int32)), .null] ∧ Z.Warmed39 U.vm ∧ U.heap = h0) (fun _ _ _ _ _ => True) (fun _ U o U' => ∃ v L, o = .returned v ∧ own_QI4_4 Z x0 x1 x2 x3 G1 sx a ka h0 n0 v U'.heap L ∧ FrameEnd U o U' L ({ frames := 4, cells := 2, slots := 12, locals := 100 } : Room).cells ({ frames := 4, cells := 2, slots := 12, locals := 100 } : Room).slots) := by
  refine MetFree.of_bodySF (plainFor_of_name own_pn1) hisR ?_
  intro p e s m args below meth c s₁ Bd hml0 hP hK
  obtain ⟨rfl, hZ, hh⟩ := hP
  have hx := Bd.exec
  have hby := Bd.bytes
  have hlk : meth.locks = false := BodyLoose.notSynchronized Bd
  have hml : c.maxLocals = 6 := hml0
  have hown : s.vm.findClass "java/lang/String" = some m.cls := findClass_of_methodNamed Bd.named
  have hnm := (name_of_methodNamed Bd.named Bd.method).1
  have X0 : Stand p l e ({ frames := 4, cells := 2, slots := 12, locals := 100 } : Room) s m #[(.ref sx), (.ref a), (.int (0 : Int32)), (.int (4 : Int32)), .null] below meth c s₁ [] 0 0 := Stand.of_body Bd
  have e0 : s₁.heap = h0 := by rw [← hh, Bd.state]; rfl
  have N0 := Fr.nil n0
  have KP : Keep h0 h0 [sx] := Keep.refl _ _
  refine own_start (Fin := (own_Fin s (own_QI4_4 Z x0 x1 x2 x3 G1 sx a ka h0 n0) ({ frames := 4, cells := 2, slots := 12, locals := 100 } : Room).cells ({ frames := 4, cells := 2, slots := 12, locals := 100 } : Room).slots)) (own_from (mkF m 0 #[rv sx, rv a, iv 0, iv 4, .val .null, .unset] []) (castTop (own_ef_I4_4 m sx a (0 : Int32) (4 : Int32))) ?_)
  refine own_to (T' := s₁) (mkF m 1 #[rv sx, rv a, iv 0, iv 4, .val .null, .unset] [(.ref sx)]) (fun _ k => XS.aloadN X0.here hx rfl (hb hby own_d_jdk_42_method_149_0) rfl rfl k) ?_
  obtain ⟨T222, X222, e222, st222⟩ := initO X0 hx hZ hown (hw _ (List.mem_of_getElem? (i := 12) rfl)) (hw _ (List.mem_of_getElem? (i := 13) rfl)) (hw _ (List.mem_of_getElem? (i := 14) rfl)) e0 (g := (mkF m 1 #[rv sx, rv a, iv 0, iv 4, .val .null, .unset] [(.ref sx)])) rfl (by rw [hml]; rfl) rfl (hb hby own_d_jdk_42_method_149_1) (by decide) (W := 0) (by show 2 * 0 + _ ≤ _; exact Nat.le_of_eq rfl) (by decide)
  refine own_to (mkF m 4 #[rv sx, rv a, iv 0, iv 4, .val .null, .unset] []) st222 ?_
  refine own_to (T' := T222) (mkF m 5 #[rv sx, rv a, iv 0, iv 4, .val .null, .unset] [(.int (4 : Int32))]) (fun _ k => XS.iloadN X222.here hx rfl (hb hby own_d_jdk_42_method_149_4) rfl k) ?_
  refine own_to (T' := T222) (mkF m 27 #[rv sx, rv a, iv 0, iv 4, .val .null, .unset] []) (fun _ k => XS.ifYes X222.here hx rfl (pc0 := 5) (pc' := 27) rfl (hb hby own_d_jdk_42_method_149_5) rfl ((if0 _ _).trans (feq (by decide : ¬ ((4 : Int32) = (0 : Int32)))).2) (by decide) (by decide) k) ?_
  obtain ⟨T223, X223, e223, st223⟩ := getS2 X222 hx hZ hown (host := "") (Or.inl (hw _ (List.mem_of_getElem? (i := 15) rfl))) Via.refl e222 (O2.ext OL.2) (g := (mkF m 27 #[rv sx, rv a, iv 0, iv 4, .val .null, .unset] [])) rfl (hb hby own_d_jdk_42_method_149_27)
  refine own_to (mkF m 30 #[rv sx, rv a, iv 0, iv 4, .val .null, .unset] [(.int G1)]) st223 ?_
  refine own_to (T' := T223) (mkF m 33 #[rv sx, rv a, iv 0, iv 4, .val .null, .unset] []) (fun _ k => XS.ifNo X223.here hx rfl (hb hby own_d_jdk_42_method_149_30) rfl ((if0 _ _).trans (feq P5).1) k) ?_
  refine own_to (T' := T223) (mkF m 34 #[rv sx, rv a, iv 0, iv 4, .val .null, .unset] [(.ref a)]) (fun _ k => XS.aloadN X223.here hx rfl (hb hby own_d_jdk_42_method_149_33) rfl rfl k) ?_
  refine own_to (T' := T223) (mkF m 35 #[rv sx, rv a, iv 0, iv 4, .val .null, .unset] [(.int (0 : Int32)), (.ref a)]) (fun _ k => XS.iloadN X223.here hx rfl (hb hby own_d_jdk_42_method_149_34) rfl k) ?_
  refine own_to (T' := T223) (mkF m 36 #[rv sx, rv a, iv 0, iv 4, .val .null, .unset] [(.int (4 : Int32)), (.int (0 : Int32)), (.ref a)]) (fun _ k => XS.iloadN X223.here hx rfl (hb hby own_d_jdk_42_method_149_35) rfl k) ?_
  have KP0 := KP
  have lt0_sx := E_sx.lt
  have lt0_a := Va.lt
  obtain ⟨_, _, ⟨T224, L224, k224, n224⟩, -, X224, ⟨Lc224, hQ224, l224, y224, z224⟩, st224⟩ := Jvm.LawKit.callS X223 hx (y := (⟨"java/lang/StringUTF16", "compress", "([CII)[B"⟩ : MethodName)) hown (mvT hZ (hw _ (List.mem_of_getElem? (i := 16) rfl))) (mvT hZ (hw _ (List.mem_of_getElem? (i := 17) rfl))) (mvT hZ (hw _ (List.mem_of_getElem? (i := 18) rfl))) (mvT hZ (hw _ (List.mem_of_getElem? (i := 19) rfl))) (by decide) (backOf (W := 0) (own_rmC3_4 l Z a0 hw [] x0 x1 x2 x3 G1 a ka h0 n0 (Nat.le_trans Z0 KP.1) OL hx0 hx1 hx2 hx3 Va O2 P5 OAD OHI OLO) hZ (hw _ (List.mem_of_getElem? (i := 19) rfl)) (hw _ (List.mem_of_getElem? (i := 18) rfl)) (by decide) (by decide)) (g := (mkF m 36 #[rv sx, rv a, iv 0, iv 4, .val .null, .unset] [(.int (4 : Int32)), (.int (0 : Int32)), (.ref a)])) rfl (by rw [hml]; rfl) (argsL := [(.ref a), (.int (0 : Int32)), (.int (4 : Int32))]) (rest := []) (lenOf own_pd4 rfl) rfl (by show 2 * 0 + _ ≤ _; exact Nat.le_of_eq rfl) (hb hby own_d_jdk_42_method_149_36) (fun _ _ => ⟨rfl, e223, (by decide : 0 + 2 ≤ _), (by decide : 0 + 12 ≤ _)⟩)
  dsimp only [Pt.U, Pt.locs, Pt.cells, Pt.slots] at X224 l224 y224 z224 st224 hQ224
  subst l224 y224 z224
  obtain ⟨bb, kbb, rfl, N224q, K224, ge_bb, sz0_bb, hor224⟩ := hQ224
  have N224 := Fr.app N0 N224q
  have OL := OL.keep K224 all0
  have KP := KP.trans K224 all0
  have E_sx := E_sx.keep K224
  have F_value_sx := F_value_sx.keep K224 nin0
  have F_coder_sx := F_coder_sx.keep K224 nin0
  have Va := Va.keep K224 nin0
  rcases hor224 with ⟨hg0, hg1, hg2, hg3, Vb⟩ | Vb
  · refine own_to (mkF m 39 #[rv sx, rv a, iv 0, iv 4, .val .null, .unset] [(.ref bb)]) st224 ?_
    have sz_bb : h0.size ≤ bb := Nat.le_trans KP0.1 sz0_bb
    have ne_sx_bb : sx ≠ bb := Nat.ne_of_lt (Nat.lt_of_lt_of_le lt0_sx sz0_bb)
    have ne_a_bb : a ≠ bb := Nat.ne_of_lt (Nat.lt_of_lt_of_le lt0_a sz0_bb)
    refine own_to (T' := T224) (mkF m 41 #[rv sx, rv a, iv 0, iv 4, .val .null, rv bb] []) (fun _ k => XS.astore X224.here hx rfl (hb hby own_d_jdk_42_method_149_39) rfl rfl (l' := #[rv sx, rv a, iv 0, iv 4, .val .null, rv bb]) rfl k) ?_
    refine own_to (T' := T224) (mkF m 42 #[rv sx, rv a, iv 0, iv 4, .val .null, rv bb] [(.ref sx)]) (fun _ k => XS.aloadN X224.here hx rfl (hb hby own_d_jdk_42_method_149_41) rfl rfl k) ?_
    refine own_to (T' := T224) (mkF m 44 #[rv sx, rv a, iv 0, iv 4, .val .null, rv bb] [(.ref bb), (.ref sx)]) (fun _ k => XS.aload X224.here hx rfl (hb hby own_d_jdk_42_method_149_42) rfl rfl k) ?_
    refine own_to (T' := T224) (mkF m 45 #[rv sx, rv a, iv 0, iv 4, .val .null, rv bb] [(.int (4 : Int32)), (.ref bb), (.ref sx)]) (fun _ k => XS.iloadN X224.here hx rfl (hb hby own_d_jdk_42_method_149_44) rfl k) ?_
    obtain ⟨_, _, ⟨T225, L225, k225, n225⟩, -, X225, ⟨Lc225, hQ225, l225, y225, z225⟩, st225⟩ := Jvm.LawKit.callS X224 hx (y := (⟨"java/lang/StringUTF16", "coderFromArrayLen", "([BI)B"⟩ : MethodName)) hown (mvT hZ (hw _ (List.mem_of_getElem? (i := 24) rfl))) (mvT hZ (hw _ (List.mem_of_getElem? (i := 25) rfl))) (mvT hZ (hw _ (List.mem_of_getElem? (i := 18) rfl))) (mvT hZ (hw _ (List.mem_of_getElem? (i := 26) rfl))) (by decide) (backOf (W := 1) (own_rmCF_4_0 l Z a0 hw [] x0 x1 x2 x3 bb kbb T224.heap n0 (Nat.le_trans Z0 KP.1) OL Vb) hZ (hw _ (List.mem_of_getElem? (i := 26) rfl)) (hw _ (List.mem_of_getElem? (i := 18) rfl)) (by decide) (by decide)) (g := (mkF m 45 #[rv sx, rv a, iv 0, iv 4, .val .null, rv bb] [(.int (4 : Int32)), (.ref bb), (.ref sx)])) rfl (by rw [hml]; rfl) (argsL := [(.ref bb), (.int (4 : Int32))]) (rest := [(.ref sx)]) (lenOf own_pd6 rfl) rfl (by show 2 * 0 + _ ≤ _; exact Nat.le_of_eq rfl) (hb hby own_d_jdk_42_method_149_45) (fun _ _ => ⟨rfl, rfl, (by decide : 2 + 0 ≤ _), (by decide : 12 + 0 ≤ _)⟩)
    dsimp only [Pt.U, Pt.locs, Pt.cells, Pt.slots] at X225 l225 y225 z225 st225 hQ225
    subst l225 y225 z225
    obtain ⟨rfl, N225q, e225⟩ := hQ225
    have N225 := Fr.app N224 N225q
    refine own_to (mkF m 48 #[rv sx, rv a, iv 0, iv 4, .val .null, rv bb] [(.int (0 : Int32)), (.ref sx)]) st225 ?_
    obtain ⟨T226, h226, X226, e226, W226, st226⟩ := putFN X225 hx hZ hown (hw _ (List.mem_of_getElem? (i := 27) rfl)) Via.refl e225 F_coder_sx E_sx (Or.inr ⟨(hw _ (List.mem_of_getElem? (i := 28) rfl)), rfl, hnm⟩) (hw _ (List.mem_of_getElem? (i := 2) rfl)) (ty := .byte) (v' := (.int (0 : Int32))) (by decide) rfl rfl (g := (mkF m 48 #[rv sx, rv a, iv 0, iv 4, .val .null, rv bb] [(.int (0 : Int32)), (.ref sx)])) rfl rfl (hb hby own_d_jdk_42_method_149_48)
    refine own_to (mkF m 51 #[rv sx, rv a, iv 0, iv 4, .val .null, rv bb] []) st226 ?_
    have N226 := Fr.snoc X226 N225 ge_sx
    have tmp226 : Fld Z h226 sx "java/lang/String" "coder" "B" (.int (0 : Int32)) := F_coder_sx.same W226
    have OL := OL.wr W226 ge_sx
    have KP := KP.wr W226 (Or.inl (List.mem_of_getElem? (i := 0) rfl))
    have E_sx := E_sx.wr W226
    have F_value_sx := F_value_sx.other W226 (Or.inr (slot_ne (Or.inr (hw _ (List.mem_of_getElem? (i := 30) rfl))) (Or.inr (hw _ (List.mem_of_getElem? (i := 28) rfl))) (by decide) (t := (.array .byte)) (t' := .byte) (by decide) (by decide)))
    have Va := Va.other W226 (Ne.symm ne_sx_a)
    have Vb := Vb.other W226 (Ne.symm ne_sx_bb)
    have F_coder_sx := tmp226
    refine own_to (T' := T226) (mkF m 52 #[rv sx, rv a, iv 0, iv 4, .val .null, rv bb] [(.ref sx)]) (fun _ k => XS.aloadN X226.here hx rfl (hb hby own_d_jdk_42_method_149_51) rfl rfl k) ?_
    refine own_to (T' := T226) (mkF m 54 #[rv sx, rv a, iv 0, iv 4, .val .null, rv bb] [(.ref bb), (.ref sx)]) (fun _ k => XS.aload X226.here hx rfl (hb hby own_d_jdk_42_method_149_52) rfl rfl k) ?_
    obtain ⟨T227, h227, X227, e227, W227, st227⟩ := putF X226 hx hZ hown (host := "") (Or.inl (hw _ (List.mem_of_getElem? (i := 29) rfl))) Via.refl e226 F_value_sx E_sx (Or.inr ⟨(hw _ (List.mem_of_getElem? (i := 30) rfl)), rfl, hnm⟩) (hw _ (List.mem_of_getElem? (i := 2) rfl)) (ty := (.array .byte)) (by decide) rfl rfl (g := (mkF m 54 #[rv sx, rv a, iv 0, iv 4, .val .null, rv bb] [(.ref bb), (.ref sx)])) rfl rfl (hb hby own_d_jdk_42_method_149_54)
    refine own_to (mkF m 57 #[rv sx, rv a, iv 0, iv 4, .val .null, rv bb] []) st227 ?_
    have N227 := Fr.snoc X227 N226 ge_sx
    have tmp227 : Fld Z h227 sx "java/lang/String" "value" "[B" (.ref bb) := F_value_sx.same W227
    have OL := OL.wr W227 ge_sx
    have KP := KP.wr W227 (Or.inl (List.mem_of_getElem? (i := 0) rfl))
    have E_sx := E_sx.wr W227
    have F_coder_sx := F_coder_sx.other W227 (Or.inr (slot_ne (Or.inr (hw _ (List.mem_of_getElem? (i := 28) rfl))) (Or.inr (hw _ (List.mem_of_getElem? (i := 30) rfl))) (by decide) (t := .byte) (t' := (.array .byte)) (by decide) (by decide)))
    have Va := Va.other W227 (Ne.symm ne_sx_a)
    have Vb := Vb.other W227 (Ne.symm ne_sx_bb)
    have F_value_sx := tmp227
    exact own_ret0 X227 hx Bd.returns hlk (hb hby own_d_jdk_42_method_149_57) (by decide) (by decide) (by rw [e227]; exact ⟨rfl, N227, KP, bb, kbb, ge_bb, sz_bb, Or.inl ⟨hg0, hg1, hg2, hg3, ⟨E_sx, F_value_sx, F_coder_sx, Vb⟩⟩⟩)
  · refine own_to (mkF m 39 #[rv sx, rv a, iv 0, iv 4, .val .null, .unset] [(.ref bb)]) st224 ?_
    have sz_bb : h0.size ≤ bb := Nat.le_trans KP0.1 sz0_bb
    have ne_sx_bb : sx ≠ bb := Nat.ne_of_lt (Nat.lt_of_lt_of_le lt0_sx sz0_bb)
    have ne_a_bb : a ≠ bb := Nat.ne_of_lt (Nat.lt_of_lt_of_le lt0_a sz0_bb)
    refine own_to (T' := T224) (mkF m 41 #[rv sx, rv a, iv 0, iv 4, .val .null, rv bb] []) (fun _ k => XS.astore X224.here hx rfl (hb hby own_d_jdk_42_method_149_39) rfl rfl (l' := #[rv sx, rv a, iv 0, iv 4, .val .null, rv bb]) rfl k) ?_
    refine own_to (T' := T224) (mkF m 42 #[rv sx, rv a, iv 0, iv 4, .val .null, rv bb] [(.ref sx)]) (fun _ k => XS.aloadN X224.here hx rfl (hb hby own_d_jdk_42_method_149_41) rfl rfl k) ?_
    refine own_to (T' := T224) (mkF m 44 #[rv sx, rv a, iv 0, iv 4, .val .null, rv bb] [(.ref bb), (.ref sx)]) (fun _ k => XS.aload X224.here hx rfl (hb hby own_d_jdk_42_method_149_42) rfl rfl k) ?_
    refine own_to (T' := T224) (mkF m 45 #[rv sx, rv a, iv 0, iv 4, .val .null, rv bb] [(.int (4 : Int32)), (.ref bb), (.ref sx)]) (fun _ k => XS.iloadN X224.here hx rfl (hb hby own_d_jdk_42_method_149_44) rfl k) ?_
    obtain ⟨_, _, ⟨T228, L228, k228, n228⟩, -, X228, ⟨Lc228, hQ228, l228, y228, z228⟩, st228⟩ := Jvm.LawKit.callS X224 hx (y := (⟨"java/lang/StringUTF16", "coderFromArrayLen", "([BI)B"⟩ : MethodName)) hown (mvT hZ (hw _ (List.mem_of_getElem? (i := 24) rfl))) (mvT hZ (hw _ (List.mem_of_getElem? (i := 25) rfl))) (mvT hZ (hw _ (List.mem_of_getElem? (i := 18) rfl))) (mvT hZ (hw _ (List.mem_of_getElem? (i := 26) rfl))) (by decide) (backOf (W := 1) (own_rmCF_4_1 l Z a0 hw [] x0 x1 x2 x3 bb kbb T224.heap n0 (Nat.le_trans Z0 KP.1) OL Vb) hZ (hw _ (List.mem_of_getElem? (i := 26) rfl)) (hw _ (List.mem_of_getElem? (i := 18) rfl)) (by decide) (by decide)) (g := (mkF m 45 #[rv sx, rv a, iv 0, iv 4, .val .null, rv bb] [(.int (4 : Int32)), (.ref bb), (.ref sx)])) rfl (by rw [hml]; rfl) (argsL := [(.ref bb), (.int (4 : Int32))]) (rest := [(.ref sx)]) (lenOf own_pd6 rfl) rfl (by show 2 * 0 + _ ≤ _; exact Nat.le_of_eq rfl) (hb hby own_d_jdk_42_method_149_45) (fun _ _ => ⟨rfl, rfl, (by decide : 2 + 0 ≤ _), (by decide : 12 + 0 ≤ _)⟩)
    dsimp only [Pt.U, Pt.locs, Pt.cells, Pt.slots] at X228 l228 y228 z228 st228 hQ228
    subst l228 y228 z228
    obtain ⟨rfl, N228q, e228⟩ := hQ228
    have N228 := Fr.app N224 N228q
    refine own_to (mkF m 48 #[rv sx, rv a, iv 0, iv 4, .val .null, rv bb] [(.int (1 : Int32)), (.ref sx)]) st228 ?_
    obtain ⟨T229, h229, X229, e229, W229, st229⟩ := putFN X228 hx hZ hown (hw _ (List.mem_of_getElem? (i := 27) rfl)) Via.refl e228 F_coder_sx E_sx (Or.inr ⟨(hw _ (List.mem_of_getElem? (i := 28) rfl)), rfl, hnm⟩) (hw _ (List.mem_of_getElem? (i := 2) rfl)) (ty := .byte) (v' := (.int (1 : Int32))) (by decide) rfl rfl (g := (mkF m 48 #[rv sx, rv a, iv 0, iv 4, .val .null, rv bb] [(.int (1 : Int32)), (.ref sx)])) rfl rfl (hb hby own_d_jdk_42_method_149_48)
    refine own_to (mkF m 51 #[rv sx, rv a, iv 0, iv 4, .val .null, rv bb] []) st229 ?_
    have N229 := Fr.snoc X229 N228 ge_sx
    have tmp229 : Fld Z h229 sx "java/lang/String" "coder" "B" (.int (1 : Int32)) := F_coder_sx.same W229
    have OL := OL.wr W229 ge_sx
    have KP := KP.wr W229 (Or.inl (List.mem_of_getElem? (i := 0) rfl))
    have E_sx := E_sx.wr W229
    have F_value_sx := F_value_sx.other W229 (Or.inr (slot_ne (Or.inr (hw _ (List.mem_of_getElem? (i := 30) rfl))) (Or.inr (hw _ (List.mem_of_getElem? (i := 28) rfl))) (by decide) (t := (.array .byte)) (t' := .byte) (by decide) (by decide)))
    have Va := Va.other W229 (Ne.symm ne_sx_a)
    have Vb := Vb.other W229 (Ne.symm ne_sx_bb)
    have F_coder_sx := tmp229
    refine own_to (T' := T229) (mkF m 52 #[rv sx, rv a, iv 0, iv 4, .val .null, rv bb] [(.ref sx)]) (fun _ k => XS.aloadN X229.here hx rfl (hb hby own_d_jdk_42_method_149_51) rfl rfl k) ?_
    refine own_to (T' := T229) (mkF m 54 #[rv sx, rv a, iv 0, iv 4, .val .null, rv bb] [(.ref bb), (.ref sx)]) (fun _ k => XS.aload X229.here hx rfl (hb hby own_d_jdk_42_method_149_52) rfl rfl k) ?_
    obtain ⟨T230, h230, X230, e230, W230, st230⟩ := putF X229 hx hZ hown (host := "") (Or.inl (hw _ (List.mem_of_getElem? (i := 29) rfl))) Via.refl e229 F_value_sx E_sx (Or.inr ⟨(hw _ (List.mem_of_getElem? (i := 30) rfl)), rfl, hnm⟩) (hw _ (List.mem_of_getElem? (i := 2) rfl)) (ty := (.array .byte)) (by decide) rfl rfl (g := (mkF m 54 #[rv sx, rv a, iv 0, iv 4, .val .null, rv bb] [(.ref bb), (.ref sx)])) rfl rfl (hb hby own_d_jdk_42_method_149_54)
    refine own_to (mkF m 57 #[rv sx, rv a, iv 0, iv 4, .val .null, rv bb] []) st230 ?_
    have N230 := Fr.snoc X230 N229 ge_sx
    have tmp230 : Fld Z h230 sx "java/lang/String" "value" "[B" (.ref bb) := F_value_sx.same W230
    have OL := OL.wr W230 ge_sx
    have KP := KP.wr W230 (Or.inl (List.mem_of_getElem? (i := 0) rfl))
    have E_sx := E_sx.wr W230
    have F_coder_sx := F_coder_sx.other W230 (Or.inr (slot_ne (Or.inr (hw _ (List.mem_of_getElem? (i := 28) rfl))) (Or.inr (hw _ (List.mem_of_getElem? (i := 30) rfl))) (by decide) (t := .byte) (t' := (.array .byte)) (by decide) (by decide)))
    have Va := Va.other W230 (Ne.symm ne_sx_a)
    have Vb := Vb.other W230 (Ne.symm ne_sx_bb)
    have F_value_sx := tmp230
    exact own_ret0 X230 hx Bd.returns hlk (hb hby own_d_jdk_42_method_149_57) (by decide) (by decide) (by rw [e230]; exact ⟨rfl, N230, KP, bb, kbb, ge_bb, sz_bb, Or.inr ⟨E_sx, F_value_sx, F_coder_sx, Vb⟩⟩)
def own_QI1_4 (Z : State) (x0 x1 x2 x3 : Int32) (G1 : Int32) (sx a : Addr) (ka : ClassId) (h0 : Heap) (n0 : Nat) (v : Option Value) (h : Heap) (L : List Loc) : Prop := v = none ∧ Fr n0 L ∧ Keep h0 h [sx] ∧ ∃ (t : Addr) (kb : ClassId), n0 ≤ t ∧ h0.size ≤ t ∧ ((¬ ((255 : Int32) < x0) ∧ ¬ ((255 : Int32) < x1) ∧ ¬ ((255 : Int32) < x2) ∧ ¬ ((255 : Int32) < x3) ∧ own_StrG Z h sx t kb (0 : Int32) (4 : Int32) [(.int (x0.toInt8.toInt32)), (.int (x1.toInt8.toInt32)), (.int (x2.toInt8.toInt32)), (.int (x3.toInt8.toInt32))]) ∨ own_StrG Z h sx t kb (1 : Int32) (8 : Int32) [(.int ((x0 >>> ((0 : Int32) &&& 31)).toInt8.toInt32)), (.int ((x0 >>> ((8 : Int32) &&& 31)).toInt8.toInt32)), (.int ((x1 >>> ((0 : Int32) &&& 31)).toInt8.toInt32)), (.int ((x1 >>> ((8 : Int32) &&& 31)).toInt8.toInt32)), (.int ((x2 >>> ((0 : Int32) &&& 31)).toInt8.toInt32)), (.int ((x2 >>> ((8 : Int32) &&& 31)).toInt8.toInt32)), (.int ((x3 >>> ((0 : Int32) &&& 31)).toInt8.toInt32)), (.int ((x3 >>> ((8 : Int32) &&& 31)).toInt8.toInt32))])
set_option maxRecDepth 65536 in
set_option maxHeartbeats 40000000 in
theorem own_rmI1_4 (l : Launch) (Z : State) (a0 : Array Value) (hw : ∀ d ∈ tables_1, d.before a0 Z = true) (ws : List Jvm.Cond) (x0 x1 x2 x3 : Int32) (G1 : Int32) (sx a : Addr) (ka : ClassId) (h0 : Heap) (n0 : Nat) (Z0 : n0 ≤ h0.size) (OL : Old Z n0 h0) (ge_sx : n0 ≤ sx) (ne_sx_a : sx ≠ a) (E_sx : Exa Z h0 sx "java/lang/String") (F_value_sx : Fld Z h0 sx "java/lang/String" "value" "[B" .null) (F_coder_sx : Fld Z h0 sx "java/lang/String" "coder" "B" (.int (0 : Int32))) (hx0 : own_C16 x0) (hx1 : own_C16 x1) (hx2 : own_C16 x2) (hx3 : own_C16 x3) (Va : Arv Z h0 a ka .char (4 : Int32) [(.int x0), (.int x1), (.int x2), (.int x3)] (.int (0 : Int32))) (O2 : Sta Z Z.heap "java/lang/String" "COMPACT_STRINGS" "Z" (.int G1)) (P5 : ¬ (G1 = (0 : Int32))) (OAD : Sta Z Z.heap "java/lang/StringUTF16" "$assertionsDisabled" "Z" (.int (1 : Int32))) (OHI : Sta Z Z.heap "java/lang/StringUTF16" "HI_BYTE_SHIFT" "I" (.int (0 : Int32))) (OLO : Sta Z Z.heap "java/lang/StringUTF16" "LO_BYTE_SHIFT" "I" (.int (8 : Int32))) :
    MetFree l (⟨"java/lang/String", "<init>", "([C)V"⟩ : MethodName) (head1 (Jvm.Cond.code (⟨"java/lang/String", "<init>", "([C)V"⟩ : MethodName) jdk_42_method_3_code 2 none :: ws) ({ frames := 5, cells := 2, slots := 12, locals := 120 } : Room)) (fun aa_ U => aa_ = #[(.ref sx), (.ref a)] ∧ Z.Warmed39 U.vm ∧ U.heap = h0) (fun _ _ _ _ _ => True) (fun _ U o U' => ∃ v L, o = .returned v ∧ own_QI1_4 Z x0 x1 x2 x3 G1 sx a ka h0 n0 v U'.heap L ∧ FrameEnd U o U' L ({ frames := 5, cells := 2, slots := 12, locals := 120 } : Room).cells ({ frames := 5, cells := 2, slots := 12, locals := 120 } : Room).slots) := by
  refine MetFree.of_bodySF (plainFor_of_name own_pn1) hisR ?_
  intro p e s m args below meth c s₁ Bd hml0 hP hK
  obtain ⟨rfl, hZ, hh⟩ := hP
  have hx := Bd.exec
  have hby := Bd.bytes
  have hlk : meth.locks = false := BodyLoose.notSynchronized Bd
  have hml : c.maxLocals = 2 := hml0
  have hown : s.vm.findClass "java/lang/String" = some m.cls := findClass_of_methodNamed Bd.named
  have hnm := (name_of_methodNamed Bd.named Bd.method).1
  have X0 : Stand p l e ({ frames := 5, cells := 2, slots := 12, locals := 120 } : Room) s m #[(.ref sx), (.ref a)] below meth c s₁ [] 0 0 := Stand.of_body Bd
  have e0 : s₁.heap = h0 := by rw [← hh, Bd.state]; rfl
  have N0 := Fr.nil n0
  have KP : Keep h0 h0 [sx] := Keep.refl _ _
  refine own_start (Fin := (own_Fin s (own_QI1_4 Z x0 x1 x2 x3 G1 sx a ka h0 n0) ({ frames := 5, cells := 2, slots := 12, locals := 120 } : Room).cells ({ frames := 5, cells := 2, slots := 12, locals := 120 } : Room).slots)) (own_from (mkF m 0 #[rv sx, rv a] []) (castTop (own_ef_I1_4 m sx a)) ?_)
  refine own_to (T' := s₁) (mkF m 1 #[rv sx, rv a] [(.ref sx)]) (fun _ k => XS.aloadN X0.here hx rfl (hb hby own_d_jdk_42_method_3_0) rfl rfl k) ?_
  refine own_to (T' := s₁) (mkF m 2 #[rv sx, rv a] [(.ref a), (.ref sx)]) (fun _ k => XS.aloadN X0.here hx rfl (hb hby own_d_jdk_42_method_3_1) rfl rfl k) ?_
  refine own_to (T' := s₁) (mkF m 3 #[rv sx, rv a] [(.int (0 : Int32)), (.ref a), (.ref sx)]) (fun _ k => XS.iconst X0.here hx rfl (hb hby own_d_jdk_42_method_3_2) k) ?_
  refine own_to (T' := s₁) (mkF m 4 #[rv sx, rv a] [(.ref a), (.int (0 : Int32)), (.ref a), (.ref sx)]) (fun _ k => XS.aloadN X0.here hx rfl (hb hby own_d_jdk_42_method_3_3) rfl rfl k) ?_
  obtain ⟨cl231, Ar231, -, S231, M231, -, -⟩ := id Va
  refine own_to (mkF m 5 #[rv sx, rv a] [(.int (4 : Int32)), (.int (0 : Int32)), (.ref a), (.ref sx)]) (by have q := X0.arraylength hx (by rw [e0]; exact Ar231.1) (State.isArrayOf_alike hZ.alike Ar231.2.1) (g := (mkF m 4 #[rv sx, rv a] [(.ref a), (.int (0 : Int32)), (.ref a), (.ref sx)])) rfl rfl (hb hby own_d_jdk_42_method_3_4); rw [len_of S231 M231] at q; exact q) ?_
  refine own_to (T' := s₁) (mkF m 6 #[rv sx, rv a] [.null, (.int (4 : Int32)), (.int (0 : Int32)), (.ref a), (.ref sx)]) (fun _ k => XS.aconstNull X0.here hx rfl (hb hby own_d_jdk_42_method_3_5) k) ?_
  obtain ⟨_, _, ⟨T232, L232, k232, n232⟩, -, X232, ⟨Lc232, hQ232, l232, y232, z232⟩, st232⟩ := X0.specialBack hx (y := (⟨"java/lang/String", "<init>", "([CIILjava/lang/Void;)V"⟩ : MethodName)) rfl hown (mvT hZ (hw _ (List.mem_of_getElem? (i := 8) rfl))) (mvT hZ (hw _ (List.mem_of_getElem? (i := 9) rfl))) (mvT hZ (hw _ (List.mem_of_getElem? (i := 11) rfl))) (by decide) (backOf (W := 0) (own_rmI4_4 l Z a0 hw [] x0 x1 x2 x3 G1 sx a ka h0 n0 (Nat.le_trans Z0 KP.1) OL ge_sx ne_sx_a E_sx F_value_sx F_coder_sx hx0 hx1 hx2 hx3 Va O2 P5 OAD OHI OLO) hZ (hw _ (List.mem_of_getElem? (i := 11) rfl)) (hw _ (List.mem_of_getElem? (i := 3) rfl)) (by decide) (by decide)) (g := (mkF m 6 #[rv sx, rv a] [.null, (.int (4 : Int32)), (.int (0 : Int32)), (.ref a), (.ref sx)])) rfl (by rw [hml]; rfl) (Steps.refl _) (a := sx) (argsL := [(.ref a), (.int (0 : Int32)), (.int (4 : Int32)), .null]) (rest := []) (lenOf own_pd7 rfl) rfl (by show 2 * 0 + _ ≤ _; exact Nat.le_of_eq rfl) (hb hby own_d_jdk_42_method_3_6) (fun _ _ => ⟨rfl, e0, (by decide : 0 + 2 ≤ _), (by decide : 0 + 12 ≤ _)⟩)
  dsimp only [Pt.U, Pt.locs, Pt.cells, Pt.slots] at X232 l232 y232 z232 st232 hQ232
  subst l232 y232 z232
  obtain ⟨rfl, N232q, K232, hrest232⟩ := hQ232
  have N232 := Fr.app N0 N232q
  have OL := OL.keep K232 (allS ge_sx all0)
  have KP := KP.trans K232 (allS (Or.inl (List.mem_of_getElem? (i := 0) rfl)) all0)
  have Va := Va.keep K232 (ninS (Ne.symm ne_sx_a) nin0)
  refine own_via (mkF m 9 #[rv sx, rv a] []) st232 ?_
  exact own_ret0 X232 hx Bd.returns hlk (hb hby own_d_jdk_42_method_3_9) (by decide) (by decide) (by exact ⟨rfl, N232, KP, hrest232⟩)
def own_QCD_0 (Z : State) (G1 : Int32) (sx : Addr) (h0 : Heap) (n0 : Nat) (v : Option Value) (h : Heap) (L : List Loc) : Prop := v = some (.int (0 : Int32)) ∧ Fr n0 L ∧ h = h0
set_option maxRecDepth 65536 in
set_option maxHeartbeats 40000000 in
theorem own_rmCD_0 (l : Launch) (Z : State) (a0 : Array Value) (hw : ∀ d ∈ tables_1, d.before a0 Z = true) (ws : List Jvm.Cond) (G1 : Int32) (sx : Addr) (h0 : Heap) (n0 : Nat) (Z0 : n0 ≤ h0.size) (OL : Old Z n0 h0) (Fc : Fld Z h0 sx "java/lang/String" "coder" "B" (.int (0 : Int32))) (O2 : Sta Z Z.heap "java/lang/String" "COMPACT_STRINGS" "Z" (.int G1)) (P5 : ¬ (G1 = (0 : Int32))) :
    MetFree l (⟨"java/lang/String", "coder", "()B"⟩ : MethodName) (head1 (Jvm.Cond.code (⟨"java/lang/String", "coder", "()B"⟩ : MethodName) jdk_42_method_152_code 1 (some .byte) :: ws) ({ frames := 0, cells := 0, slots := 0, locals := 0 } : Room)) (fun aa_ U => aa_ = #[(.ref sx)] ∧ Z.Warmed39 U.vm ∧ U.heap = h0) (fun _ _ _ _ _ => True) (fun _ U o U' => ∃ v L, o = .returned v ∧ own_QCD_0 Z G1 sx h0 n0 v U'.heap L ∧ FrameEnd U o U' L ({ frames := 0, cells := 0, slots := 0, locals := 0 } : Room).cells ({ frames := 0, cells := 0, slots := 0, locals := 0 } : Room).slots) := by
  refine MetFree.of_bodySF (plainFor_of_name own_pn1) hisR ?_
  intro p e s m args below meth c s₁ Bd hml0 hP hK
  obtain ⟨rfl, hZ, hh⟩ := hP
  have hx := Bd.exec
  have hby := Bd.bytes
  have hlk : meth.locks = false := BodyLoose.notSynchronized Bd
  have hml : c.maxLocals = 1 := hml0
  have hown : s.vm.findClass "java/lang/String" = some m.cls := findClass_of_methodNamed Bd.named
  have hnm := (name_of_methodNamed Bd.named Bd.method).1
  have X0 : Stand p l e ({ frames := 0, cells := 0, slots := 0, locals := 0 } : Room) s m #[(.ref sx)] below meth c s₁ [] 0 0 := Stand.of_body Bd
  have e0 : s₁.heap = h0 := by rw [← hh, Bd.state]; rfl
  have N0 := Fr.nil n0
  have KP : Keep h0 h0 [] := Keep.refl _ _
  refine own_start (Fin := (own_Fin s (own_QCD_0 Z G1 sx h0 n0) ({ frames := 0, cells := 0, slots := 0, locals := 0 } : Room).cells ({ frames := 0, cells := 0, slots := 0, locals := 0 } : Room).slots)) (own_from (mkF m 0 #[rv sx] []) (castTop (own_ef_CD_0 m sx)) ?_)
  obtain ⟨T233, X233, e233, st233⟩ := getS2 X0 hx hZ hown (host := "") (Or.inl (hw _ (List.mem_of_getElem? (i := 15) rfl))) Via.refl e0 (O2.ext OL.2) (g := (mkF m 0 #[rv sx] [])) rfl (hb hby own_d_jdk_42_method_152_0)
  refine own_to (mkF m 3 #[rv sx] [(.int G1)]) st233 ?_
  refine own_to (T' := T233) (mkF m 6 #[rv sx] []) (fun _ k => XS.ifNo X233.here hx rfl (hb hby own_d_jdk_42_method_152_3) rfl ((if0 _ _).trans (feq P5).1) k) ?_
  refine own_to (T' := T233) (mkF m 7 #[rv sx] [(.ref sx)]) (fun _ k => XS.aloadN X233.here hx rfl (hb hby own_d_jdk_42_method_152_6) rfl rfl k) ?_
  obtain ⟨T234, X234, e234, st234⟩ := getF X233 hx hZ hown (host := "") (Or.inl (hw _ (List.mem_of_getElem? (i := 27) rfl))) Via.refl e233 Fc (g := (mkF m 7 #[rv sx] [(.ref sx)])) rfl rfl (hb hby own_d_jdk_42_method_152_7)
  refine own_to (mkF m 10 #[rv sx] [(.int (0 : Int32))]) st234 ?_
  refine own_to (T' := T234) (mkF m 14 #[rv sx] [(.int (0 : Int32))]) (fun _ k => XS.goto X234.here hx rfl (pc0 := 10) (pc' := 14) rfl (hb hby own_d_jdk_42_method_152_10) (by decide) (by decide) k) ?_
  exact own_retN X234 hx (t := .byte) Bd.returns (by simp) hlk (hb hby own_d_jdk_42_method_152_14) (by decide) (by decide) (by rw [e234]; exact ⟨rfl, N0, rfl⟩)
def own_QCD_1 (Z : State) (G1 : Int32) (sx : Addr) (h0 : Heap) (n0 : Nat) (v : Option Value) (h : Heap) (L : List Loc) : Prop := v = some (.int (1 : Int32)) ∧ Fr n0 L ∧ h = h0
set_option maxRecDepth 65536 in
set_option maxHeartbeats 40000000 in
theorem own_rmCD_1 (l : Launch) (Z : State) (a0 : Array Value) (hw : ∀ d ∈ tables_1, d.before a0 Z = true) (ws : List Jvm.Cond) (G1 : Int32) (sx : Addr) (h0 : Heap) (n0 : Nat) (Z0 : n0 ≤ h0.size) (OL : Old Z n0 h0) (Fc : Fld Z h0 sx "java/lang/String" "coder" "B" (.int (1 : Int32))) (O2 : Sta Z Z.heap "java/lang/String" "COMPACT_STRINGS" "Z" (.int G1)) (P5 : ¬ (G1 = (0 : Int32))) :
    MetFree l (⟨"java/lang/String", "coder", "()B"⟩ : MethodName) (head1 (Jvm.Cond.code (⟨"java/lang/String", "coder", "()B"⟩ : MethodName) jdk_42_method_152_code 1 (some .byte) :: ws) ({ frames := 0, cells := 0, slots := 0, locals := 0 } : Room)) (fun aa_ U => aa_ = #[(.ref sx)] ∧ Z.Warmed39 U.vm ∧ U.heap = h0) (fun _ _ _ _ _ => True) (fun _ U o U' => ∃ v L, o = .returned v ∧ own_QCD_1 Z G1 sx h0 n0 v U'.heap L ∧ FrameEnd U o U' L ({ frames := 0, cells := 0, slots := 0, locals := 0 } : Room).cells ({ frames := 0, cells := 0, slots := 0, locals := 0 } : Room).slots) := by
  refine MetFree.of_bodySF (plainFor_of_name own_pn1) hisR ?_
  intro p e s m args below meth c s₁ Bd hml0 hP hK
  obtain ⟨rfl, hZ, hh⟩ := hP
  have hx := Bd.exec
  have hby := Bd.bytes
  have hlk : meth.locks = false := BodyLoose.notSynchronized Bd
  have hml : c.maxLocals = 1 := hml0
  have hown : s.vm.findClass "java/lang/String" = some m.cls := findClass_of_methodNamed Bd.named
  have hnm := (name_of_methodNamed Bd.named Bd.method).1
  have X0 : Stand p l e ({ frames := 0, cells := 0, slots := 0, locals := 0 } : Room) s m #[(.ref sx)] below meth c s₁ [] 0 0 := Stand.of_body Bd
  have e0 : s₁.heap = h0 := by rw [← hh, Bd.state]; rfl
  have N0 := Fr.nil n0
  have KP : Keep h0 h0 [] := Keep.refl _ _
  refine own_start (Fin := (own_Fin s (own_QCD_1 Z G1 sx h0 n0) ({ frames := 0, cells := 0, slots := 0, locals := 0 } : Room).cells ({ frames := 0, cells := 0, slots := 0, locals := 0 } : Room).slots)) (own_from (mkF m 0 #[rv sx] []) (castTop (own_ef_CD_1 m sx)) ?_)
  obtain ⟨T235, X235, e235, st235⟩ := getS2 X0 hx hZ hown (host := "") (Or.inl (hw _ (List.mem_of_getElem? (i := 15) rfl))) Via.refl e0 (O2.ext OL.2) (g := (mkF m 0 #[rv sx] [])) rfl (hb hby own_d_jdk_42_method_152_0)
  refine own_to (mkF m 3 #[rv sx] [(.int G1)]) st235 ?_
  refine own_to (T' := T235) (mkF m 6 #[rv sx] []) (fun _ k => XS.ifNo X235.here hx rfl (hb hby own_d_jdk_42_method_152_3) rfl ((if0 _ _).trans (feq P5).1) k) ?_
  refine own_to (T' := T235) (mkF m 7 #[rv sx] [(.ref sx)]) (fun _ k => XS.aloadN X235.here hx rfl (hb hby own_d_jdk_42_method_152_6) rfl rfl k) ?_
  obtain ⟨T236, X236, e236, st236⟩ := getF X235 hx hZ hown (host := "") (Or.inl (hw _ (List.mem_of_getElem? (i := 27) rfl))) Via.refl e235 Fc (g := (mkF m 7 #[rv sx] [(.ref sx)])) rfl rfl (hb hby own_d_jdk_42_method_152_7)
  refine own_to (mkF m 10 #[rv sx] [(.int (1 : Int32))]) st236 ?_
  refine own_to (T' := T236) (mkF m 14 #[rv sx] [(.int (1 : Int32))]) (fun _ k => XS.goto X236.here hx rfl (pc0 := 10) (pc' := 14) rfl (hb hby own_d_jdk_42_method_152_10) (by decide) (by decide) k) ?_
  exact own_retN X236 hx (t := .byte) Bd.returns (by simp) hlk (hb hby own_d_jdk_42_method_152_14) (by decide) (by decide) (by rw [e236]; exact ⟨rfl, N0, rfl⟩)
def own_QLN_1 (Z : State) (G1 : Int32) (sx tx : Addr) (h0 : Heap) (n0 : Nat) (v : Option Value) (h : Heap) (L : List Loc) : Prop := v = some (.int (1 : Int32)) ∧ Fr n0 L ∧ h = h0
set_option maxRecDepth 65536 in
set_option maxHeartbeats 40000000 in
theorem own_rmLN_1 (l : Launch) (Z : State) (a0 : Array Value) (hw : ∀ d ∈ tables_1, d.before a0 Z = true) (ws : List Jvm.Cond) (G1 : Int32) (sx tx : Addr) (h0 : Heap) (n0 : Nat) (Z0 : n0 ≤ h0.size) (OL : Old Z n0 h0) (SL : own_StrL Z h0 sx tx (1 : Int32) (2 : Int32)) (O2 : Sta Z Z.heap "java/lang/String" "COMPACT_STRINGS" "Z" (.int G1)) (P5 : ¬ (G1 = (0 : Int32))) :
    MetFree l (⟨"java/lang/String", "length", "()I"⟩ : MethodName) (head1 (Jvm.Cond.code (⟨"java/lang/String", "length", "()I"⟩ : MethodName) jdk_42_method_54_code 1 (some .int) :: ws) ({ frames := 1, cells := 0, slots := 0, locals := 20 } : Room)) (fun aa_ U => aa_ = #[(.ref sx)] ∧ Z.Warmed39 U.vm ∧ U.heap = h0) (fun _ _ _ _ _ => True) (fun _ U o U' => ∃ v L, o = .returned v ∧ own_QLN_1 Z G1 sx tx h0 n0 v U'.heap L ∧ FrameEnd U o U' L ({ frames := 1, cells := 0, slots := 0, locals := 20 } : Room).cells ({ frames := 1, cells := 0, slots := 0, locals := 20 } : Room).slots) := by
  refine MetFree.of_bodySF (plainFor_of_name own_pn1) hisR ?_
  intro p e s m args below meth c s₁ Bd hml0 hP hK
  obtain ⟨rfl, hZ, hh⟩ := hP
  have hx := Bd.exec
  have hby := Bd.bytes
  have hlk : meth.locks = false := BodyLoose.notSynchronized Bd
  have hml : c.maxLocals = 1 := hml0
  have hown : s.vm.findClass "java/lang/String" = some m.cls := findClass_of_methodNamed Bd.named
  have hnm := (name_of_methodNamed Bd.named Bd.method).1
  have X0 : Stand p l e ({ frames := 1, cells := 0, slots := 0, locals := 20 } : Room) s m #[(.ref sx)] below meth c s₁ [] 0 0 := Stand.of_body Bd
  have e0 : s₁.heap = h0 := by rw [← hh, Bd.state]; rfl
  have N0 := Fr.nil n0
  have KP : Keep h0 h0 [] := Keep.refl _ _
  refine own_start (Fin := (own_Fin s (own_QLN_1 Z G1 sx tx h0 n0) ({ frames := 1, cells := 0, slots := 0, locals := 20 } : Room).cells ({ frames := 1, cells := 0, slots := 0, locals := 20 } : Room).slots)) (own_from (mkF m 0 #[rv sx] []) (castTop (own_ef_LN_1 m sx)) ?_)
  obtain ⟨kb, cd, N, vs, ⟨E_sx, Fv, Fc, Va⟩, hor⟩ := SL
  rcases hor with ⟨q1, q⟩ | ⟨q1, q⟩
  · subst q
    subst q1
    refine own_to (T' := s₁) (mkF m 1 #[rv sx] [(.ref sx)]) (fun _ k => XS.aloadN X0.here hx rfl (hb hby own_d_jdk_42_method_54_0) rfl rfl k) ?_
    obtain ⟨T237, X237, e237, st237⟩ := getF X0 hx hZ hown (host := "") (Or.inl (hw _ (List.mem_of_getElem? (i := 29) rfl))) Via.refl e0 Fv (g := (mkF m 1 #[rv sx] [(.ref sx)])) rfl rfl (hb hby own_d_jdk_42_method_54_1)
    refine own_to (mkF m 4 #[rv sx] [(.ref tx)]) st237 ?_
    obtain ⟨cl238, Ar238, -, S238, M238, -, -⟩ := id Va
    refine own_to (mkF m 5 #[rv sx] [(.int (1 : Int32))]) (by have q := X237.arraylength hx (by rw [e237]; exact Ar238.1) (State.isArrayOf_alike hZ.alike Ar238.2.1) (g := (mkF m 4 #[rv sx] [(.ref tx)])) rfl rfl (hb hby own_d_jdk_42_method_54_4); rw [len_of S238 M238] at q; exact q) ?_
    refine own_to (T' := T237) (mkF m 6 #[rv sx] [(.ref sx), (.int (1 : Int32))]) (fun _ k => XS.aloadN X237.here hx rfl (hb hby own_d_jdk_42_method_54_5) rfl rfl k) ?_
    obtain ⟨cq239, kq239, q239a, q239b, q239c⟩ := isOf hZ e237 E_sx
    obtain ⟨_, _, ⟨T239, L239, k239, n239⟩, -, X239, ⟨Lc239, hQ239, l239, y239, z239⟩, st239⟩ := X237.virtualBack hx (y := (⟨"java/lang/String", "coder", "()B"⟩ : MethodName)) (z := (⟨"java/lang/String", "coder", "()B"⟩ : MethodName)) hown (mvT hZ (hw _ (List.mem_of_getElem? (i := 64) rfl))) (mvT hZ (hw _ (List.mem_of_getElem? (i := 65) rfl))) (notFace_of_selects (args := #[]) (mvT hZ (hw _ (List.mem_of_getElem? (i := 67) rfl)))) (mvT hZ (hw _ (List.mem_of_getElem? (i := 67) rfl))) (mvT hZ (hw _ (List.mem_of_getElem? (i := 66) rfl))) (by decide) (backOf (W := 1) (own_rmCD_0 l Z a0 hw [] G1 sx h0 n0 (Nat.le_trans Z0 KP.1) OL Fc O2 P5) hZ (hw _ (List.mem_of_getElem? (i := 68) rfl)) (hw _ (List.mem_of_getElem? (i := 3) rfl)) (by decide) (by decide)) q239a q239c (g := (mkF m 6 #[rv sx] [(.ref sx), (.int (1 : Int32))])) rfl (by rw [hml]; rfl) (Steps.refl _) (argsL := []) (rest := [(.int (1 : Int32))]) (lenOf own_pd8 rfl) rfl (by show 2 * 0 + _ ≤ _; exact Nat.le_of_eq rfl) (hb hby own_d_jdk_42_method_54_6) (fun _ _ => ⟨rfl, e237, (by decide : 0 + 0 ≤ _), (by decide : 0 + 0 ≤ _)⟩)
    dsimp only [Pt.U, Pt.locs, Pt.cells, Pt.slots] at X239 l239 y239 z239 st239 hQ239
    subst l239 y239 z239
    obtain ⟨rfl, N239q, e239⟩ := hQ239
    have N239 := Fr.app N0 N239q
    refine own_via (mkF m 9 #[rv sx] [(.int (0 : Int32)), (.int (1 : Int32))]) st239 ?_
    refine own_to (T' := T239) (mkF m 10 #[rv sx] [(.int (1 : Int32))]) (fun _ k => XS.ishr X239.here hx rfl (hb hby own_d_jdk_42_method_54_9) rfl k) ?_
    exact own_retI X239 hx Bd.returns hlk (hb hby own_d_jdk_42_method_54_10) (by decide) (by decide) (by rw [e239]; exact ⟨rfl, N239, rfl⟩)
  · subst q
    subst q1
    refine own_to (T' := s₁) (mkF m 1 #[rv sx] [(.ref sx)]) (fun _ k => XS.aloadN X0.here hx rfl (hb hby own_d_jdk_42_method_54_0) rfl rfl k) ?_
    obtain ⟨T240, X240, e240, st240⟩ := getF X0 hx hZ hown (host := "") (Or.inl (hw _ (List.mem_of_getElem? (i := 29) rfl))) Via.refl e0 Fv (g := (mkF m 1 #[rv sx] [(.ref sx)])) rfl rfl (hb hby own_d_jdk_42_method_54_1)
    refine own_to (mkF m 4 #[rv sx] [(.ref tx)]) st240 ?_
    obtain ⟨cl241, Ar241, -, S241, M241, -, -⟩ := id Va
    refine own_to (mkF m 5 #[rv sx] [(.int (2 : Int32))]) (by have q := X240.arraylength hx (by rw [e240]; exact Ar241.1) (State.isArrayOf_alike hZ.alike Ar241.2.1) (g := (mkF m 4 #[rv sx] [(.ref tx)])) rfl rfl (hb hby own_d_jdk_42_method_54_4); rw [len_of S241 M241] at q; exact q) ?_
    refine own_to (T' := T240) (mkF m 6 #[rv sx] [(.ref sx), (.int (2 : Int32))]) (fun _ k => XS.aloadN X240.here hx rfl (hb hby own_d_jdk_42_method_54_5) rfl rfl k) ?_
    obtain ⟨cq242, kq242, q242a, q242b, q242c⟩ := isOf hZ e240 E_sx
    obtain ⟨_, _, ⟨T242, L242, k242, n242⟩, -, X242, ⟨Lc242, hQ242, l242, y242, z242⟩, st242⟩ := X240.virtualBack hx (y := (⟨"java/lang/String", "coder", "()B"⟩ : MethodName)) (z := (⟨"java/lang/String", "coder", "()B"⟩ : MethodName)) hown (mvT hZ (hw _ (List.mem_of_getElem? (i := 64) rfl))) (mvT hZ (hw _ (List.mem_of_getElem? (i := 65) rfl))) (notFace_of_selects (args := #[]) (mvT hZ (hw _ (List.mem_of_getElem? (i := 67) rfl)))) (mvT hZ (hw _ (List.mem_of_getElem? (i := 67) rfl))) (mvT hZ (hw _ (List.mem_of_getElem? (i := 66) rfl))) (by decide) (backOf (W := 1) (own_rmCD_1 l Z a0 hw [] G1 sx h0 n0 (Nat.le_trans Z0 KP.1) OL Fc O2 P5) hZ (hw _ (List.mem_of_getElem? (i := 68) rfl)) (hw _ (List.mem_of_getElem? (i := 3) rfl)) (by decide) (by decide)) q242a q242c (g := (mkF m 6 #[rv sx] [(.ref sx), (.int (2 : Int32))])) rfl (by rw [hml]; rfl) (Steps.refl _) (argsL := []) (rest := [(.int (2 : Int32))]) (lenOf own_pd8 rfl) rfl (by show 2 * 0 + _ ≤ _; exact Nat.le_of_eq rfl) (hb hby own_d_jdk_42_method_54_6) (fun _ _ => ⟨rfl, e240, (by decide : 0 + 0 ≤ _), (by decide : 0 + 0 ≤ _)⟩)
    dsimp only [Pt.U, Pt.locs, Pt.cells, Pt.slots] at X242 l242 y242 z242 st242 hQ242
    subst l242 y242 z242
    obtain ⟨rfl, N242q, e242⟩ := hQ242
    have N242 := Fr.app N0 N242q
    refine own_via (mkF m 9 #[rv sx] [(.int (1 : Int32)), (.int (2 : Int32))]) st242 ?_
    refine own_to (T' := T242) (mkF m 10 #[rv sx] [(.int (1 : Int32))]) (fun _ k => XS.ishr X242.here hx rfl (hb hby own_d_jdk_42_method_54_9) rfl k) ?_
    exact own_retI X242 hx Bd.returns hlk (hb hby own_d_jdk_42_method_54_10) (by decide) (by decide) (by rw [e242]; exact ⟨rfl, N242, rfl⟩)
def own_QEM_1 (Z : State) (G1 : Int32) (sx tx : Addr) (h0 : Heap) (n0 : Nat) (v : Option Value) (h : Heap) (L : List Loc) : Prop := v = some (.int (0 : Int32)) ∧ Fr n0 L ∧ h = h0
set_option maxRecDepth 65536 in
set_option maxHeartbeats 40000000 in
theorem own_rmEM_1 (l : Launch) (Z : State) (a0 : Array Value) (hw : ∀ d ∈ tables_1, d.before a0 Z = true) (ws : List Jvm.Cond) (G1 : Int32) (sx tx : Addr) (h0 : Heap) (n0 : Nat) (Z0 : n0 ≤ h0.size) (OL : Old Z n0 h0) (SL : own_StrL Z h0 sx tx (1 : Int32) (2 : Int32)) (O2 : Sta Z Z.heap "java/lang/String" "COMPACT_STRINGS" "Z" (.int G1)) (P5 : ¬ (G1 = (0 : Int32))) :
    MetFree l (⟨"java/lang/String", "isEmpty", "()Z"⟩ : MethodName) (head1 (Jvm.Cond.code (⟨"java/lang/String", "isEmpty", "()Z"⟩ : MethodName) jdk_42_method_55_code 1 (some .boolean) :: ws) ({ frames := 0, cells := 0, slots := 0, locals := 0 } : Room)) (fun aa_ U => aa_ = #[(.ref sx)] ∧ Z.Warmed39 U.vm ∧ U.heap = h0) (fun _ _ _ _ _ => True) (fun _ U o U' => ∃ v L, o = .returned v ∧ own_QEM_1 Z G1 sx tx h0 n0 v U'.heap L ∧ FrameEnd U o U' L ({ frames := 0, cells := 0, slots := 0, locals := 0 } : Room).cells ({ frames := 0, cells := 0, slots := 0, locals := 0 } : Room).slots) := by
  refine MetFree.of_bodySF (plainFor_of_name own_pn1) hisR ?_
  intro p e s m args below meth c s₁ Bd hml0 hP hK
  obtain ⟨rfl, hZ, hh⟩ := hP
  have hx := Bd.exec
  have hby := Bd.bytes
  have hlk : meth.locks = false := BodyLoose.notSynchronized Bd
  have hml : c.maxLocals = 1 := hml0
  have hown : s.vm.findClass "java/lang/String" = some m.cls := findClass_of_methodNamed Bd.named
  have hnm := (name_of_methodNamed Bd.named Bd.method).1
  have X0 : Stand p l e ({ frames := 0, cells := 0, slots := 0, locals := 0 } : Room) s m #[(.ref sx)] below meth c s₁ [] 0 0 := Stand.of_body Bd
  have e0 : s₁.heap = h0 := by rw [← hh, Bd.state]; rfl
  have N0 := Fr.nil n0
  have KP : Keep h0 h0 [] := Keep.refl _ _
  refine own_start (Fin := (own_Fin s (own_QEM_1 Z G1 sx tx h0 n0) ({ frames := 0, cells := 0, slots := 0, locals := 0 } : Room).cells ({ frames := 0, cells := 0, slots := 0, locals := 0 } : Room).slots)) (own_from (mkF m 0 #[rv sx] []) (castTop (own_ef_EM_1 m sx)) ?_)
  obtain ⟨kb, cd, N, vs, ⟨E_sx, Fv, Fc, Va⟩, hor⟩ := SL
  rcases hor with ⟨q1, q⟩ | ⟨q1, q⟩
  · subst q
    subst q1
    refine own_to (T' := s₁) (mkF m 1 #[rv sx] [(.ref sx)]) (fun _ k => XS.aloadN X0.here hx rfl (hb hby own_d_jdk_42_method_55_0) rfl rfl k) ?_
    obtain ⟨T243, X243, e243, st243⟩ := getF X0 hx hZ hown (host := "") (Or.inl (hw _ (List.mem_of_getElem? (i := 29) rfl))) Via.refl e0 Fv (g := (mkF m 1 #[rv sx] [(.ref sx)])) rfl rfl (hb hby own_d_jdk_42_method_55_1)
    refine own_to (mkF m 4 #[rv sx] [(.ref tx)]) st243 ?_
    obtain ⟨cl244, Ar244, -, S244, M244, -, -⟩ := id Va
    refine own_to (mkF m 5 #[rv sx] [(.int (1 : Int32))]) (by have q := X243.arraylength hx (by rw [e243]; exact Ar244.1) (State.isArrayOf_alike hZ.alike Ar244.2.1) (g := (mkF m 4 #[rv sx] [(.ref tx)])) rfl rfl (hb hby own_d_jdk_42_method_55_4); rw [len_of S244 M244] at q; exact q) ?_
    refine own_to (T' := T243) (mkF m 12 #[rv sx] []) (fun _ k => XS.ifYes X243.here hx rfl (pc0 := 5) (pc' := 12) rfl (hb hby own_d_jdk_42_method_55_5) rfl ((if0 _ _).trans (feq (by decide : ¬ ((1 : Int32) = (0 : Int32)))).2) (by decide) (by decide) k) ?_
    refine own_to (T' := T243) (mkF m 13 #[rv sx] [(.int (0 : Int32))]) (fun _ k => XS.iconst X243.here hx rfl (hb hby own_d_jdk_42_method_55_12) k) ?_
    exact own_retN X243 hx (t := .boolean) Bd.returns (by simp) hlk (hb hby own_d_jdk_42_method_55_13) (by decide) (by decide) (by rw [e243]; exact ⟨rfl, N0, rfl⟩)
  · subst q
    subst q1
    refine own_to (T' := s₁) (mkF m 1 #[rv sx] [(.ref sx)]) (fun _ k => XS.aloadN X0.here hx rfl (hb hby own_d_jdk_42_method_55_0) rfl rfl k) ?_
    obtain ⟨T245, X245, e245, st245⟩ := getF X0 hx hZ hown (host := "") (Or.inl (hw _ (List.mem_of_getElem? (i := 29) rfl))) Via.refl e0 Fv (g := (mkF m 1 #[rv sx] [(.ref sx)])) rfl rfl (hb hby own_d_jdk_42_method_55_1)
    refine own_to (mkF m 4 #[rv sx] [(.ref tx)]) st245 ?_
    obtain ⟨cl246, Ar246, -, S246, M246, -, -⟩ := id Va
    refine own_to (mkF m 5 #[rv sx] [(.int (2 : Int32))]) (by have q := X245.arraylength hx (by rw [e245]; exact Ar246.1) (State.isArrayOf_alike hZ.alike Ar246.2.1) (g := (mkF m 4 #[rv sx] [(.ref tx)])) rfl rfl (hb hby own_d_jdk_42_method_55_4); rw [len_of S246 M246] at q; exact q) ?_
    refine own_to (T' := T245) (mkF m 12 #[rv sx] []) (fun _ k => XS.ifYes X245.here hx rfl (pc0 := 5) (pc' := 12) rfl (hb hby own_d_jdk_42_method_55_5) rfl ((if0 _ _).trans (feq (by decide : ¬ ((2 : Int32) = (0 : Int32)))).2) (by decide) (by decide) k) ?_
    refine own_to (T' := T245) (mkF m 13 #[rv sx] [(.int (0 : Int32))]) (fun _ k => XS.iconst X245.here hx rfl (hb hby own_d_jdk_42_method_55_12) k) ?_
    exact own_retN X245 hx (t := .boolean) Bd.returns (by simp) hlk (hb hby own_d_jdk_42_method_55_13) (by decide) (by decide) (by rw [e245]; exact ⟨rfl, N0, rfl⟩)
def own_QLN_2 (Z : State) (G1 : Int32) (sx tx : Addr) (h0 : Heap) (n0 : Nat) (v : Option Value) (h : Heap) (L : List Loc) : Prop := v = some (.int (2 : Int32)) ∧ Fr n0 L ∧ h = h0
set_option maxRecDepth 65536 in
set_option maxHeartbeats 40000000 in
theorem own_rmLN_2 (l : Launch) (Z : State) (a0 : Array Value) (hw : ∀ d ∈ tables_1, d.before a0 Z = true) (ws : List Jvm.Cond) (G1 : Int32) (sx tx : Addr) (h0 : Heap) (n0 : Nat) (Z0 : n0 ≤ h0.size) (OL : Old Z n0 h0) (SL : own_StrL Z h0 sx tx (2 : Int32) (4 : Int32)) (O2 : Sta Z Z.heap "java/lang/String" "COMPACT_STRINGS" "Z" (.int G1)) (P5 : ¬ (G1 = (0 : Int32))) :
    MetFree l (⟨"java/lang/String", "length", "()I"⟩ : MethodName) (head1 (Jvm.Cond.code (⟨"java/lang/String", "length", "()I"⟩ : MethodName) jdk_42_method_54_code 1 (some .int) :: ws) ({ frames := 1, cells := 0, slots := 0, locals := 20 } : Room)) (fun aa_ U => aa_ = #[(.ref sx)] ∧ Z.Warmed39 U.vm ∧ U.heap = h0) (fun _ _ _ _ _ => True) (fun _ U o U' => ∃ v L, o = .returned v ∧ own_QLN_2 Z G1 sx tx h0 n0 v U'.heap L ∧ FrameEnd U o U' L ({ frames := 1, cells := 0, slots := 0, locals := 20 } : Room).cells ({ frames := 1, cells := 0, slots := 0, locals := 20 } : Room).slots) := by
  refine MetFree.of_bodySF (plainFor_of_name own_pn1) hisR ?_
  intro p e s m args below meth c s₁ Bd hml0 hP hK
  obtain ⟨rfl, hZ, hh⟩ := hP
  have hx := Bd.exec
  have hby := Bd.bytes
  have hlk : meth.locks = false := BodyLoose.notSynchronized Bd
  have hml : c.maxLocals = 1 := hml0
  have hown : s.vm.findClass "java/lang/String" = some m.cls := findClass_of_methodNamed Bd.named
  have hnm := (name_of_methodNamed Bd.named Bd.method).1
  have X0 : Stand p l e ({ frames := 1, cells := 0, slots := 0, locals := 20 } : Room) s m #[(.ref sx)] below meth c s₁ [] 0 0 := Stand.of_body Bd
  have e0 : s₁.heap = h0 := by rw [← hh, Bd.state]; rfl
  have N0 := Fr.nil n0
  have KP : Keep h0 h0 [] := Keep.refl _ _
  refine own_start (Fin := (own_Fin s (own_QLN_2 Z G1 sx tx h0 n0) ({ frames := 1, cells := 0, slots := 0, locals := 20 } : Room).cells ({ frames := 1, cells := 0, slots := 0, locals := 20 } : Room).slots)) (own_from (mkF m 0 #[rv sx] []) (castTop (own_ef_LN_2 m sx)) ?_)
  obtain ⟨kb, cd, N, vs, ⟨E_sx, Fv, Fc, Va⟩, hor⟩ := SL
  rcases hor with ⟨q1, q⟩ | ⟨q1, q⟩
  · subst q
    subst q1
    refine own_to (T' := s₁) (mkF m 1 #[rv sx] [(.ref sx)]) (fun _ k => XS.aloadN X0.here hx rfl (hb hby own_d_jdk_42_method_54_0) rfl rfl k) ?_
    obtain ⟨T247, X247, e247, st247⟩ := getF X0 hx hZ hown (host := "") (Or.inl (hw _ (List.mem_of_getElem? (i := 29) rfl))) Via.refl e0 Fv (g := (mkF m 1 #[rv sx] [(.ref sx)])) rfl rfl (hb hby own_d_jdk_42_method_54_1)
    refine own_to (mkF m 4 #[rv sx] [(.ref tx)]) st247 ?_
    obtain ⟨cl248, Ar248, -, S248, M248, -, -⟩ := id Va
    refine own_to (mkF m 5 #[rv sx] [(.int (2 : Int32))]) (by have q := X247.arraylength hx (by rw [e247]; exact Ar248.1) (State.isArrayOf_alike hZ.alike Ar248.2.1) (g := (mkF m 4 #[rv sx] [(.ref tx)])) rfl rfl (hb hby own_d_jdk_42_method_54_4); rw [len_of S248 M248] at q; exact q) ?_
    refine own_to (T' := T247) (mkF m 6 #[rv sx] [(.ref sx), (.int (2 : Int32))]) (fun _ k => XS.aloadN X247.here hx rfl (hb hby own_d_jdk_42_method_54_5) rfl rfl k) ?_
    obtain ⟨cq249, kq249, q249a, q249b, q249c⟩ := isOf hZ e247 E_sx
    obtain ⟨_, _, ⟨T249, L249, k249, n249⟩, -, X249, ⟨Lc249, hQ249, l249, y249, z249⟩, st249⟩ := X247.virtualBack hx (y := (⟨"java/lang/String", "coder", "()B"⟩ : MethodName)) (z := (⟨"java/lang/String", "coder", "()B"⟩ : MethodName)) hown (mvT hZ (hw _ (List.mem_of_getElem? (i := 64) rfl))) (mvT hZ (hw _ (List.mem_of_getElem? (i := 65) rfl))) (notFace_of_selects (args := #[]) (mvT hZ (hw _ (List.mem_of_getElem? (i := 67) rfl)))) (mvT hZ (hw _ (List.mem_of_getElem? (i := 67) rfl))) (mvT hZ (hw _ (List.mem_of_getElem? (i := 66) rfl))) (by decide) (backOf (W := 1) (own_rmCD_0 l Z a0 hw [] G1 sx h0 n0 (Nat.le_trans Z0 KP.1) OL Fc O2 P5) hZ (hw _ (List.mem_of_getElem? (i := 68) rfl)) (hw _ (List.mem_of_getElem? (i := 3) rfl)) (by decide) (by decide)) q249a q249c (g := (mkF m 6 #[rv sx] [(.ref sx), (.int (2 : Int32))])) rfl (by rw [hml]; rfl) (Steps.refl _) (argsL := []) (rest := [(.int (2 : Int32))]) (lenOf own_pd8 rfl) rfl (by show 2 * 0 + _ ≤ _; exact Nat.le_of_eq rfl) (hb hby own_d_jdk_42_method_54_6) (fun _ _ => ⟨rfl, e247, (by decide : 0 + 0 ≤ _), (by decide : 0 + 0 ≤ _)⟩)
    dsimp only [Pt.U, Pt.locs, Pt.cells, Pt.slots] at X249 l249 y249 z249 st249 hQ249
    subst l249 y249 z249
    obtain ⟨rfl, N249q, e249⟩ := hQ249
    have N249 := Fr.app N0 N249q
    refine own_via (mkF m 9 #[rv sx] [(.int (0 : Int32)), (.int (2 : Int32))]) st249 ?_
    refine own_to (T' := T249) (mkF m 10 #[rv sx] [(.int (2 : Int32))]) (fun _ k => XS.ishr X249.here hx rfl (hb hby own_d_jdk_42_method_54_9) rfl k) ?_
    exact own_retI X249 hx Bd.returns hlk (hb hby own_d_jdk_42_method_54_10) (by decide) (by decide) (by rw [e249]; exact ⟨rfl, N249, rfl⟩)
  · subst q
    subst q1
    refine own_to (T' := s₁) (mkF m 1 #[rv sx] [(.ref sx)]) (fun _ k => XS.aloadN X0.here hx rfl (hb hby own_d_jdk_42_method_54_0) rfl rfl k) ?_
    obtain ⟨T250, X250, e250, st250⟩ := getF X0 hx hZ hown (host := "") (Or.inl (hw _ (List.mem_of_getElem? (i := 29) rfl))) Via.refl e0 Fv (g := (mkF m 1 #[rv sx] [(.ref sx)])) rfl rfl (hb hby own_d_jdk_42_method_54_1)
    refine own_to (mkF m 4 #[rv sx] [(.ref tx)]) st250 ?_
    obtain ⟨cl251, Ar251, -, S251, M251, -, -⟩ := id Va
    refine own_to (mkF m 5 #[rv sx] [(.int (4 : Int32))]) (by have q := X250.arraylength hx (by rw [e250]; exact Ar251.1) (State.isArrayOf_alike hZ.alike Ar251.2.1) (g := (mkF m 4 #[rv sx] [(.ref tx)])) rfl rfl (hb hby own_d_jdk_42_method_54_4); rw [len_of S251 M251] at q; exact q) ?_
    refine own_to (T' := T250) (mkF m 6 #[rv sx] [(.ref sx), (.int (4 : Int32))]) (fun _ k => XS.aloadN X250.here hx rfl (hb hby own_d_jdk_42_method_54_5) rfl rfl k) ?_
    obtain ⟨cq252, kq252, q252a, q252b, q252c⟩ := isOf hZ e250 E_sx
    obtain ⟨_, _, ⟨T252, L252, k252, n252⟩, -, X252, ⟨Lc252, hQ252, l252, y252, z252⟩, st252⟩ := X250.virtualBack hx (y := (⟨"java/lang/String", "coder", "()B"⟩ : MethodName)) (z := (⟨"java/lang/String", "coder", "()B"⟩ : MethodName)) hown (mvT hZ (hw _ (List.mem_of_getElem? (i := 64) rfl))) (mvT hZ (hw _ (List.mem_of_getElem? (i := 65) rfl))) (notFace_of_selects (args := #[]) (mvT hZ (hw _ (List.mem_of_getElem? (i := 67) rfl)))) (mvT hZ (hw _ (List.mem_of_getElem? (i := 67) rfl))) (mvT hZ (hw _ (List.mem_of_getElem? (i := 66) rfl))) (by decide) (backOf (W := 1) (own_rmCD_1 l Z a0 hw [] G1 sx h0 n0 (Nat.le_trans Z0 KP.1) OL Fc O2 P5) hZ (hw _ (List.mem_of_getElem? (i := 68) rfl)) (hw _ (List.mem_of_getElem? (i := 3) rfl)) (by decide) (by decide)) q252a q252c (g := (mkF m 6 #[rv sx] [(.ref sx), (.int (4 : Int32))])) rfl (by rw [hml]; rfl) (Steps.refl _) (argsL := []) (rest := [(.int (4 : Int32))]) (lenOf own_pd8 rfl) rfl (by show 2 * 0 + _ ≤ _; exact Nat.le_of_eq rfl) (hb hby own_d_jdk_42_method_54_6) (fun _ _ => ⟨rfl, e250, (by decide : 0 + 0 ≤ _), (by decide : 0 + 0 ≤ _)⟩)
    dsimp only [Pt.U, Pt.locs, Pt.cells, Pt.slots] at X252 l252 y252 z252 st252 hQ252
    subst l252 y252 z252
    obtain ⟨rfl, N252q, e252⟩ := hQ252
    have N252 := Fr.app N0 N252q
    refine own_via (mkF m 9 #[rv sx] [(.int (1 : Int32)), (.int (4 : Int32))]) st252 ?_
    refine own_to (T' := T252) (mkF m 10 #[rv sx] [(.int (2 : Int32))]) (fun _ k => XS.ishr X252.here hx rfl (hb hby own_d_jdk_42_method_54_9) rfl k) ?_
    exact own_retI X252 hx Bd.returns hlk (hb hby own_d_jdk_42_method_54_10) (by decide) (by decide) (by rw [e252]; exact ⟨rfl, N252, rfl⟩)
def own_QEM_2 (Z : State) (G1 : Int32) (sx tx : Addr) (h0 : Heap) (n0 : Nat) (v : Option Value) (h : Heap) (L : List Loc) : Prop := v = some (.int (0 : Int32)) ∧ Fr n0 L ∧ h = h0
set_option maxRecDepth 65536 in
set_option maxHeartbeats 40000000 in
theorem own_rmEM_2 (l : Launch) (Z : State) (a0 : Array Value) (hw : ∀ d ∈ tables_1, d.before a0 Z = true) (ws : List Jvm.Cond) (G1 : Int32) (sx tx : Addr) (h0 : Heap) (n0 : Nat) (Z0 : n0 ≤ h0.size) (OL : Old Z n0 h0) (SL : own_StrL Z h0 sx tx (2 : Int32) (4 : Int32)) (O2 : Sta Z Z.heap "java/lang/String" "COMPACT_STRINGS" "Z" (.int G1)) (P5 : ¬ (G1 = (0 : Int32))) :
    MetFree l (⟨"java/lang/String", "isEmpty", "()Z"⟩ : MethodName) (head1 (Jvm.Cond.code (⟨"java/lang/String", "isEmpty", "()Z"⟩ : MethodName) jdk_42_method_55_code 1 (some .boolean) :: ws) ({ frames := 0, cells := 0, slots := 0, locals := 0 } : Room)) (fun aa_ U => aa_ = #[(.ref sx)] ∧ Z.Warmed39 U.vm ∧ U.heap = h0) (fun _ _ _ _ _ => True) (fun _ U o U' => ∃ v L, o = .returned v ∧ own_QEM_2 Z G1 sx tx h0 n0 v U'.heap L ∧ FrameEnd U o U' L ({ frames := 0, cells := 0, slots := 0, locals := 0 } : Room).cells ({ frames := 0, cells := 0, slots := 0, locals := 0 } : Room).slots) := by
  refine MetFree.of_bodySF (plainFor_of_name own_pn1) hisR ?_
  intro p e s m args below meth c s₁ Bd hml0 hP hK
  obtain ⟨rfl, hZ, hh⟩ := hP
  have hx := Bd.exec
  have hby := Bd.bytes
  have hlk : meth.locks = false := BodyLoose.notSynchronized Bd
  have hml : c.maxLocals = 1 := hml0
  have hown : s.vm.findClass "java/lang/String" = some m.cls := findClass_of_methodNamed Bd.named
  have hnm := (name_of_methodNamed Bd.named Bd.method).1
  have X0 : Stand p l e ({ frames := 0, cells := 0, slots := 0, locals := 0 } : Room) s m #[(.ref sx)] below meth c s₁ [] 0 0 := Stand.of_body Bd
  have e0 : s₁.heap = h0 := by rw [← hh, Bd.state]; rfl
  have N0 := Fr.nil n0
  have KP : Keep h0 h0 [] := Keep.refl _ _
  refine own_start (Fin := (own_Fin s (own_QEM_2 Z G1 sx tx h0 n0) ({ frames := 0, cells := 0, slots := 0, locals := 0 } : Room).cells ({ frames := 0, cells := 0, slots := 0, locals := 0 } : Room).slots)) (own_from (mkF m 0 #[rv sx] []) (castTop (own_ef_EM_2 m sx)) ?_)
  obtain ⟨kb, cd, N, vs, ⟨E_sx, Fv, Fc, Va⟩, hor⟩ := SL
  rcases hor with ⟨q1, q⟩ | ⟨q1, q⟩
  · subst q
    subst q1
    refine own_to (T' := s₁) (mkF m 1 #[rv sx] [(.ref sx)]) (fun _ k => XS.aloadN X0.here hx rfl (hb hby own_d_jdk_42_method_55_0) rfl rfl k) ?_
    obtain ⟨T253, X253, e253, st253⟩ := getF X0 hx hZ hown (host := "") (Or.inl (hw _ (List.mem_of_getElem? (i := 29) rfl))) Via.refl e0 Fv (g := (mkF m 1 #[rv sx] [(.ref sx)])) rfl rfl (hb hby own_d_jdk_42_method_55_1)
    refine own_to (mkF m 4 #[rv sx] [(.ref tx)]) st253 ?_
    obtain ⟨cl254, Ar254, -, S254, M254, -, -⟩ := id Va
    refine own_to (mkF m 5 #[rv sx] [(.int (2 : Int32))]) (by have q := X253.arraylength hx (by rw [e253]; exact Ar254.1) (State.isArrayOf_alike hZ.alike Ar254.2.1) (g := (mkF m 4 #[rv sx] [(.ref tx)])) rfl rfl (hb hby own_d_jdk_42_method_55_4); rw [len_of S254 M254] at q; exact q) ?_
    refine own_to (T' := T253) (mkF m 12 #[rv sx] []) (fun _ k => XS.ifYes X253.here hx rfl (pc0 := 5) (pc' := 12) rfl (hb hby own_d_jdk_42_method_55_5) rfl ((if0 _ _).trans (feq (by decide : ¬ ((2 : Int32) = (0 : Int32)))).2) (by decide) (by decide) k) ?_
    refine own_to (T' := T253) (mkF m 13 #[rv sx] [(.int (0 : Int32))]) (fun _ k => XS.iconst X253.here hx rfl (hb hby own_d_jdk_42_method_55_12) k) ?_
    exact own_retN X253 hx (t := .boolean) Bd.returns (by simp) hlk (hb hby own_d_jdk_42_method_55_13) (by decide) (by decide) (by rw [e253]; exact ⟨rfl, N0, rfl⟩)
  · subst q
    subst q1
    refine own_to (T' := s₁) (mkF m 1 #[rv sx] [(.ref sx)]) (fun _ k => XS.aloadN X0.here hx rfl (hb hby own_d_jdk_42_method_55_0) rfl rfl k) ?_
    obtain ⟨T255, X255, e255, st255⟩ := getF X0 hx hZ hown (host := "") (Or.inl (hw _ (List.mem_of_getElem? (i := 29) rfl))) Via.refl e0 Fv (g := (mkF m 1 #[rv sx] [(.ref sx)])) rfl rfl (hb hby own_d_jdk_42_method_55_1)
    refine own_to (mkF m 4 #[rv sx] [(.ref tx)]) st255 ?_
    obtain ⟨cl256, Ar256, -, S256, M256, -, -⟩ := id Va
    refine own_to (mkF m 5 #[rv sx] [(.int (4 : Int32))]) (by have q := X255.arraylength hx (by rw [e255]; exact Ar256.1) (State.isArrayOf_alike hZ.alike Ar256.2.1) (g := (mkF m 4 #[rv sx] [(.ref tx)])) rfl rfl (hb hby own_d_jdk_42_method_55_4); rw [len_of S256 M256] at q; exact q) ?_
    refine own_to (T' := T255) (mkF m 12 #[rv sx] []) (fun _ k => XS.ifYes X255.here hx rfl (pc0 := 5) (pc' := 12) rfl (hb hby own_d_jdk_42_method_55_5) rfl ((if0 _ _).trans (feq (by decide : ¬ ((4 : Int32) = (0 : Int32)))).2) (by decide) (by decide) k) ?_
    refine own_to (T' := T255) (mkF m 13 #[rv sx] [(.int (0 : Int32))]) (fun _ k => XS.iconst X255.here hx rfl (hb hby own_d_jdk_42_method_55_12) k) ?_
    exact own_retN X255 hx (t := .boolean) Bd.returns (by simp) hlk (hb hby own_d_jdk_42_method_55_13) (by decide) (by decide) (by rw [e255]; exact ⟨rfl, N0, rfl⟩)
def own_QLN_3 (Z : State) (G1 : Int32) (sx tx : Addr) (h0 : Heap) (n0 : Nat) (v : Option Value) (h : Heap) (L : List Loc) : Prop := v = some (.int (3 : Int32)) ∧ Fr n0 L ∧ h = h0
set_option maxRecDepth 65536 in
set_option maxHeartbeats 40000000 in
theorem own_rmLN_3 (l : Launch) (Z : State) (a0 : Array Value) (hw : ∀ d ∈ tables_1, d.before a0 Z = true) (ws : List Jvm.Cond) (G1 : Int32) (sx tx : Addr) (h0 : Heap) (n0 : Nat) (Z0 : n0 ≤ h0.size) (OL : Old Z n0 h0) (SL : own_StrL Z h0 sx tx (3 : Int32) (6 : Int32)) (O2 : Sta Z Z.heap "java/lang/String" "COMPACT_STRINGS" "Z" (.int G1)) (P5 : ¬ (G1 = (0 : Int32))) :
    MetFree l (⟨"java/lang/String", "length", "()I"⟩ : MethodName) (head1 (Jvm.Cond.code (⟨"java/lang/String", "length", "()I"⟩ : MethodName) jdk_42_method_54_code 1 (some .int) :: ws) ({ frames := 1, cells := 0, slots := 0, locals := 20 } : Room)) (fun aa_ U => aa_ = #[(.ref sx)] ∧ Z.Warmed39 U.vm ∧ U.heap = h0) (fun _ _ _ _ _ => True) (fun _ U o U' => ∃ v L, o = .returned v ∧ own_QLN_3 Z G1 sx tx h0 n0 v U'.heap L ∧ FrameEnd U o U' L ({ frames := 1, cells := 0, slots := 0, locals := 20 } : Room).cells ({ frames := 1, cells := 0, slots := 0, locals := 20 } : Room).slots) := by
  refine MetFree.of_bodySF (plainFor_of_name own_pn1) hisR ?_
  intro p e s m args below meth c s₁ Bd hml0 hP hK
  obtain ⟨rfl, hZ, hh⟩ := hP
  have hx := Bd.exec
  have hby := Bd.bytes
  have hlk : meth.locks = false := BodyLoose.notSynchronized Bd
  have hml : c.maxLocals = 1 := hml0
  have hown : s.vm.findClass "java/lang/String" = some m.cls := findClass_of_methodNamed Bd.named
  have hnm := (name_of_methodNamed Bd.named Bd.method).1
  have X0 : Stand p l e ({ frames := 1, cells := 0, slots := 0, locals := 20 } : Room) s m #[(.ref sx)] below meth c s₁ [] 0 0 := Stand.of_body Bd
  have e0 : s₁.heap = h0 := by rw [← hh, Bd.state]; rfl
  have N0 := Fr.nil n0
  have KP : Keep h0 h0 [] := Keep.refl _ _
  refine own_start (Fin := (own_Fin s (own_QLN_3 Z G1 sx tx h0 n0) ({ frames := 1, cells := 0, slots := 0, locals := 20 } : Room).cells ({ frames := 1, cells := 0, slots := 0, locals := 20 } : Room).slots)) (own_from (mkF m 0 #[rv sx] []) (castTop (own_ef_LN_3 m sx)) ?_)
  obtain ⟨kb, cd, N, vs, ⟨E_sx, Fv, Fc, Va⟩, hor⟩ := SL
  rcases hor with ⟨q1, q⟩ | ⟨q1, q⟩
  · subst q
    subst q1
    refine own_to (T' := s₁) (mkF m 1 #[rv sx] [(.ref sx)]) (fun _ k => XS.aloadN X0.here hx rfl (hb hby own_d_jdk_42_method_54_0) rfl rfl k) ?_
    obtain ⟨T257, X257, e257, st257⟩ := getF X0 hx hZ hown (host := "") (Or.inl (hw _ (List.mem_of_getElem? (i := 29) rfl))) Via.refl e0 Fv (g := (mkF m 1 #[rv sx] [(.ref sx)])) rfl rfl (hb hby own_d_jdk_42_method_54_1)
    refine own_to (mkF m 4 #[rv sx] [(.ref tx)]) st257 ?_
    obtain ⟨cl258, Ar258, -, S258, M258, -, -⟩ := id Va
    refine own_to (mkF m 5 #[rv sx] [(.int (3 : Int32))]) (by have q := X257.arraylength hx (by rw [e257]; exact Ar258.1) (State.isArrayOf_alike hZ.alike Ar258.2.1) (g := (mkF m 4 #[rv sx] [(.ref tx)])) rfl rfl (hb hby own_d_jdk_42_method_54_4); rw [len_of S258 M258] at q; exact q) ?_
    refine own_to (T' := T257) (mkF m 6 #[rv sx] [(.ref sx), (.int (3 : Int32))]) (fun _ k => XS.aloadN X257.here hx rfl (hb hby own_d_jdk_42_method_54_5) rfl rfl k) ?_
    obtain ⟨cq259, kq259, q259a, q259b, q259c⟩ := isOf hZ e257 E_sx
    obtain ⟨_, _, ⟨T259, L259, k259, n259⟩, -, X259, ⟨Lc259, hQ259, l259, y259, z259⟩, st259⟩ := X257.virtualBack hx (y := (⟨"java/lang/String", "coder", "()B"⟩ : MethodName)) (z := (⟨"java/lang/String", "coder", "()B"⟩ : MethodName)) hown (mvT hZ (hw _ (List.mem_of_getElem? (i := 64) rfl))) (mvT hZ (hw _ (List.mem_of_getElem? (i := 65) rfl))) (notFace_of_selects (args := #[]) (mvT hZ (hw _ (List.mem_of_getElem? (i := 67) rfl)))) (mvT hZ (hw _ (List.mem_of_getElem? (i := 67) rfl))) (mvT hZ (hw _ (List.mem_of_getElem? (i := 66) rfl))) (by decide) (backOf (W := 1) (own_rmCD_0 l Z a0 hw [] G1 sx h0 n0 (Nat.le_trans Z0 KP.1) OL Fc O2 P5) hZ (hw _ (List.mem_of_getElem? (i := 68) rfl)) (hw _ (List.mem_of_getElem? (i := 3) rfl)) (by decide) (by decide)) q259a q259c (g := (mkF m 6 #[rv sx] [(.ref sx), (.int (3 : Int32))])) rfl (by rw [hml]; rfl) (Steps.refl _) (argsL := []) (rest := [(.int (3 : Int32))]) (lenOf own_pd8 rfl) rfl (by show 2 * 0 + _ ≤ _; exact Nat.le_of_eq rfl) (hb hby own_d_jdk_42_method_54_6) (fun _ _ => ⟨rfl, e257, (by decide : 0 + 0 ≤ _), (by decide : 0 + 0 ≤ _)⟩)
    dsimp only [Pt.U, Pt.locs, Pt.cells, Pt.slots] at X259 l259 y259 z259 st259 hQ259
    subst l259 y259 z259
    obtain ⟨rfl, N259q, e259⟩ := hQ259
    have N259 := Fr.app N0 N259q
    refine own_via (mkF m 9 #[rv sx] [(.int (0 : Int32)), (.int (3 : Int32))]) st259 ?_
    refine own_to (T' := T259) (mkF m 10 #[rv sx] [(.int (3 : Int32))]) (fun _ k => XS.ishr X259.here hx rfl (hb hby own_d_jdk_42_method_54_9) rfl k) ?_
    exact own_retI X259 hx Bd.returns hlk (hb hby own_d_jdk_42_method_54_10) (by decide) (by decide) (by rw [e259]; exact ⟨rfl, N259, rfl⟩)
  · subst q
    subst q1
    refine own_to (T' := s₁) (mkF m 1 #[rv sx] [(.ref sx)]) (fun _ k => XS.aloadN X0.here hx rfl (hb hby own_d_jdk_42_method_54_0) rfl rfl k) ?_
    obtain ⟨T260, X260, e260, st260⟩ := getF X0 hx hZ hown (host := "") (Or.inl (hw _ (List.mem_of_getElem? (i := 29) rfl))) Via.refl e0 Fv (g := (mkF m 1 #[rv sx] [(.ref sx)])) rfl rfl (hb hby own_d_jdk_42_method_54_1)
    refine own_to (mkF m 4 #[rv sx] [(.ref tx)]) st260 ?_
    obtain ⟨cl261, Ar261, -, S261, M261, -, -⟩ := id Va
    refine own_to (mkF m 5 #[rv sx] [(.int (6 : Int32))]) (by have q := X260.arraylength hx (by rw [e260]; exact Ar261.1) (State.isArrayOf_alike hZ.alike Ar261.2.1) (g := (mkF m 4 #[rv sx] [(.ref tx)])) rfl rfl (hb hby own_d_jdk_42_method_54_4); rw [len_of S261 M261] at q; exact q) ?_
    refine own_to (T' := T260) (mkF m 6 #[rv sx] [(.ref sx), (.int (6 : Int32))]) (fun _ k => XS.aloadN X260.here hx rfl (hb hby own_d_jdk_42_method_54_5) rfl rfl k) ?_
    obtain ⟨cq262, kq262, q262a, q262b, q262c⟩ := isOf hZ e260 E_sx
    obtain ⟨_, _, ⟨T262, L262, k262, n262⟩, -, X262, ⟨Lc262, hQ262, l262, y262, z262⟩, st262⟩ := X260.virtualBack hx (y := (⟨"java/lang/String", "coder", "()B"⟩ : MethodName)) (z := (⟨"java/lang/String", "coder", "()B"⟩ : MethodName)) hown (mvT hZ (hw _ (List.mem_of_getElem? (i := 64) rfl))) (mvT hZ (hw _ (List.mem_of_getElem? (i := 65) rfl))) (notFace_of_selects (args := #[]) (mvT hZ (hw _ (List.mem_of_getElem? (i := 67) rfl)))) (mvT hZ (hw _ (List.mem_of_getElem? (i := 67) rfl))) (mvT hZ (hw _ (List.mem_of_getElem? (i := 66) rfl))) (by decide) (backOf (W := 1) (own_rmCD_1 l Z a0 hw [] G1 sx h0 n0 (Nat.le_trans Z0 KP.1) OL Fc O2 P5) hZ (hw _ (List.mem_of_getElem? (i := 68) rfl)) (hw _ (List.mem_of_getElem? (i := 3) rfl)) (by decide) (by decide)) q262a q262c (g := (mkF m 6 #[rv sx] [(.ref sx), (.int (6 : Int32))])) rfl (by rw [hml]; rfl) (Steps.refl _) (argsL := []) (rest := [(.int (6 : Int32))]) (lenOf own_pd8 rfl) rfl (by show 2 * 0 + _ ≤ _; exact Nat.le_of_eq rfl) (hb hby own_d_jdk_42_method_54_6) (fun _ _ => ⟨rfl, e260, (by decide : 0 + 0 ≤ _), (by decide : 0 + 0 ≤ _)⟩)
    dsimp only [Pt.U, Pt.locs, Pt.cells, Pt.slots] at X262 l262 y262 z262 st262 hQ262
    subst l262 y262 z262
    obtain ⟨rfl, N262q, e262⟩ := hQ262
    have N262 := Fr.app N0 N262q
    refine own_via (mkF m 9 #[rv sx] [(.int (1 : Int32)), (.int (6 : Int32))]) st262 ?_
    refine own_to (T' := T262) (mkF m 10 #[rv sx] [(.int (3 : Int32))]) (fun _ k => XS.ishr X262.here hx rfl (hb hby own_d_jdk_42_method_54_9) rfl k) ?_
    exact own_retI X262 hx Bd.returns hlk (hb hby own_d_jdk_42_method_54_10) (by decide) (by decide) (by rw [e262]; exact ⟨rfl, N262, rfl⟩)
def own_QEM_3 (Z : State) (G1 : Int32) (sx tx : Addr) (h0 : Heap) (n0 : Nat) (v : Option Value) (h : Heap) (L : List Loc) : Prop := v = some (.int (0 : Int32)) ∧ Fr n0 L ∧ h = h0
set_option maxRecDepth 65536 in
set_option maxHeartbeats 40000000 in
theorem own_rmEM_3 (l : Launch) (Z : State) (a0 : Array Value) (hw : ∀ d ∈ tables_1, d.before a0 Z = true) (ws : List Jvm.Cond) (G1 : Int32) (sx tx : Addr) (h0 : Heap) (n0 : Nat) (Z0 : n0 ≤ h0.size) (OL : Old Z n0 h0) (SL : own_StrL Z h0 sx tx (3 : Int32) (6 : Int32)) (O2 : Sta Z Z.heap "java/lang/String" "COMPACT_STRINGS" "Z" (.int G1)) (P5 : ¬ (G1 = (0 : Int32))) :
    MetFree l (⟨"java/lang/String", "isEmpty", "()Z"⟩ : MethodName) (head1 (Jvm.Cond.code (⟨"java/lang/String", "isEmpty", "()Z"⟩ : MethodName) jdk_42_method_55_code 1 (some .boolean) :: ws) ({ frames := 0, cells := 0, slots := 0, locals := 0 } : Room)) (fun aa_ U => aa_ = #[(.ref sx)] ∧ Z.Warmed39 U.vm ∧ U.heap = h0) (fun _ _ _ _ _ => True) (fun _ U o U' => ∃ v L, o = .returned v ∧ own_QEM_3 Z G1 sx tx h0 n0 v U'.heap L ∧ FrameEnd U o U' L ({ frames := 0, cells := 0, slots := 0, locals := 0 } : Room).cells ({ frames := 0, cells := 0, slots := 0, locals := 0 } : Room).slots) := by
  refine MetFree.of_bodySF (plainFor_of_name own_pn1) hisR ?_
  intro p e s m args below meth c s₁ Bd hml0 hP hK
  obtain ⟨rfl, hZ, hh⟩ := hP
  have hx := Bd.exec
  have hby := Bd.bytes
  have hlk : meth.locks = false := BodyLoose.notSynchronized Bd
  have hml : c.maxLocals = 1 := hml0
  have hown : s.vm.findClass "java/lang/String" = some m.cls := findClass_of_methodNamed Bd.named
  have hnm := (name_of_methodNamed Bd.named Bd.method).1
  have X0 : Stand p l e ({ frames := 0, cells := 0, slots := 0, locals := 0 } : Room) s m #[(.ref sx)] below meth c s₁ [] 0 0 := Stand.of_body Bd
  have e0 : s₁.heap = h0 := by rw [← hh, Bd.state]; rfl
  have N0 := Fr.nil n0
  have KP : Keep h0 h0 [] := Keep.refl _ _
  refine own_start (Fin := (own_Fin s (own_QEM_3 Z G1 sx tx h0 n0) ({ frames := 0, cells := 0, slots := 0, locals := 0 } : Room).cells ({ frames := 0, cells := 0, slots := 0, locals := 0 } : Room).slots)) (own_from (mkF m 0 #[rv sx] []) (castTop (own_ef_EM_3 m sx)) ?_)
  obtain ⟨kb, cd, N, vs, ⟨E_sx, Fv, Fc, Va⟩, hor⟩ := SL
  rcases hor with ⟨q1, q⟩ | ⟨q1, q⟩
  · subst q
    subst q1
    refine own_to (T' := s₁) (mkF m 1 #[rv sx] [(.ref sx)]) (fun _ k => XS.aloadN X0.here hx rfl (hb hby own_d_jdk_42_method_55_0) rfl rfl k) ?_
    obtain ⟨T263, X263, e263, st263⟩ := getF X0 hx hZ hown (host := "") (Or.inl (hw _ (List.mem_of_getElem? (i := 29) rfl))) Via.refl e0 Fv (g := (mkF m 1 #[rv sx] [(.ref sx)])) rfl rfl (hb hby own_d_jdk_42_method_55_1)
    refine own_to (mkF m 4 #[rv sx] [(.ref tx)]) st263 ?_
    obtain ⟨cl264, Ar264, -, S264, M264, -, -⟩ := id Va
    refine own_to (mkF m 5 #[rv sx] [(.int (3 : Int32))]) (by have q := X263.arraylength hx (by rw [e263]; exact Ar264.1) (State.isArrayOf_alike hZ.alike Ar264.2.1) (g := (mkF m 4 #[rv sx] [(.ref tx)])) rfl rfl (hb hby own_d_jdk_42_method_55_4); rw [len_of S264 M264] at q; exact q) ?_
    refine own_to (T' := T263) (mkF m 12 #[rv sx] []) (fun _ k => XS.ifYes X263.here hx rfl (pc0 := 5) (pc' := 12) rfl (hb hby own_d_jdk_42_method_55_5) rfl ((if0 _ _).trans (feq (by decide : ¬ ((3 : Int32) = (0 : Int32)))).2) (by decide) (by decide) k) ?_
    refine own_to (T' := T263) (mkF m 13 #[rv sx] [(.int (0 : Int32))]) (fun _ k => XS.iconst X263.here hx rfl (hb hby own_d_jdk_42_method_55_12) k) ?_
    exact own_retN X263 hx (t := .boolean) Bd.returns (by simp) hlk (hb hby own_d_jdk_42_method_55_13) (by decide) (by decide) (by rw [e263]; exact ⟨rfl, N0, rfl⟩)
  · subst q
    subst q1
    refine own_to (T' := s₁) (mkF m 1 #[rv sx] [(.ref sx)]) (fun _ k => XS.aloadN X0.here hx rfl (hb hby own_d_jdk_42_method_55_0) rfl rfl k) ?_
    obtain ⟨T265, X265, e265, st265⟩ := getF X0 hx hZ hown (host := "") (Or.inl (hw _ (List.mem_of_getElem? (i := 29) rfl))) Via.refl e0 Fv (g := (mkF m 1 #[rv sx] [(.ref sx)])) rfl rfl (hb hby own_d_jdk_42_method_55_1)
    refine own_to (mkF m 4 #[rv sx] [(.ref tx)]) st265 ?_
    obtain ⟨cl266, Ar266, -, S266, M266, -, -⟩ := id Va
    refine own_to (mkF m 5 #[rv sx] [(.int (6 : Int32))]) (by have q := X265.arraylength hx (by rw [e265]; exact Ar266.1) (State.isArrayOf_alike hZ.alike Ar266.2.1) (g := (mkF m 4 #[rv sx] [(.ref tx)])) rfl rfl (hb hby own_d_jdk_42_method_55_4); rw [len_of S266 M266] at q; exact q) ?_
    refine own_to (T' := T265) (mkF m 12 #[rv sx] []) (fun _ k => XS.ifYes X265.here hx rfl (pc0 := 5) (pc' := 12) rfl (hb hby own_d_jdk_42_method_55_5) rfl ((if0 _ _).trans (feq (by decide : ¬ ((6 : Int32) = (0 : Int32)))).2) (by decide) (by decide) k) ?_
    refine own_to (T' := T265) (mkF m 13 #[rv sx] [(.int (0 : Int32))]) (fun _ k => XS.iconst X265.here hx rfl (hb hby own_d_jdk_42_method_55_12) k) ?_
    exact own_retN X265 hx (t := .boolean) Bd.returns (by simp) hlk (hb hby own_d_jdk_42_method_55_13) (by decide) (by decide) (by rw [e265]; exact ⟨rfl, N0, rfl⟩)
def own_QLN_4 (Z : State) (G1 : Int32) (sx tx : Addr) (h0 : Heap) (n0 : Nat) (v : Option Value) (h : Heap) (L : List Loc) : Prop := v = some (.int (4 : Int32)) ∧ Fr n0 L ∧ h = h0
set_option maxRecDepth 65536 in
set_option maxHeartbeats 40000000 in
theorem own_rmLN_4 (l : Launch) (Z : State) (a0 : Array Value) (hw : ∀ d ∈ tables_1, d.before a0 Z = true) (ws : List Jvm.Cond) (G1 : Int32) (sx tx : Addr) (h0 : Heap) (n0 : Nat) (Z0 : n0 ≤ h0.size) (OL : Old Z n0 h0) (SL : own_StrL Z h0 sx tx (4 : Int32) (8 : Int32)) (O2 : Sta Z Z.heap "java/lang/String" "COMPACT_STRINGS" "Z" (.int G1)) (P5 : ¬ (G1 = (0 : Int32))) :
    MetFree l (⟨"java/lang/String", "length", "()I"⟩ : MethodName) (head1 (Jvm.Cond.code (⟨"java/lang/String", "length", "()I"⟩ : MethodName) jdk_42_method_54_code 1 (some .int) :: ws) ({ frames := 1, cells := 0, slots := 0, locals := 20 } : Room)) (fun aa_ U => aa_ = #[(.ref sx)] ∧ Z.Warmed39 U.vm ∧ U.heap = h0) (fun _ _ _ _ _ => True) (fun _ U o U' => ∃ v L, o = .returned v ∧ own_QLN_4 Z G1 sx tx h0 n0 v U'.heap L ∧ FrameEnd U o U' L ({ frames := 1, cells := 0, slots := 0, locals := 20 } : Room).cells ({ frames := 1, cells := 0, slots := 0, locals := 20 } : Room).slots) := by
  refine MetFree.of_bodySF (plainFor_of_name own_pn1) hisR ?_
  intro p e s m args below meth c s₁ Bd hml0 hP hK
  obtain ⟨rfl, hZ, hh⟩ := hP
  have hx := Bd.exec
  have hby := Bd.bytes
  have hlk : meth.locks = false := BodyLoose.notSynchronized Bd
  have hml : c.maxLocals = 1 := hml0
  have hown : s.vm.findClass "java/lang/String" = some m.cls := findClass_of_methodNamed Bd.named
  have hnm := (name_of_methodNamed Bd.named Bd.method).1
  have X0 : Stand p l e ({ frames := 1, cells := 0, slots := 0, locals := 20 } : Room) s m #[(.ref sx)] below meth c s₁ [] 0 0 := Stand.of_body Bd
  have e0 : s₁.heap = h0 := by rw [← hh, Bd.state]; rfl
  have N0 := Fr.nil n0
  have KP : Keep h0 h0 [] := Keep.refl _ _
  refine own_start (Fin := (own_Fin s (own_QLN_4 Z G1 sx tx h0 n0) ({ frames := 1, cells := 0, slots := 0, locals := 20 } : Room).cells ({ frames := 1, cells := 0, slots := 0, locals := 20 } : Room).slots)) (own_from (mkF m 0 #[rv sx] []) (castTop (own_ef_LN_4 m sx)) ?_)
  obtain ⟨kb, cd, N, vs, ⟨E_sx, Fv, Fc, Va⟩, hor⟩ := SL
  rcases hor with ⟨q1, q⟩ | ⟨q1, q⟩
  · subst q
    subst q1
    refine own_to (T' := s₁) (mkF m 1 #[rv sx] [(.ref sx)]) (fun _ k => XS.aloadN X0.here hx rfl (hb hby own_d_jdk_42_method_54_0) rfl rfl k) ?_
    obtain ⟨T267, X267, e267, st267⟩ := getF X0 hx hZ hown (host := "") (Or.inl (hw _ (List.mem_of_getElem? (i := 29) rfl))) Via.refl e0 Fv (g := (mkF m 1 #[rv sx] [(.ref sx)])) rfl rfl (hb hby own_d_jdk_42_method_54_1)
    refine own_to (mkF m 4 #[rv sx] [(.ref tx)]) st267 ?_
    obtain ⟨cl268, Ar268, -, S268, M268, -, -⟩ := id Va
    refine own_to (mkF m 5 #[rv sx] [(.int (4 : Int32))]) (by have q := X267.arraylength hx (by rw [e267]; exact Ar268.1) (State.isArrayOf_alike hZ.alike Ar268.2.1) (g := (mkF m 4 #[rv sx] [(.ref tx)])) rfl rfl (hb hby own_d_jdk_42_method_54_4); rw [len_of S268 M268] at q; exact q) ?_
    refine own_to (T' := T267) (mkF m 6 #[rv sx] [(.ref sx), (.int (4 : Int32))]) (fun _ k => XS.aloadN X267.here hx rfl (hb hby own_d_jdk_42_method_54_5) rfl rfl k) ?_
    obtain ⟨cq269, kq269, q269a, q269b, q269c⟩ := isOf hZ e267 E_sx
    obtain ⟨_, _, ⟨T269, L269, k269, n269⟩, -, X269, ⟨Lc269, hQ269, l269, y269, z269⟩, st269⟩ := X267.virtualBack hx (y := (⟨"java/lang/String", "coder", "()B"⟩ : MethodName)) (z := (⟨"java/lang/String", "coder", "()B"⟩ : MethodName)) hown (mvT hZ (hw _ (List.mem_of_getElem? (i := 64) rfl))) (mvT hZ (hw _ (List.mem_of_getElem? (i := 65) rfl))) (notFace_of_selects (args := #[]) (mvT hZ (hw _ (List.mem_of_getElem? (i := 67) rfl)))) (mvT hZ (hw _ (List.mem_of_getElem? (i := 67) rfl))) (mvT hZ (hw _ (List.mem_of_getElem? (i := 66) rfl))) (by decide) (backOf (W := 1) (own_rmCD_0 l Z a0 hw [] G1 sx h0 n0 (Nat.le_trans Z0 KP.1) OL Fc O2 P5) hZ (hw _ (List.mem_of_getElem? (i := 68) rfl)) (hw _ (List.mem_of_getElem? (i := 3) rfl)) (by decide) (by decide)) q269a q269c (g := (mkF m 6 #[rv sx] [(.ref sx), (.int (4 : Int32))])) rfl (by rw [hml]; rfl) (Steps.refl _) (argsL := []) (rest := [(.int (4 : Int32))]) (lenOf own_pd8 rfl) rfl (by show 2 * 0 + _ ≤ _; exact Nat.le_of_eq rfl) (hb hby own_d_jdk_42_method_54_6) (fun _ _ => ⟨rfl, e267, (by decide : 0 + 0 ≤ _), (by decide : 0 + 0 ≤ _)⟩)
    dsimp only [Pt.U, Pt.locs, Pt.cells, Pt.slots] at X269 l269 y269 z269 st269 hQ269
    subst l269 y269 z269
    obtain ⟨rfl, N269q, e269⟩ := hQ269
    have N269 := Fr.app N0 N269q
    refine own_via (mkF m 9 #[rv sx] [(.int (0 : Int32)), (.int (4 : Int32))]) st269 ?_
    refine own_to (T' := T269) (mkF m 10 #[rv sx] [(.int (4 : Int32))]) (fun _ k => XS.ishr X269.here hx rfl (hb hby own_d_jdk_42_method_54_9) rfl k) ?_
    exact own_retI X269 hx Bd.returns hlk (hb hby own_d_jdk_42_method_54_10) (by decide) (by decide) (by rw [e269]; exact ⟨rfl, N269, rfl⟩)
  · subst q
    subst q1
    refine own_to (T' := s₁) (mkF m 1 #[rv sx] [(.ref sx)]) (fun _ k => XS.aloadN X0.here hx rfl (hb hby own_d_jdk_42_method_54_0) rfl rfl k) ?_
    obtain ⟨T270, X270, e270, st270⟩ := getF X0 hx hZ hown (host := "") (Or.inl (hw _ (List.mem_of_getElem? (i := 29) rfl))) Via.refl e0 Fv (g := (mkF m 1 #[rv sx] [(.ref sx)])) rfl rfl (hb hby own_d_jdk_42_method_54_1)
    refine own_to (mkF m 4 #[rv sx] [(.ref tx)]) st270 ?_
    obtain ⟨cl271, Ar271, -, S271, M271, -, -⟩ := id Va
    refine own_to (mkF m 5 #[rv sx] [(.int (8 : Int32))]) (by have q := X270.arraylength hx (by rw [e270]; exact Ar271.1) (State.isArrayOf_alike hZ.alike Ar271.2.1) (g := (mkF m 4 #[rv sx] [(.ref tx)])) rfl rfl (hb hby own_d_jdk_42_method_54_4); rw [len_of S271 M271] at q; exact q) ?_
    refine own_to (T' := T270) (mkF m 6 #[rv sx] [(.ref sx), (.int (8 : Int32))]) (fun _ k => XS.aloadN X270.here hx rfl (hb hby own_d_jdk_42_method_54_5) rfl rfl k) ?_
    obtain ⟨cq272, kq272, q272a, q272b, q272c⟩ := isOf hZ e270 E_sx
    obtain ⟨_, _, ⟨T272, L272, k272, n272⟩, -, X272, ⟨Lc272, hQ272, l272, y272, z272⟩, st272⟩ := X270.virtualBack hx (y := (⟨"java/lang/String", "coder", "()B"⟩ : MethodName)) (z := (⟨"java/lang/String", "coder", "()B"⟩ : MethodName)) hown (mvT hZ (hw _ (List.mem_of_getElem? (i := 64) rfl))) (mvT hZ (hw _ (List.mem_of_getElem? (i := 65) rfl))) (notFace_of_selects (args := #[]) (mvT hZ (hw _ (List.mem_of_getElem? (i := 67) rfl)))) (mvT hZ (hw _ (List.mem_of_getElem? (i := 67) rfl))) (mvT hZ (hw _ (List.mem_of_getElem? (i := 66) rfl))) (by decide) (backOf (W := 1) (own_rmCD_1 l Z a0 hw [] G1 sx h0 n0 (Nat.le_trans Z0 KP.1) OL Fc O2 P5) hZ (hw _ (List.mem_of_getElem? (i := 68) rfl)) (hw _ (List.mem_of_getElem? (i := 3) rfl)) (by decide) (by decide)) q272a q272c (g := (mkF m 6 #[rv sx] [(.ref sx), (.int (8 : Int32))])) rfl (by rw [hml]; rfl) (Steps.refl _) (argsL := []) (rest := [(.int (8 : Int32))]) (lenOf own_pd8 rfl) rfl (by show 2 * 0 + _ ≤ _; exact Nat.le_of_eq rfl) (hb hby own_d_jdk_42_method_54_6) (fun _ _ => ⟨rfl, e270, (by decide : 0 + 0 ≤ _), (by decide : 0 + 0 ≤ _)⟩)
    dsimp only [Pt.U, Pt.locs, Pt.cells, Pt.slots] at X272 l272 y272 z272 st272 hQ272
    subst l272 y272 z272
    obtain ⟨rfl, N272q, e272⟩ := hQ272
    have N272 := Fr.app N0 N272q
    refine own_via (mkF m 9 #[rv sx] [(.int (1 : Int32)), (.int (8 : Int32))]) st272 ?_
    refine own_to (T' := T272) (mkF m 10 #[rv sx] [(.int (4 : Int32))]) (fun _ k => XS.ishr X272.here hx rfl (hb hby own_d_jdk_42_method_54_9) rfl k) ?_
    exact own_retI X272 hx Bd.returns hlk (hb hby own_d_jdk_42_method_54_10) (by decide) (by decide) (by rw [e272]; exact ⟨rfl, N272, rfl⟩)
def own_QEM_4 (Z : State) (G1 : Int32) (sx tx : Addr) (h0 : Heap) (n0 : Nat) (v : Option Value) (h : Heap) (L : List Loc) : Prop := v = some (.int (0 : Int32)) ∧ Fr n0 L ∧ h = h0
set_option maxRecDepth 65536 in
set_option maxHeartbeats 40000000 in
theorem own_rmEM_4 (l : Launch) (Z : State) (a0 : Array Value) (hw : ∀ d ∈ tables_1, d.before a0 Z = true) (ws : List Jvm.Cond) (G1 : Int32) (sx tx : Addr) (h0 : Heap) (n0 : Nat) (Z0 : n0 ≤ h0.size) (OL : Old Z n0 h0) (SL : own_StrL Z h0 sx tx (4 : Int32) (8 : Int32)) (O2 : Sta Z Z.heap "java/lang/String" "COMPACT_STRINGS" "Z" (.int G1)) (P5 : ¬ (G1 = (0 : Int32))) :
    MetFree l (⟨"java/lang/String", "isEmpty", "()Z"⟩ : MethodName) (head1 (Jvm.Cond.code (⟨"java/lang/String", "isEmpty", "()Z"⟩ : MethodName) jdk_42_method_55_code 1 (some .boolean) :: ws) ({ frames := 0, cells := 0, slots := 0, locals := 0 } : Room)) (fun aa_ U => aa_ = #[(.ref sx)] ∧ Z.Warmed39 U.vm ∧ U.heap = h0) (fun _ _ _ _ _ => True) (fun _ U o U' => ∃ v L, o = .returned v ∧ own_QEM_4 Z G1 sx tx h0 n0 v U'.heap L ∧ FrameEnd U o U' L ({ frames := 0, cells := 0, slots := 0, locals := 0 } : Room).cells ({ frames := 0, cells := 0, slots := 0, locals := 0 } : Room).slots) := by
  refine MetFree.of_bodySF (plainFor_of_name own_pn1) hisR ?_
  intro p e s m args below meth c s₁ Bd hml0 hP hK
  obtain ⟨rfl, hZ, hh⟩ := hP
  have hx := Bd.exec
  have hby := Bd.bytes
  have hlk : meth.locks = false := BodyLoose.notSynchronized Bd
  have hml : c.maxLocals = 1 := hml0
  have hown : s.vm.findClass "java/lang/String" = some m.cls := findClass_of_methodNamed Bd.named
  have hnm := (name_of_methodNamed Bd.named Bd.method).1
  have X0 : Stand p l e ({ frames := 0, cells := 0, slots := 0, locals := 0 } : Room) s m #[(.ref sx)] below meth c s₁ [] 0 0 := Stand.of_body Bd
  have e0 : s₁.heap = h0 := by rw [← hh, Bd.state]; rfl
  have N0 := Fr.nil n0
  have KP : Keep h0 h0 [] := Keep.refl _ _
  refine own_start (Fin := (own_Fin s (own_QEM_4 Z G1 sx tx h0 n0) ({ frames := 0, cells := 0, slots := 0, locals := 0 } : Room).cells ({ frames := 0, cells := 0, slots := 0, locals := 0 } : Room).slots)) (own_from (mkF m 0 #[rv sx] []) (castTop (own_ef_EM_4 m sx)) ?_)
  obtain ⟨kb, cd, N, vs, ⟨E_sx, Fv, Fc, Va⟩, hor⟩ := SL
  rcases hor with ⟨q1, q⟩ | ⟨q1, q⟩
  · subst q
    subst q1
    refine own_to (T' := s₁) (mkF m 1 #[rv sx] [(.ref sx)]) (fun _ k => XS.aloadN X0.here hx rfl (hb hby own_d_jdk_42_method_55_0) rfl rfl k) ?_
    obtain ⟨T273, X273, e273, st273⟩ := getF X0 hx hZ hown (host := "") (Or.inl (hw _ (List.mem_of_getElem? (i := 29) rfl))) Via.refl e0 Fv (g := (mkF m 1 #[rv sx] [(.ref sx)])) rfl rfl (hb hby own_d_jdk_42_method_55_1)
    refine own_to (mkF m 4 #[rv sx] [(.ref tx)]) st273 ?_
    obtain ⟨cl274, Ar274, -, S274, M274, -, -⟩ := id Va
    refine own_to (mkF m 5 #[rv sx] [(.int (4 : Int32))]) (by have q := X273.arraylength hx (by rw [e273]; exact Ar274.1) (State.isArrayOf_alike hZ.alike Ar274.2.1) (g := (mkF m 4 #[rv sx] [(.ref tx)])) rfl rfl (hb hby own_d_jdk_42_method_55_4); rw [len_of S274 M274] at q; exact q) ?_
    refine own_to (T' := T273) (mkF m 12 #[rv sx] []) (fun _ k => XS.ifYes X273.here hx rfl (pc0 := 5) (pc' := 12) rfl (hb hby own_d_jdk_42_method_55_5) rfl ((if0 _ _).trans (feq (by decide : ¬ ((4 : Int32) = (0 : Int32)))).2) (by decide) (by decide) k) ?_
    refine own_to (T' := T273) (mkF m 13 #[rv sx] [(.int (0 : Int32))]) (fun _ k => XS.iconst X273.here hx rfl (hb hby own_d_jdk_42_method_55_12) k) ?_
    exact own_retN X273 hx (t := .boolean) Bd.returns (by simp) hlk (hb hby own_d_jdk_42_method_55_13) (by decide) (by decide) (by rw [e273]; exact ⟨rfl, N0, rfl⟩)
  · subst q
    subst q1
    refine own_to (T' := s₁) (mkF m 1 #[rv sx] [(.ref sx)]) (fun _ k => XS.aloadN X0.here hx rfl (hb hby own_d_jdk_42_method_55_0) rfl rfl k) ?_
    obtain ⟨T275, X275, e275, st275⟩ := getF X0 hx hZ hown (host := "") (Or.inl (hw _ (List.mem_of_getElem? (i := 29) rfl))) Via.refl e0 Fv (g := (mkF m 1 #[rv sx] [(.ref sx)])) rfl rfl (hb hby own_d_jdk_42_method_55_1)
    refine own_to (mkF m 4 #[rv sx] [(.ref tx)]) st275 ?_
    obtain ⟨cl276, Ar276, -, S276, M276, -, -⟩ := id Va
    refine own_to (mkF m 5 #[rv sx] [(.int (8 : Int32))]) (by have q := X275.arraylength hx (by rw [e275]; exact Ar276.1) (State.isArrayOf_alike hZ.alike Ar276.2.1) (g := (mkF m 4 #[rv sx] [(.ref tx)])) rfl rfl (hb hby own_d_jdk_42_method_55_4); rw [len_of S276 M276] at q; exact q) ?_
    refine own_to (T' := T275) (mkF m 12 #[rv sx] []) (fun _ k => XS.ifYes X275.here hx rfl (pc0 := 5) (pc' := 12) rfl (hb hby own_d_jdk_42_method_55_5) rfl ((if0 _ _).trans (feq (by decide : ¬ ((8 : Int32) = (0 : Int32)))).2) (by decide) (by decide) k) ?_
    refine own_to (T' := T275) (mkF m 13 #[rv sx] [(.int (0 : Int32))]) (fun _ k => XS.iconst X275.here hx rfl (hb hby own_d_jdk_42_method_55_12) k) ?_
    exact own_retN X275 hx (t := .boolean) Bd.returns (by simp) hlk (hb hby own_d_jdk_42_method_55_13) (by decide) (by decide) (by rw [e275]; exact ⟨rfl, N0, rfl⟩)
def own_QCE1 (Z : State) (x0 : Int32) (h0 : Heap) (n0 : Nat) (v : Option Value) (h : Heap) (L : List Loc) : Prop := v = some (.int 1) ∧ Fr n0 L ∧ h = h0
set_option maxRecDepth 65536 in
set_option maxHeartbeats 40000000 in
theorem own_rmCE1 (l : Launch) (Z : State) (a0 : Array Value) (hw : ∀ d ∈ tables_1, d.before a0 Z = true) (ws : List Jvm.Cond) (x0 : Int32) (h0 : Heap) (n0 : Nat) (Z0 : n0 ≤ h0.size) (OL : Old Z n0 h0) (hc : ¬ ((255 : Int32) < x0)) :
    MetFree l (⟨"java/lang/StringLatin1", "canEncode", "(C)Z"⟩ : MethodName) (head1 (Jvm.Cond.code (⟨"java/lang/StringLatin1", "canEncode", "(C)Z"⟩ : MethodName) jdk_43_method_3_code 1 (some .boolean) :: ws) ({ frames := 0, cells := 0, slots := 0, locals := 0 } : Room)) (fun aa_ U => aa_ = #[(.int x0)] ∧ Z.Warmed39 U.vm ∧ U.heap = h0) (fun _ _ _ _ _ => True) (fun _ U o U' => ∃ v L, o = .returned v ∧ own_QCE1 Z x0 h0 n0 v U'.heap L ∧ FrameEnd U o U' L ({ frames := 0, cells := 0, slots := 0, locals := 0 } : Room).cells ({ frames := 0, cells := 0, slots := 0, locals := 0 } : Room).slots) := by
  refine MetFree.of_bodySF (plainFor_of_name own_pn2) hisR ?_
  intro p e s m args below meth c s₁ Bd hml0 hP hK
  obtain ⟨rfl, hZ, hh⟩ := hP
  have hx := Bd.exec
  have hby := Bd.bytes
  have hlk : meth.locks = false := BodyLoose.notSynchronized Bd
  have hml : c.maxLocals = 1 := hml0
  have hown : s.vm.findClass "java/lang/StringLatin1" = some m.cls := findClass_of_methodNamed Bd.named
  have hnm := (name_of_methodNamed Bd.named Bd.method).1
  have X0 : Stand p l e ({ frames := 0, cells := 0, slots := 0, locals := 0 } : Room) s m #[(.int x0)] below meth c s₁ [] 0 0 := Stand.of_body Bd
  have e0 : s₁.heap = h0 := by rw [← hh, Bd.state]; rfl
  have N0 := Fr.nil n0
  have KP : Keep h0 h0 [] := Keep.refl _ _
  refine own_start (Fin := (own_Fin s (own_QCE1 Z x0 h0 n0) ({ frames := 0, cells := 0, slots := 0, locals := 0 } : Room).cells ({ frames := 0, cells := 0, slots := 0, locals := 0 } : Room).slots)) (own_from (mkF m 0 #[iv x0] []) (castTop (own_ef_CE1 m x0)) ?_)
  refine own_to (T' := s₁) (mkF m 1 #[iv x0] [(.int x0)]) (fun _ k => XS.iloadN X0.here hx rfl (hb hby own_d_jdk_43_method_3_0) rfl k) ?_
  refine own_to (T' := s₁) (mkF m 4 #[iv x0] [(.int (255 : Int32)), (.int x0)]) (fun _ k => XS.sipush X0.here hx rfl (hb hby own_d_jdk_43_method_3_1) k) ?_
  refine own_to (T' := s₁) (mkF m 7 #[iv x0] []) (fun _ k => XS.icmpNo X0.here hx rfl (hb hby own_d_jdk_43_method_3_4) rfl (flt hc).2.2.1 k) ?_
  refine own_to (T' := s₁) (mkF m 8 #[iv x0] [(.int (1 : Int32))]) (fun _ k => XS.iconst X0.here hx rfl (hb hby own_d_jdk_43_method_3_7) k) ?_
  refine own_to (T' := s₁) (mkF m 12 #[iv x0] [(.int (1 : Int32))]) (fun _ k => XS.goto X0.here hx rfl (pc0 := 8) (pc' := 12) rfl (hb hby own_d_jdk_43_method_3_8) (by decide) (by decide) k) ?_
  exact own_retN X0 hx (t := .boolean) Bd.returns (by simp) hlk (hb hby own_d_jdk_43_method_3_12) (by decide) (by decide) (by rw [e0]; exact ⟨rfl, N0, rfl⟩)
def own_QCE0 (Z : State) (x0 : Int32) (h0 : Heap) (n0 : Nat) (v : Option Value) (h : Heap) (L : List Loc) : Prop := v = some (.int 0) ∧ Fr n0 L ∧ h = h0
set_option maxRecDepth 65536 in
set_option maxHeartbeats 40000000 in
theorem own_rmCE0 (l : Launch) (Z : State) (a0 : Array Value) (hw : ∀ d ∈ tables_1, d.before a0 Z = true) (ws : List Jvm.Cond) (x0 : Int32) (h0 : Heap) (n0 : Nat) (Z0 : n0 ≤ h0.size) (OL : Old Z n0 h0) (hc : (255 : Int32) < x0) :
    MetFree l (⟨"java/lang/StringLatin1", "canEncode", "(C)Z"⟩ : MethodName) (head1 (Jvm.Cond.code (⟨"java/lang/StringLatin1", "canEncode", "(C)Z"⟩ : MethodName) jdk_43_method_3_code 1 (some .boolean) :: ws) ({ frames := 0, cells := 0, slots := 0, locals := 0 } : Room)) (fun aa_ U => aa_ = #[(.int x0)] ∧ Z.Warmed39 U.vm ∧ U.heap = h0) (fun _ _ _ _ _ => True) (fun _ U o U' => ∃ v L, o = .returned v ∧ own_QCE0 Z x0 h0 n0 v U'.heap L ∧ FrameEnd U o U' L ({ frames := 0, cells := 0, slots := 0, locals := 0 } : Room).cells ({ frames := 0, cells := 0, slots := 0, locals := 0 } : Room).slots) := by
  refine MetFree.of_bodySF (plainFor_of_name own_pn2) hisR ?_
  intro p e s m args below meth c s₁ Bd hml0 hP hK
  obtain ⟨rfl, hZ, hh⟩ := hP
  have hx := Bd.exec
  have hby := Bd.bytes
  have hlk : meth.locks = false := BodyLoose.notSynchronized Bd
  have hml : c.maxLocals = 1 := hml0
  have hown : s.vm.findClass "java/lang/StringLatin1" = some m.cls := findClass_of_methodNamed Bd.named
  have hnm := (name_of_methodNamed Bd.named Bd.method).1
  have X0 : Stand p l e ({ frames := 0, cells := 0, slots := 0, locals := 0 } : Room) s m #[(.int x0)] below meth c s₁ [] 0 0 := Stand.of_body Bd
  have e0 : s₁.heap = h0 := by rw [← hh, Bd.state]; rfl
  have N0 := Fr.nil n0
  have KP : Keep h0 h0 [] := Keep.refl _ _
  refine own_start (Fin := (own_Fin s (own_QCE0 Z x0 h0 n0) ({ frames := 0, cells := 0, slots := 0, locals := 0 } : Room).cells ({ frames := 0, cells := 0, slots := 0, locals := 0 } : Room).slots)) (own_from (mkF m 0 #[iv x0] []) (castTop (own_ef_CE0 m x0)) ?_)
  refine own_to (T' := s₁) (mkF m 1 #[iv x0] [(.int x0)]) (fun _ k => XS.iloadN X0.here hx rfl (hb hby own_d_jdk_43_method_3_0) rfl k) ?_
  refine own_to (T' := s₁) (mkF m 4 #[iv x0] [(.int (255 : Int32)), (.int x0)]) (fun _ k => XS.sipush X0.here hx rfl (hb hby own_d_jdk_43_method_3_1) k) ?_
  refine own_to (T' := s₁) (mkF m 11 #[iv x0] []) (fun _ k => XS.icmpYes X0.here hx rfl (pc0 := 4) (pc' := 11) rfl (hb hby own_d_jdk_43_method_3_4) rfl (tlt hc).2.2.1 (by decide) (by decide) k) ?_
  refine own_to (T' := s₁) (mkF m 12 #[iv x0] [(.int (0 : Int32))]) (fun _ k => XS.iconst X0.here hx rfl (hb hby own_d_jdk_43_method_3_11) k) ?_
  exact own_retN X0 hx (t := .boolean) Bd.returns (by simp) hlk (hb hby own_d_jdk_43_method_3_12) (by decide) (by decide) (by rw [e0]; exact ⟨rfl, N0, rfl⟩)
def own_QTB1 (Z : State) (x0 : Int32) (h0 : Heap) (n0 : Nat) (v : Option Value) (h : Heap) (L : List Loc) : Prop := ∃ b : Addr, v = some (.ref b) ∧ Fr n0 L ∧ Keep h0 h []
set_option maxRecDepth 65536 in
set_option maxHeartbeats 40000000 in
theorem own_rmTB1 (l : Launch) (Z : State) (a0 : Array Value) (hw : ∀ d ∈ tables_1, d.before a0 Z = true) (ws : List Jvm.Cond) (x0 : Int32) (h0 : Heap) (n0 : Nat) (Z0 : n0 ≤ h0.size) (OL : Old Z n0 h0)  :
    MetFree l (⟨"java/lang/StringLatin1", "toBytes", "(C)[B"⟩ : MethodName) (head1 (Jvm.Cond.code (⟨"java/lang/StringLatin1", "toBytes", "(C)[B"⟩ : MethodName) jdk_43_method_46_code 1 (some (.array .byte)) :: ws) ({ frames := 0, cells := 1, slots := 1, locals := 0 } : Room)) (fun aa_ U => aa_ = #[(.int x0)] ∧ Z.Warmed39 U.vm ∧ U.heap = h0) (fun _ _ _ _ _ => True) (fun _ U o U' => ∃ v L, o = .returned v ∧ own_QTB1 Z x0 h0 n0 v U'.heap L ∧ FrameEnd U o U' L ({ frames := 0, cells := 1, slots := 1, locals := 0 } : Room).cells ({ frames := 0, cells := 1, slots := 1, locals := 0 } : Room).slots) := by
  refine MetFree.of_bodySF (plainFor_of_name own_pn2) hisR ?_
  intro p e s m args below meth c s₁ Bd hml0 hP hK
  obtain ⟨rfl, hZ, hh⟩ := hP
  have hx := Bd.exec
  have hby := Bd.bytes
  have hlk : meth.locks = false := BodyLoose.notSynchronized Bd
  have hml : c.maxLocals = 1 := hml0
  have hown : s.vm.findClass "java/lang/StringLatin1" = some m.cls := findClass_of_methodNamed Bd.named
  have hnm := (name_of_methodNamed Bd.named Bd.method).1
  have X0 : Stand p l e ({ frames := 0, cells := 1, slots := 1, locals := 0 } : Room) s m #[(.int x0)] below meth c s₁ [] 0 0 := Stand.of_body Bd
  have e0 : s₁.heap = h0 := by rw [← hh, Bd.state]; rfl
  have N0 := Fr.nil n0
  have KP : Keep h0 h0 [] := Keep.refl _ _
  refine own_start (Fin := (own_Fin s (own_QTB1 Z x0 h0 n0) ({ frames := 0, cells := 1, slots := 1, locals := 0 } : Room).cells ({ frames := 0, cells := 1, slots := 1, locals := 0 } : Room).slots)) (own_from (mkF m 0 #[iv x0] []) (castTop (own_ef_TB1 m x0)) ?_)
  refine own_to (T' := s₁) (mkF m 1 #[iv x0] [(.int (1 : Int32))]) (fun _ k => XS.iconst X0.here hx rfl (hb hby own_d_jdk_43_method_46_0) k) ?_
  obtain ⟨T277, h277, k277, X277, e277, E277, A277, B277, st277⟩ := newPE X0 hx hZ (hw _ (List.mem_of_getElem? (i := 20) rfl)) e0 (g := (mkF m 1 #[iv x0] [(.int (1 : Int32))])) rfl (hb hby own_d_jdk_43_method_46_1) rfl (by decide) (cap := 1) (by decide) (by decide) (by decide) (by decide) (ad := "[B") (by decide)
  obtain ⟨b277, g277⟩ : ∃ z, z = h0.size := ⟨_, rfl⟩
  rw [← g277] at A277 B277 st277
  have sz_b277 : h0.size ≤ b277 := Nat.le_trans KP.1 (Nat.le_of_eq g277.symm)
  have ge_b277 : n0 ≤ b277 := Nat.le_trans Z0 sz_b277
  have OL := OL.ext E277
  have KP := KP.ext E277
  have V_b277 : Arv Z h277 b277 k277 .byte (1 : Int32) [(.int (0 : Int32))] (.int (0 : Int32)) := (Arv.new A277 (by decide)).pad (pad_rep [] (.int (0 : Int32)) 1)
  refine own_to (mkF m 3 #[iv x0] [(.ref b277)]) st277 ?_
  refine own_to (T' := T277) (mkF m 4 #[iv x0] [(.ref b277), (.ref b277)]) (fun _ k => XS.dup X277.here hx rfl (hb hby own_d_jdk_43_method_46_3) rfl rfl k) ?_
  refine own_to (T' := T277) (mkF m 5 #[iv x0] [(.int (0 : Int32)), (.ref b277), (.ref b277)]) (fun _ k => XS.iconst X277.here hx rfl (hb hby own_d_jdk_43_method_46_4) k) ?_
  refine own_to (T' := T277) (mkF m 6 #[iv x0] [(.int x0), (.int (0 : Int32)), (.ref b277), (.ref b277)]) (fun _ k => XS.iloadN X277.here hx rfl (hb hby own_d_jdk_43_method_46_5) rfl k) ?_
  refine own_to (T' := T277) (mkF m 7 #[iv x0] [(.int (x0.toInt8.toInt32)), (.int (0 : Int32)), (.ref b277), (.ref b277)]) (fun _ k => XS.i2b X277.here hx rfl (hb hby own_d_jdk_43_method_46_6) rfl k) ?_
  obtain ⟨cl278, Ar278, q278, S278, M278, H278, G278⟩ := id V_b277
  obtain ⟨T278, h278, X278, e278, W278, st278⟩ := stB X277 hx hZ e277 Ar278 (j := (0 : Int32)) (inb_of S278 ⟨by decide, by decide⟩) (g := (mkF m 7 #[iv x0] [(.int (x0.toInt8.toInt32)), (.int (0 : Int32)), (.ref b277), (.ref b277)])) rfl rfl (hb hby own_d_jdk_43_method_46_7)
  refine own_to (mkF m 8 #[iv x0] [(.ref b277)]) st278 ?_
  have N278 := Fr.snoc X278 N0 ge_b277
  have tmp278 : Arv Z h278 b277 k277 .byte (1 : Int32) [(.int ((x0.toInt8.toInt32).toInt8.toInt32))] (.int (0 : Int32)) := Arv.set Ar278 q278 S278 M278 H278 G278 (fits_nar_byte _) W278 0 rfl (Nat.le_of_ble_eq_true rfl)
  rw [own_b8] at tmp278
  have OL := OL.wr W278 ge_b277
  have KP := KP.wr W278 (Or.inr sz_b277)
  have V_b277 := tmp278
  exact own_retA X278 hx Bd.returns rfl hlk (hb hby own_d_jdk_43_method_46_8) rfl (by decide) (by decide) (by rw [e278]; exact ⟨b277, rfl, N278, KP⟩)
def own_QTBU (Z : State) (x0 G1 : Int32) (h0 : Heap) (n0 : Nat) (v : Option Value) (h : Heap) (L : List Loc) : Prop := ∃ b : Addr, v = some (.ref b) ∧ Fr n0 L ∧ Keep h0 h []
set_option maxRecDepth 65536 in
set_option maxHeartbeats 40000000 in
theorem own_rmTBU (l : Launch) (Z : State) (a0 : Array Value) (hw : ∀ d ∈ tables_1, d.before a0 Z = true) (ws : List Jvm.Cond) (x0 G1 : Int32) (h0 : Heap) (n0 : Nat) (Z0 : n0 ≤ h0.size) (OL : Old Z n0 h0) (O2 : Sta Z Z.heap "java/lang/String" "COMPACT_STRINGS" "Z" (.int G1)) (P5 : ¬ (G1 = (0 : Int32))) (OAD : Sta Z Z.heap "java/lang/StringUTF16" "$assertionsDisabled" "Z" (.int (1 : Int32))) (OHI : Sta Z Z.heap "java/lang/StringUTF16" "HI_BYTE_SHIFT" "I" (.int (0 : Int32))) (OLO : Sta Z Z.heap "java/lang/StringUTF16" "LO_BYTE_SHIFT" "I" (.int (8 : Int32))) :
    MetFree l (⟨"java/lang/StringUTF16", "toBytes", "(C)[B"⟩ : MethodName) (head1 (Jvm.Cond.code (⟨"java/lang/StringUTF16", "toBytes", "(C)[B"⟩ : MethodName) jdk_52_method_24_code 2 (some (.array .byte)) :: ws) ({ frames := 1, cells := 1, slots := 2, locals := 20 } : Room)) (fun aa_ U => aa_ = #[(.int x0)] ∧ Z.Warmed39 U.vm ∧ U.heap = h0) (fun _ _ _ _ _ => True) (fun _ U o U' => ∃ v L, o = .returned v ∧ own_QTBU Z x0 G1 h0 n0 v U'.heap L ∧ FrameEnd U o U' L ({ frames := 1, cells := 1, slots := 2, locals := 20 } : Room).cells ({ frames := 1, cells := 1, slots := 2, locals := 20 } : Room).slots) := by
  refine MetFree.of_bodySF (plainFor_of_name own_pn0) hisR ?_
  intro p e s m args below meth c s₁ Bd hml0 hP hK
  obtain ⟨rfl, hZ, hh⟩ := hP
  have hx := Bd.exec
  have hby := Bd.bytes
  have hlk : meth.locks = false := BodyLoose.notSynchronized Bd
  have hml : c.maxLocals = 2 := hml0
  have hown : s.vm.findClass "java/lang/StringUTF16" = some m.cls := findClass_of_methodNamed Bd.named
  have hnm := (name_of_methodNamed Bd.named Bd.method).1
  have X0 : Stand p l e ({ frames := 1, cells := 1, slots := 2, locals := 20 } : Room) s m #[(.int x0)] below meth c s₁ [] 0 0 := Stand.of_body Bd
  have e0 : s₁.heap = h0 := by rw [← hh, Bd.state]; rfl
  have N0 := Fr.nil n0
  have KP : Keep h0 h0 [] := Keep.refl _ _
  refine own_start (Fin := (own_Fin s (own_QTBU Z x0 G1 h0 n0) ({ frames := 1, cells := 1, slots := 2, locals := 20 } : Room).cells ({ frames := 1, cells := 1, slots := 2, locals := 20 } : Room).slots)) (own_from (mkF m 0 #[iv x0, .unset] []) (castTop (own_ef_TBU m x0)) ?_)
  refine own_to (T' := s₁) (mkF m 1 #[iv x0, .unset] [(.int (2 : Int32))]) (fun _ k => XS.iconst X0.here hx rfl (hb hby own_d_jdk_52_method_24_0) k) ?_
  obtain ⟨T279, h279, k279, X279, e279, E279, A279, B279, st279⟩ := newPE X0 hx hZ (hw _ (List.mem_of_getElem? (i := 20) rfl)) e0 (g := (mkF m 1 #[iv x0, .unset] [(.int (2 : Int32))])) rfl (hb hby own_d_jdk_52_method_24_1) rfl (by decide) (cap := 2) (by decide) (by decide) (by decide) (by decide) (ad := "[B") (by decide)
  obtain ⟨b279, g279⟩ : ∃ z, z = h0.size := ⟨_, rfl⟩
  rw [← g279] at A279 B279 st279
  have sz_b279 : h0.size ≤ b279 := Nat.le_trans KP.1 (Nat.le_of_eq g279.symm)
  have ge_b279 : n0 ≤ b279 := Nat.le_trans Z0 sz_b279
  have OL := OL.ext E279
  have KP := KP.ext E279
  have V_b279 : Arv Z h279 b279 k279 .byte (2 : Int32) [(.int (0 : Int32)), (.int (0 : Int32))] (.int (0 : Int32)) := (Arv.new A279 (by decide)).pad (pad_rep [] (.int (0 : Int32)) 2)
  refine own_to (mkF m 3 #[iv x0, .unset] [(.ref b279)]) st279 ?_
  refine own_to (T' := T279) (mkF m 4 #[iv x0, rv b279] []) (fun _ k => XS.astoreN X279.here hx rfl (hb hby own_d_jdk_52_method_24_3) rfl rfl (l' := #[iv x0, rv b279]) rfl k) ?_
  refine own_to (T' := T279) (mkF m 5 #[iv x0, rv b279] [(.ref b279)]) (fun _ k => XS.aloadN X279.here hx rfl (hb hby own_d_jdk_52_method_24_4) rfl rfl k) ?_
  refine own_to (T' := T279) (mkF m 6 #[iv x0, rv b279] [(.int (0 : Int32)), (.ref b279)]) (fun _ k => XS.iconst X279.here hx rfl (hb hby own_d_jdk_52_method_24_5) k) ?_
  refine own_to (T' := T279) (mkF m 7 #[iv x0, rv b279] [(.int x0), (.int (0 : Int32)), (.ref b279)]) (fun _ k => XS.iloadN X279.here hx rfl (hb hby own_d_jdk_52_method_24_6) rfl k) ?_
  obtain ⟨_, _, ⟨T280, L280, k280, n280⟩, -, X280, ⟨Lc280, hQ280, l280, y280, z280⟩, st280⟩ := Jvm.LawKit.callS X279 hx (y := (⟨"java/lang/StringUTF16", "putChar", "([BII)V"⟩ : MethodName)) hown (mvT hZ (hw _ (List.mem_of_getElem? (i := 79) rfl))) (mvT hZ (hw _ (List.mem_of_getElem? (i := 80) rfl))) (mvT hZ (hw _ (List.mem_of_getElem? (i := 18) rfl))) (mvT hZ (hw _ (List.mem_of_getElem? (i := 81) rfl))) (by decide) (backOf (W := 0) (own_rmPC_1_0 l Z a0 hw [] 0 0 x0 G1 b279 k279 h279 n0 (Nat.le_trans Z0 KP.1) OL ge_b279 V_b279 O2 P5 OAD OHI OLO) hZ (hw _ (List.mem_of_getElem? (i := 81) rfl)) (hw _ (List.mem_of_getElem? (i := 18) rfl)) (by decide) (by decide)) (g := (mkF m 7 #[iv x0, rv b279] [(.int x0), (.int (0 : Int32)), (.ref b279)])) rfl (by rw [hml]; rfl) (argsL := [(.ref b279), (.int (0 : Int32)), (.int x0)]) (rest := []) (lenOf own_pd2 rfl) rfl (by show 2 * 0 + _ ≤ _; exact Nat.le_of_eq rfl) (hb hby own_d_jdk_52_method_24_7) (fun _ _ => ⟨rfl, e279, (by decide : 1 + 0 ≤ _), (by decide : 2 + 0 ≤ _)⟩)
  dsimp only [Pt.U, Pt.locs, Pt.cells, Pt.slots] at X280 l280 y280 z280 st280 hQ280
  subst l280 y280 z280
  obtain ⟨rfl, N280q, K280, Vq280⟩ := hQ280
  have N280 := Fr.app N0 N280q
  have OL := OL.keep K280 (allS ge_b279 all0)
  have KP := KP.trans K280 (allS (Or.inr sz_b279) all0)
  refine own_to (mkF m 10 #[iv x0, rv b279] []) st280 ?_
  refine own_to (T' := T280) (mkF m 11 #[iv x0, rv b279] [(.ref b279)]) (fun _ k => XS.aloadN X280.here hx rfl (hb hby own_d_jdk_52_method_24_10) rfl rfl k) ?_
  exact own_retA X280 hx Bd.returns rfl hlk (hb hby own_d_jdk_52_method_24_11) rfl (by decide) (by decide) (by exact ⟨b279, rfl, N280, KP⟩)
def own_QIB0 (Z : State) (a t : Addr) (h0 : Heap) (n0 : Nat) (v : Option Value) (h : Heap) (L : List Loc) : Prop := v = none ∧ Fr n0 L ∧ Keep h0 h [a]
set_option maxRecDepth 65536 in
set_option maxHeartbeats 40000000 in
theorem own_rmIB0 (l : Launch) (Z : State) (a0 : Array Value) (hw : ∀ d ∈ tables_1, d.before a0 Z = true) (ws : List Jvm.Cond) (a t : Addr) (h0 : Heap) (n0 : Nat) (Z0 : n0 ≤ h0.size) (OL : Old Z n0 h0) (E_a : Exa Z h0 a "java/lang/String") (ge_a : n0 ≤ a) (F_value_a : Fld Z h0 a "java/lang/String" "value" "[B" .null) (F_coder_a : Fld Z h0 a "java/lang/String" "coder" "B" (.int (0 : Int32))) :
    MetFree l (⟨"java/lang/String", "<init>", "([BB)V"⟩ : MethodName) (head1 (Jvm.Cond.code (⟨"java/lang/String", "<init>", "([BB)V"⟩ : MethodName) jdk_42_method_151_code 3 none :: ws) ({ frames := 1, cells := 0, slots := 0, locals := 12 } : Room)) (fun aa_ U => aa_ = #[(.ref a), (.ref t), (.int (0 : Int32))] ∧ Z.Warmed39 U.vm ∧ U.heap = h0) (fun _ _ _ _ _ => True) (fun _ U o U' => ∃ v L, o = .returned v ∧ own_QIB0 Z a t h0 n0 v U'.heap L ∧ FrameEnd U o U' L ({ frames := 1, cells := 0, slots := 0, locals := 12 } : Room).cells ({ frames := 1, cells := 0, slots := 0, locals := 12 } : Room).slots) := by
  refine MetFree.of_bodySF (plainFor_of_name own_pn1) hisR ?_
  intro p e s m args below meth c s₁ Bd hml0 hP hK
  obtain ⟨rfl, hZ, hh⟩ := hP
  have hx := Bd.exec
  have hby := Bd.bytes
  have hlk : meth.locks = false := BodyLoose.notSynchronized Bd
  have hml : c.maxLocals = 3 := hml0
  have hown : s.vm.findClass "java/lang/String" = some m.cls := findClass_of_methodNamed Bd.named
  have hnm := (name_of_methodNamed Bd.named Bd.method).1
  have X0 : Stand p l e ({ frames := 1, cells := 0, slots := 0, locals := 12 } : Room) s m #[(.ref a), (.ref t), (.int (0 : Int32))] below meth c s₁ [] 0 0 := Stand.of_body Bd
  have e0 : s₁.heap = h0 := by rw [← hh, Bd.state]; rfl
  have N0 := Fr.nil n0
  have KP : Keep h0 h0 [a] := Keep.refl _ _
  refine own_start (Fin := (own_Fin s (own_QIB0 Z a t h0 n0) ({ frames := 1, cells := 0, slots := 0, locals := 12 } : Room).cells ({ frames := 1, cells := 0, slots := 0, locals := 12 } : Room).slots)) (own_from (mkF m 0 #[rv a, rv t, iv 0] []) (castTop (own_ef_IB0 m a t (0 : Int32))) ?_)
  refine own_to (T' := s₁) (mkF m 1 #[rv a, rv t, iv 0] [(.ref a)]) (fun _ k => XS.aloadN X0.here hx rfl (hb hby own_d_jdk_42_method_151_0) rfl rfl k) ?_
  obtain ⟨T281, X281, e281, st281⟩ := initO X0 hx hZ hown (hw _ (List.mem_of_getElem? (i := 12) rfl)) (hw _ (List.mem_of_getElem? (i := 13) rfl)) (hw _ (List.mem_of_getElem? (i := 14) rfl)) e0 (g := (mkF m 1 #[rv a, rv t, iv 0] [(.ref a)])) rfl (by rw [hml]; rfl) rfl (hb hby own_d_jdk_42_method_151_1) (by decide) (W := 0) (by show 2 * 0 + _ ≤ _; exact Nat.le_of_eq rfl) (by decide)
  refine own_to (mkF m 4 #[rv a, rv t, iv 0] []) st281 ?_
  refine own_to (T' := T281) (mkF m 5 #[rv a, rv t, iv 0] [(.ref a)]) (fun _ k => XS.aloadN X281.here hx rfl (hb hby own_d_jdk_42_method_151_4) rfl rfl k) ?_
  refine own_to (T' := T281) (mkF m 6 #[rv a, rv t, iv 0] [(.ref t), (.ref a)]) (fun _ k => XS.aloadN X281.here hx rfl (hb hby own_d_jdk_42_method_151_5) rfl rfl k) ?_
  obtain ⟨T282, h282, X282, e282, W282, st282⟩ := putF X281 hx hZ hown (host := "") (Or.inl (hw _ (List.mem_of_getElem? (i := 29) rfl))) Via.refl e281 F_value_a E_a (Or.inr ⟨(hw _ (List.mem_of_getElem? (i := 30) rfl)), rfl, hnm⟩) (hw _ (List.mem_of_getElem? (i := 2) rfl)) (ty := (.array .byte)) (by decide) rfl rfl (g := (mkF m 6 #[rv a, rv t, iv 0] [(.ref t), (.ref a)])) rfl rfl (hb hby own_d_jdk_42_method_151_6)
  refine own_to (mkF m 9 #[rv a, rv t, iv 0] []) st282 ?_
  have N282 := Fr.snoc X282 N0 ge_a
  have tmp282 : Fld Z h282 a "java/lang/String" "value" "[B" (.ref t) := F_value_a.same W282
  have OL := OL.wr W282 ge_a
  have KP := KP.wr W282 (Or.inl (List.mem_of_getElem? (i := 0) rfl))
  have E_a := E_a.wr W282
  have F_coder_a := F_coder_a.other W282 (Or.inr (slot_ne (Or.inr (hw _ (List.mem_of_getElem? (i := 28) rfl))) (Or.inr (hw _ (List.mem_of_getElem? (i := 30) rfl))) (by decide) (t := .byte) (t' := (.array .byte)) (by decide) (by decide)))
  have F_value_a := tmp282
  refine own_to (T' := T282) (mkF m 10 #[rv a, rv t, iv 0] [(.ref a)]) (fun _ k => XS.aloadN X282.here hx rfl (hb hby own_d_jdk_42_method_151_9) rfl rfl k) ?_
  refine own_to (T' := T282) (mkF m 11 #[rv a, rv t, iv 0] [(.int (0 : Int32)), (.ref a)]) (fun _ k => XS.iloadN X282.here hx rfl (hb hby own_d_jdk_42_method_151_10) rfl k) ?_
  obtain ⟨T283, h283, X283, e283, W283, st283⟩ := putFN X282 hx hZ hown (hw _ (List.mem_of_getElem? (i := 27) rfl)) Via.refl e282 F_coder_a E_a (Or.inr ⟨(hw _ (List.mem_of_getElem? (i := 28) rfl)), rfl, hnm⟩) (hw _ (List.mem_of_getElem? (i := 2) rfl)) (ty := .byte) (v' := (.int (0 : Int32))) (by decide) rfl rfl (g := (mkF m 11 #[rv a, rv t, iv 0] [(.int (0 : Int32)), (.ref a)])) rfl rfl (hb hby own_d_jdk_42_method_151_11)
  refine own_to (mkF m 14 #[rv a, rv t, iv 0] []) st283 ?_
  have N283 := Fr.snoc X283 N282 ge_a
  have tmp283 : Fld Z h283 a "java/lang/String" "coder" "B" (.int (0 : Int32)) := F_coder_a.same W283
  have OL := OL.wr W283 ge_a
  have KP := KP.wr W283 (Or.inl (List.mem_of_getElem? (i := 0) rfl))
  have E_a := E_a.wr W283
  have F_value_a := F_value_a.other W283 (Or.inr (slot_ne (Or.inr (hw _ (List.mem_of_getElem? (i := 30) rfl))) (Or.inr (hw _ (List.mem_of_getElem? (i := 28) rfl))) (by decide) (t := (.array .byte)) (t' := .byte) (by decide) (by decide)))
  have F_coder_a := tmp283
  exact own_ret0 X283 hx Bd.returns hlk (hb hby own_d_jdk_42_method_151_14) (by decide) (by decide) (by rw [e283]; exact ⟨rfl, N283, KP⟩)
def own_QIB1 (Z : State) (a t : Addr) (h0 : Heap) (n0 : Nat) (v : Option Value) (h : Heap) (L : List Loc) : Prop := v = none ∧ Fr n0 L ∧ Keep h0 h [a]
set_option maxRecDepth 65536 in
set_option maxHeartbeats 40000000 in
theorem own_rmIB1 (l : Launch) (Z : State) (a0 : Array Value) (hw : ∀ d ∈ tables_1, d.before a0 Z = true) (ws : List Jvm.Cond) (a t : Addr) (h0 : Heap) (n0 : Nat) (Z0 : n0 ≤ h0.size) (OL : Old Z n0 h0) (E_a : Exa Z h0 a "java/lang/String") (ge_a : n0 ≤ a) (F_value_a : Fld Z h0 a "java/lang/String" "value" "[B" .null) (F_coder_a : Fld Z h0 a "java/lang/String" "coder" "B" (.int (0 : Int32))) :
    MetFree l (⟨"java/lang/String", "<init>", "([BB)V"⟩ : MethodName) (head1 (Jvm.Cond.code (⟨"java/lang/String", "<init>", "([BB)V"⟩ : MethodName) jdk_42_method_151_code 3 none :: ws) ({ frames := 1, cells := 0, slots := 0, locals := 12 } : Room)) (fun aa_ U => aa_ = #[(.ref a), (.ref t), (.int (1 : Int32))] ∧ Z.Warmed39 U.vm ∧ U.heap = h0) (fun _ _ _ _ _ => True) (fun _ U o U' => ∃ v L, o = .returned v ∧ own_QIB1 Z a t h0 n0 v U'.heap L ∧ FrameEnd U o U' L ({ frames := 1, cells := 0, slots := 0, locals := 12 } : Room).cells ({ frames := 1, cells := 0, slots := 0, locals := 12 } : Room).slots) := by
  refine MetFree.of_bodySF (plainFor_of_name own_pn1) hisR ?_
  intro p e s m args below meth c s₁ Bd hml0 hP hK
  obtain ⟨rfl, hZ, hh⟩ := hP
  have hx := Bd.exec
  have hby := Bd.bytes
  have hlk : meth.locks = false := BodyLoose.notSynchronized Bd
  have hml : c.maxLocals = 3 := hml0
  have hown : s.vm.findClass "java/lang/String" = some m.cls := findClass_of_methodNamed Bd.named
  have hnm := (name_of_methodNamed Bd.named Bd.method).1
  have X0 : Stand p l e ({ frames := 1, cells := 0, slots := 0, locals := 12 } : Room) s m #[(.ref a), (.ref t), (.int (1 : Int32))] below meth c s₁ [] 0 0 := Stand.of_body Bd
  have e0 : s₁.heap = h0 := by rw [← hh, Bd.state]; rfl
  have N0 := Fr.nil n0
  have KP : Keep h0 h0 [a] := Keep.refl _ _
  refine own_start (Fin := (own_Fin s (own_QIB1 Z a t h0 n0) ({ frames := 1, cells := 0, slots := 0, locals := 12 } : Room).cells ({ frames := 1, cells := 0, slots := 0, locals := 12 } : Room).slots)) (own_from (mkF m 0 #[rv a, rv t, iv 1] []) (castTop (own_ef_IB1 m a t (1 : Int32))) ?_)
  refine own_to (T' := s₁) (mkF m 1 #[rv a, rv t, iv 1] [(.ref a)]) (fun _ k => XS.aloadN X0.here hx rfl (hb hby own_d_jdk_42_method_151_0) rfl rfl k) ?_
  obtain ⟨T284, X284, e284, st284⟩ := initO X0 hx hZ hown (hw _ (List.mem_of_getElem? (i := 12) rfl)) (hw _ (List.mem_of_getElem? (i := 13) rfl)) (hw _ (List.mem_of_getElem? (i := 14) rfl)) e0 (g := (mkF m 1 #[rv a, rv t, iv 1] [(.ref a)])) rfl (by rw [hml]; rfl) rfl (hb hby own_d_jdk_42_method_151_1) (by decide) (W := 0) (by show 2 * 0 + _ ≤ _; exact Nat.le_of_eq rfl) (by decide)
  refine own_to (mkF m 4 #[rv a, rv t, iv 1] []) st284 ?_
  refine own_to (T' := T284) (mkF m 5 #[rv a, rv t, iv 1] [(.ref a)]) (fun _ k => XS.aloadN X284.here hx rfl (hb hby own_d_jdk_42_method_151_4) rfl rfl k) ?_
  refine own_to (T' := T284) (mkF m 6 #[rv a, rv t, iv 1] [(.ref t), (.ref a)]) (fun _ k => XS.aloadN X284.here hx rfl (hb hby own_d_jdk_42_method_151_5) rfl rfl k) ?_
  obtain ⟨T285, h285, X285, e285, W285, st285⟩ := putF X284 hx hZ hown (host := "") (Or.inl (hw _ (List.mem_of_getElem? (i := 29) rfl))) Via.refl e284 F_value_a E_a (Or.inr ⟨(hw _ (List.mem_of_getElem? (i := 30) rfl)), rfl, hnm⟩) (hw _ (List.mem_of_getElem? (i := 2) rfl)) (ty := (.array .byte)) (by decide) rfl rfl (g := (mkF m 6 #[rv a, rv t, iv 1] [(.ref t), (.ref a)])) rfl rfl (hb hby own_d_jdk_42_method_151_6)
  refine own_to (mkF m 9 #[rv a, rv t, iv 1] []) st285 ?_
  have N285 := Fr.snoc X285 N0 ge_a
  have tmp285 : Fld Z h285 a "java/lang/String" "value" "[B" (.ref t) := F_value_a.same W285
  have OL := OL.wr W285 ge_a
  have KP := KP.wr W285 (Or.inl (List.mem_of_getElem? (i := 0) rfl))
  have E_a := E_a.wr W285
  have F_coder_a := F_coder_a.other W285 (Or.inr (slot_ne (Or.inr (hw _ (List.mem_of_getElem? (i := 28) rfl))) (Or.inr (hw _ (List.mem_of_getElem? (i := 30) rfl))) (by decide) (t := .byte) (t' := (.array .byte)) (by decide) (by decide)))
  have F_value_a := tmp285
  refine own_to (T' := T285) (mkF m 10 #[rv a, rv t, iv 1] [(.ref a)]) (fun _ k => XS.aloadN X285.here hx rfl (hb hby own_d_jdk_42_method_151_9) rfl rfl k) ?_
  refine own_to (T' := T285) (mkF m 11 #[rv a, rv t, iv 1] [(.int (1 : Int32)), (.ref a)]) (fun _ k => XS.iloadN X285.here hx rfl (hb hby own_d_jdk_42_method_151_10) rfl k) ?_
  obtain ⟨T286, h286, X286, e286, W286, st286⟩ := putFN X285 hx hZ hown (hw _ (List.mem_of_getElem? (i := 27) rfl)) Via.refl e285 F_coder_a E_a (Or.inr ⟨(hw _ (List.mem_of_getElem? (i := 28) rfl)), rfl, hnm⟩) (hw _ (List.mem_of_getElem? (i := 2) rfl)) (ty := .byte) (v' := (.int (1 : Int32))) (by decide) rfl rfl (g := (mkF m 11 #[rv a, rv t, iv 1] [(.int (1 : Int32)), (.ref a)])) rfl rfl (hb hby own_d_jdk_42_method_151_11)
  refine own_to (mkF m 14 #[rv a, rv t, iv 1] []) st286 ?_
  have N286 := Fr.snoc X286 N285 ge_a
  have tmp286 : Fld Z h286 a "java/lang/String" "coder" "B" (.int (1 : Int32)) := F_coder_a.same W286
  have OL := OL.wr W286 ge_a
  have KP := KP.wr W286 (Or.inl (List.mem_of_getElem? (i := 0) rfl))
  have E_a := E_a.wr W286
  have F_value_a := F_value_a.other W286 (Or.inr (slot_ne (Or.inr (hw _ (List.mem_of_getElem? (i := 30) rfl))) (Or.inr (hw _ (List.mem_of_getElem? (i := 28) rfl))) (by decide) (t := (.array .byte)) (t' := .byte) (by decide) (by decide)))
  have F_coder_a := tmp286
  exact own_ret0 X286 hx Bd.returns hlk (hb hby own_d_jdk_42_method_151_14) (by decide) (by decide) (by rw [e286]; exact ⟨rfl, N286, KP⟩)
def own_QVO (Z : State) (x0 G1 : Int32) (h0 : Heap) (n0 : Nat) (v : Option Value) (h : Heap) (L : List Loc) : Prop := ∃ b : Addr, v = some (.ref b) ∧ Fr n0 L ∧ Keep h0 h []
set_option maxRecDepth 65536 in
set_option maxHeartbeats 40000000 in
theorem own_rmVO (l : Launch) (Z : State) (a0 : Array Value) (hw : ∀ d ∈ tables_1, d.before a0 Z = true) (ws : List Jvm.Cond) (x0 G1 : Int32) (h0 : Heap) (n0 : Nat) (Z0 : n0 ≤ h0.size) (OL : Old Z n0 h0) (O2 : Sta Z Z.heap "java/lang/String" "COMPACT_STRINGS" "Z" (.int G1)) (P5 : ¬ (G1 = (0 : Int32))) (OAD : Sta Z Z.heap "java/lang/StringUTF16" "$assertionsDisabled" "Z" (.int (1 : Int32))) (OHI : Sta Z Z.heap "java/lang/StringUTF16" "HI_BYTE_SHIFT" "I" (.int (0 : Int32))) (OLO : Sta Z Z.heap "java/lang/StringUTF16" "LO_BYTE_SHIFT" "I" (.int (8 : Int32))) :
    MetFree l (⟨"java/lang/String", "valueOf", "(C)Ljava/lang/String;"⟩ : MethodName) (head1 (Jvm.Cond.code (⟨"java/lang/String", "valueOf", "(C)Ljava/lang/String;"⟩ : MethodName) jdk_42_method_139_code 1 (some (.object "java/lang/String")) :: ws) ({ frames := 3, cells := 2, slots := 6, locals := 50 } : Room)) (fun aa_ U => aa_ = #[(.int x0)] ∧ Z.Warmed39 U.vm ∧ U.heap = h0) (fun _ _ _ _ _ => True) (fun _ U o U' => ∃ v L, o = .returned v ∧ own_QVO Z x0 G1 h0 n0 v U'.heap L ∧ FrameEnd U o U' L ({ frames := 3, cells := 2, slots := 6, locals := 50 } : Room).cells ({ frames := 3, cells := 2, slots := 6, locals := 50 } : Room).slots) := by
  refine MetFree.of_bodySF (plainFor_of_name own_pn1) hisR ?_
  intro p e s m args below meth c s₁ Bd hml0 hP hK
  obtain ⟨rfl, hZ, hh⟩ := hP
  have hx := Bd.exec
  have hby := Bd.bytes
  have hlk : meth.locks = false := BodyLoose.notSynchronized Bd
  have hml : c.maxLocals = 1 := hml0
  have hown : s.vm.findClass "java/lang/String" = some m.cls := findClass_of_methodNamed Bd.named
  have hnm := (name_of_methodNamed Bd.named Bd.method).1
  have X0 : Stand p l e ({ frames := 3, cells := 2, slots := 6, locals := 50 } : Room) s m #[(.int x0)] below meth c s₁ [] 0 0 := Stand.of_body Bd
  have e0 : s₁.heap = h0 := by rw [← hh, Bd.state]; rfl
  have N0 := Fr.nil n0
  have KP : Keep h0 h0 [] := Keep.refl _ _
  refine own_start (Fin := (own_Fin s (own_QVO Z x0 G1 h0 n0) ({ frames := 3, cells := 2, slots := 6, locals := 50 } : Room).cells ({ frames := 3, cells := 2, slots := 6, locals := 50 } : Room).slots)) (own_from (mkF m 0 #[iv x0] []) (castTop (own_ef_VO m x0)) ?_)
  obtain ⟨T287, X287, e287, st287⟩ := getS2 X0 hx hZ hown (host := "") (Or.inl (hw _ (List.mem_of_getElem? (i := 15) rfl))) Via.refl e0 (O2.ext OL.2) (g := (mkF m 0 #[iv x0] [])) rfl (hb hby own_d_jdk_42_method_139_0)
  refine own_to (mkF m 3 #[iv x0] [(.int G1)]) st287 ?_
  refine own_to (T' := T287) (mkF m 6 #[iv x0] []) (fun _ k => XS.ifNo X287.here hx rfl (hb hby own_d_jdk_42_method_139_3) rfl ((if0 _ _).trans (feq P5).1) k) ?_
  refine own_to (T' := T287) (mkF m 7 #[iv x0] [(.int x0)]) (fun _ k => XS.iloadN X287.here hx rfl (hb hby own_d_jdk_42_method_139_6) rfl k) ?_
  by_cases hc : (255 : Int32) < x0
  · obtain ⟨_, _, ⟨T288, L288, k288, n288⟩, -, X288, ⟨Lc288, hQ288, l288, y288, z288⟩, st288⟩ := Jvm.LawKit.callS X287 hx (y := (⟨"java/lang/StringLatin1", "canEncode", "(C)Z"⟩ : MethodName)) hown (mvT hZ (hw _ (List.mem_of_getElem? (i := 35) rfl))) (mvT hZ (hw _ (List.mem_of_getElem? (i := 36) rfl))) (mvT hZ (hw _ (List.mem_of_getElem? (i := 37) rfl))) (mvT hZ (hw _ (List.mem_of_getElem? (i := 38) rfl))) (by decide) (backOf (W := 0) (own_rmCE0 l Z a0 hw [] x0 h0 n0 (Nat.le_trans Z0 KP.1) OL hc) hZ (hw _ (List.mem_of_getElem? (i := 38) rfl)) (hw _ (List.mem_of_getElem? (i := 37) rfl)) (by decide) (by decide)) (g := (mkF m 7 #[iv x0] [(.int x0)])) rfl (by rw [hml]; rfl) (argsL := [(.int x0)]) (rest := []) (lenOf own_pd9 rfl) rfl (by show 2 * 0 + _ ≤ _; exact Nat.le_of_eq rfl) (hb hby own_d_jdk_42_method_139_7) (fun _ _ => ⟨rfl, e287, (by decide : 0 + 0 ≤ _), (by decide : 0 + 0 ≤ _)⟩)
    dsimp only [Pt.U, Pt.locs, Pt.cells, Pt.slots] at X288 l288 y288 z288 st288 hQ288
    subst l288 y288 z288
    obtain ⟨rfl, N288q, e288⟩ := hQ288
    have N288 := Fr.app N0 N288q
    refine own_to (mkF m 10 #[iv x0] [(.int (0 : Int32))]) st288 ?_
    refine own_to (T' := T288) (mkF m 26 #[iv x0] []) (fun _ k => XS.ifYes X288.here hx rfl (pc0 := 10) (pc' := 26) rfl (hb hby own_d_jdk_42_method_139_10) rfl ((if0 _ _).trans (teq (by decide : (0 : Int32) = (0 : Int32))).1) (by decide) (by decide) k) ?_
    obtain ⟨T289, h289, X289, e289, E289, A289, D289, -, st289⟩ := newO X288 hx hZ hown (hw _ (List.mem_of_getElem? (i := 39) rfl)) (hw _ (List.mem_of_getElem? (i := 2) rfl)) (hw _ (List.mem_of_getElem? (i := 3) rfl)) e288 (g := (mkF m 26 #[iv x0] [])) rfl (hb hby own_d_jdk_42_method_139_26) (by decide) (by decide)
    obtain ⟨b289, g289⟩ : ∃ z, z = h0.size := ⟨_, rfl⟩
    rw [← g289] at A289 D289 st289
    have sz_b289 : h0.size ≤ b289 := Nat.le_trans KP.1 (Nat.le_of_eq g289.symm)
    have ge_b289 : n0 ≤ b289 := Nat.le_trans Z0 sz_b289
    have OL := OL.ext E289
    have KP := KP.ext E289
    have E_b289 : Exa Z h289 b289 "java/lang/String" := A289
    have F_coder_b289 : Fld Z h289 b289 "java/lang/String" "coder" "B" (.int (0 : Int32)) := D289 (Or.inr (hw _ (List.mem_of_getElem? (i := 28) rfl))) (ty := .byte) (by decide)
    have F_value_b289 : Fld Z h289 b289 "java/lang/String" "value" "[B" .null := D289 (Or.inr (hw _ (List.mem_of_getElem? (i := 30) rfl))) (ty := (.array .byte)) (by decide)
    refine own_to (mkF m 29 #[iv x0] [(.ref b289)]) st289 ?_
    refine own_to (T' := T289) (mkF m 30 #[iv x0] [(.ref b289), (.ref b289)]) (fun _ k => XS.dup X289.here hx rfl (hb hby own_d_jdk_42_method_139_29) rfl rfl k) ?_
    refine own_to (T' := T289) (mkF m 31 #[iv x0] [(.int x0), (.ref b289), (.ref b289)]) (fun _ k => XS.iloadN X289.here hx rfl (hb hby own_d_jdk_42_method_139_30) rfl k) ?_
    obtain ⟨_, _, ⟨T290, L290, k290, n290⟩, -, X290, ⟨Lc290, hQ290, l290, y290, z290⟩, st290⟩ := Jvm.LawKit.callS X289 hx (y := (⟨"java/lang/StringUTF16", "toBytes", "(C)[B"⟩ : MethodName)) hown (mvT hZ (hw _ (List.mem_of_getElem? (i := 91) rfl))) (mvT hZ (hw _ (List.mem_of_getElem? (i := 92) rfl))) (mvT hZ (hw _ (List.mem_of_getElem? (i := 18) rfl))) (mvT hZ (hw _ (List.mem_of_getElem? (i := 93) rfl))) (by decide) (backOf (W := 2) (own_rmTBU l Z a0 hw [] x0 G1 h289 n0 (Nat.le_trans Z0 KP.1) OL O2 P5 OAD OHI OLO) hZ (hw _ (List.mem_of_getElem? (i := 93) rfl)) (hw _ (List.mem_of_getElem? (i := 18) rfl)) (by decide) (by decide)) (g := (mkF m 31 #[iv x0] [(.int x0), (.ref b289), (.ref b289)])) rfl (by rw [hml]; rfl) (argsL := [(.int x0)]) (rest := [(.ref b289), (.ref b289)]) (lenOf own_pd10 rfl) rfl (by show 2 * 0 + _ ≤ _; exact Nat.le_of_eq rfl) (hb hby own_d_jdk_42_method_139_31) (fun _ _ => ⟨rfl, e289, (by decide : 1 + 1 ≤ _), (by decide : 4 + 2 ≤ _)⟩)
    dsimp only [Pt.U, Pt.locs, Pt.cells, Pt.slots] at X290 l290 y290 z290 st290 hQ290
    subst l290 y290 z290
    obtain ⟨t290, rfl, N290q, K290⟩ := hQ290
    have N290 := Fr.app N288 N290q
    have OL := OL.keep K290 all0
    have KP := KP.trans K290 all0
    have E_b289 := E_b289.keep K290
    have F_coder_b289 := F_coder_b289.keep K290 nin0
    have F_value_b289 := F_value_b289.keep K290 nin0
    refine own_to (mkF m 34 #[iv x0] [(.ref t290), (.ref b289), (.ref b289)]) st290 ?_
    refine own_to (T' := T290) (mkF m 35 #[iv x0] [(.int (1 : Int32)), (.ref t290), (.ref b289), (.ref b289)]) (fun _ k => XS.iconst X290.here hx rfl (hb hby own_d_jdk_42_method_139_34) k) ?_
    obtain ⟨_, _, ⟨T291, L291, k291, n291⟩, -, X291, ⟨Lc291, hQ291, l291, y291, z291⟩, st291⟩ := X290.specialBack hx (y := (⟨"java/lang/String", "<init>", "([BB)V"⟩ : MethodName)) rfl hown (mvT hZ (hw _ (List.mem_of_getElem? (i := 43) rfl))) (mvT hZ (hw _ (List.mem_of_getElem? (i := 44) rfl))) (mvT hZ (hw _ (List.mem_of_getElem? (i := 45) rfl))) (by decide) (backOf (W := 1) (own_rmIB1 l Z a0 hw [] b289 t290 T290.heap n0 (Nat.le_trans Z0 KP.1) OL E_b289 ge_b289 F_value_b289 F_coder_b289) hZ (hw _ (List.mem_of_getElem? (i := 45) rfl)) (hw _ (List.mem_of_getElem? (i := 3) rfl)) (by decide) (by decide)) (g := (mkF m 35 #[iv x0] [(.int (1 : Int32)), (.ref t290), (.ref b289), (.ref b289)])) rfl (by rw [hml]; rfl) (Steps.refl _) (a := b289) (argsL := [(.ref t290), (.int (1 : Int32))]) (rest := [(.ref b289)]) (lenOf own_pd11 rfl) rfl (by show 2 * 0 + _ ≤ _; exact Nat.le_of_eq rfl) (hb hby own_d_jdk_42_method_139_35) (fun _ _ => ⟨rfl, rfl, (by decide : 2 + 0 ≤ _), (by decide : 6 + 0 ≤ _)⟩)
    dsimp only [Pt.U, Pt.locs, Pt.cells, Pt.slots] at X291 l291 y291 z291 st291 hQ291
    subst l291 y291 z291
    obtain ⟨rfl, N291q, K291⟩ := hQ291
    have N291 := Fr.app N290 N291q
    have OL := OL.keep K291 (allS ge_b289 all0)
    have KP := KP.trans K291 (allS (Or.inr sz_b289) all0)
    have E_b289 := E_b289.keep K291
    refine own_via (mkF m 38 #[iv x0] [(.ref b289)]) st291 ?_
    exact own_retA X291 hx Bd.returns rfl hlk (hb hby own_d_jdk_42_method_139_38) rfl (by decide) (by decide) (by exact ⟨b289, rfl, N291, KP⟩)
  · obtain ⟨_, _, ⟨T292, L292, k292, n292⟩, -, X292, ⟨Lc292, hQ292, l292, y292, z292⟩, st292⟩ := Jvm.LawKit.callS X287 hx (y := (⟨"java/lang/StringLatin1", "canEncode", "(C)Z"⟩ : MethodName)) hown (mvT hZ (hw _ (List.mem_of_getElem? (i := 35) rfl))) (mvT hZ (hw _ (List.mem_of_getElem? (i := 36) rfl))) (mvT hZ (hw _ (List.mem_of_getElem? (i := 37) rfl))) (mvT hZ (hw _ (List.mem_of_getElem? (i := 38) rfl))) (by decide) (backOf (W := 0) (own_rmCE1 l Z a0 hw [] x0 h0 n0 (Nat.le_trans Z0 KP.1) OL hc) hZ (hw _ (List.mem_of_getElem? (i := 38) rfl)) (hw _ (List.mem_of_getElem? (i := 37) rfl)) (by decide) (by decide)) (g := (mkF m 7 #[iv x0] [(.int x0)])) rfl (by rw [hml]; rfl) (argsL := [(.int x0)]) (rest := []) (lenOf own_pd9 rfl) rfl (by show 2 * 0 + _ ≤ _; exact Nat.le_of_eq rfl) (hb hby own_d_jdk_42_method_139_7) (fun _ _ => ⟨rfl, e287, (by decide : 0 + 0 ≤ _), (by decide : 0 + 0 ≤ _)⟩)
    dsimp only [Pt.U, Pt.locs, Pt.cells, Pt.slots] at X292 l292 y292 z292 st292 hQ292
    subst l292 y292 z292
    obtain ⟨rfl, N292q, e292⟩ := hQ292
    have N292 := Fr.app N0 N292q
    refine own_to (mkF m 10 #[iv x0] [(.int (1 : Int32))]) st292 ?_
    refine own_to (T' := T292) (mkF m 13 #[iv x0] []) (fun _ k => XS.ifNo X292.here hx rfl (hb hby own_d_jdk_42_method_139_10) rfl ((if0 _ _).trans (feq (by decide : ¬ ((1 : Int32) = (0 : Int32)))).1) k) ?_
    obtain ⟨T293, h293, X293, e293, E293, A293, D293, -, st293⟩ := newO X292 hx hZ hown (hw _ (List.mem_of_getElem? (i := 39) rfl)) (hw _ (List.mem_of_getElem? (i := 2) rfl)) (hw _ (List.mem_of_getElem? (i := 3) rfl)) e292 (g := (mkF m 13 #[iv x0] [])) rfl (hb hby own_d_jdk_42_method_139_13) (by decide) (by decide)
    obtain ⟨b293, g293⟩ : ∃ z, z = h0.size := ⟨_, rfl⟩
    rw [← g293] at A293 D293 st293
    have sz_b293 : h0.size ≤ b293 := Nat.le_trans KP.1 (Nat.le_of_eq g293.symm)
    have ge_b293 : n0 ≤ b293 := Nat.le_trans Z0 sz_b293
    have OL := OL.ext E293
    have KP := KP.ext E293
    have E_b293 : Exa Z h293 b293 "java/lang/String" := A293
    have F_coder_b293 : Fld Z h293 b293 "java/lang/String" "coder" "B" (.int (0 : Int32)) := D293 (Or.inr (hw _ (List.mem_of_getElem? (i := 28) rfl))) (ty := .byte) (by decide)
    have F_value_b293 : Fld Z h293 b293 "java/lang/String" "value" "[B" .null := D293 (Or.inr (hw _ (List.mem_of_getElem? (i := 30) rfl))) (ty := (.array .byte)) (by decide)
    refine own_to (mkF m 16 #[iv x0] [(.ref b293)]) st293 ?_
    refine own_to (T' := T293) (mkF m 17 #[iv x0] [(.ref b293), (.ref b293)]) (fun _ k => XS.dup X293.here hx rfl (hb hby own_d_jdk_42_method_139_16) rfl rfl k) ?_
    refine own_to (T' := T293) (mkF m 18 #[iv x0] [(.int x0), (.ref b293), (.ref b293)]) (fun _ k => XS.iloadN X293.here hx rfl (hb hby own_d_jdk_42_method_139_17) rfl k) ?_
    obtain ⟨_, _, ⟨T294, L294, k294, n294⟩, -, X294, ⟨Lc294, hQ294, l294, y294, z294⟩, st294⟩ := Jvm.LawKit.callS X293 hx (y := (⟨"java/lang/StringLatin1", "toBytes", "(C)[B"⟩ : MethodName)) hown (mvT hZ (hw _ (List.mem_of_getElem? (i := 40) rfl))) (mvT hZ (hw _ (List.mem_of_getElem? (i := 41) rfl))) (mvT hZ (hw _ (List.mem_of_getElem? (i := 37) rfl))) (mvT hZ (hw _ (List.mem_of_getElem? (i := 42) rfl))) (by decide) (backOf (W := 2) (own_rmTB1 l Z a0 hw [] x0 h293 n0 (Nat.le_trans Z0 KP.1) OL) hZ (hw _ (List.mem_of_getElem? (i := 42) rfl)) (hw _ (List.mem_of_getElem? (i := 37) rfl)) (by decide) (by decide)) (g := (mkF m 18 #[iv x0] [(.int x0), (.ref b293), (.ref b293)])) rfl (by rw [hml]; rfl) (argsL := [(.int x0)]) (rest := [(.ref b293), (.ref b293)]) (lenOf own_pd10 rfl) rfl (by show 2 * 0 + _ ≤ _; exact Nat.le_of_eq rfl) (hb hby own_d_jdk_42_method_139_18) (fun _ _ => ⟨rfl, e293, (by decide : 1 + 1 ≤ _), (by decide : 4 + 1 ≤ _)⟩)
    dsimp only [Pt.U, Pt.locs, Pt.cells, Pt.slots] at X294 l294 y294 z294 st294 hQ294
    subst l294 y294 z294
    obtain ⟨t294, rfl, N294q, K294⟩ := hQ294
    have N294 := Fr.app N292 N294q
    have OL := OL.keep K294 all0
    have KP := KP.trans K294 all0
    have E_b293 := E_b293.keep K294
    have F_coder_b293 := F_coder_b293.keep K294 nin0
    have F_value_b293 := F_value_b293.keep K294 nin0
    refine own_to (mkF m 21 #[iv x0] [(.ref t294), (.ref b293), (.ref b293)]) st294 ?_
    refine own_to (T' := T294) (mkF m 22 #[iv x0] [(.int (0 : Int32)), (.ref t294), (.ref b293), (.ref b293)]) (fun _ k => XS.iconst X294.here hx rfl (hb hby own_d_jdk_42_method_139_21) k) ?_
    obtain ⟨_, _, ⟨T295, L295, k295, n295⟩, -, X295, ⟨Lc295, hQ295, l295, y295, z295⟩, st295⟩ := X294.specialBack hx (y := (⟨"java/lang/String", "<init>", "([BB)V"⟩ : MethodName)) rfl hown (mvT hZ (hw _ (List.mem_of_getElem? (i := 43) rfl))) (mvT hZ (hw _ (List.mem_of_getElem? (i := 44) rfl))) (mvT hZ (hw _ (List.mem_of_getElem? (i := 45) rfl))) (by decide) (backOf (W := 1) (own_rmIB0 l Z a0 hw [] b293 t294 T294.heap n0 (Nat.le_trans Z0 KP.1) OL E_b293 ge_b293 F_value_b293 F_coder_b293) hZ (hw _ (List.mem_of_getElem? (i := 45) rfl)) (hw _ (List.mem_of_getElem? (i := 3) rfl)) (by decide) (by decide)) (g := (mkF m 22 #[iv x0] [(.int (0 : Int32)), (.ref t294), (.ref b293), (.ref b293)])) rfl (by rw [hml]; rfl) (Steps.refl _) (a := b293) (argsL := [(.ref t294), (.int (0 : Int32))]) (rest := [(.ref b293)]) (lenOf own_pd11 rfl) rfl (by show 2 * 0 + _ ≤ _; exact Nat.le_of_eq rfl) (hb hby own_d_jdk_42_method_139_22) (fun _ _ => ⟨rfl, rfl, (by decide : 2 + 0 ≤ _), (by decide : 5 + 0 ≤ _)⟩)
    dsimp only [Pt.U, Pt.locs, Pt.cells, Pt.slots] at X295 l295 y295 z295 st295 hQ295
    subst l295 y295 z295
    obtain ⟨rfl, N295q, K295⟩ := hQ295
    have N295 := Fr.app N294 N295q
    have OL := OL.keep K295 (allS ge_b293 all0)
    have KP := KP.trans K295 (allS (Or.inr sz_b293) all0)
    have E_b293 := E_b293.keep K295
    refine own_via (mkF m 25 #[iv x0] [(.ref b293)]) st295 ?_
    exact own_retA X295 hx Bd.returns rfl hlk (hb hby own_d_jdk_42_method_139_25) rfl (by decide) (by decide) (by exact ⟨b293, rfl, N295, KP⟩)
def own_QRN (Z : State) (o1 o2 : Addr) (h0 : Heap) (n0 : Nat) (v : Option Value) (h : Heap) (L : List Loc) : Prop := v = some (.ref o1) ∧ Fr n0 L ∧ h = h0
set_option maxRecDepth 65536 in
set_option maxHeartbeats 40000000 in
theorem own_rmRN (l : Launch) (Z : State) (a0 : Array Value) (hw : ∀ d ∈ tables_1, d.before a0 Z = true) (ws : List Jvm.Cond) (o1 o2 : Addr) (h0 : Heap) (n0 : Nat) (Z0 : n0 ≤ h0.size) (OL : Old Z n0 h0)  :
    MetFree l (⟨"java/util/Objects", "requireNonNull", "(Ljava/lang/Object;Ljava/lang/String;)Ljava/lang/Object;"⟩ : MethodName) (head1 (Jvm.Cond.code (⟨"java/util/Objects", "requireNonNull", "(Ljava/lang/Object;Ljava/lang/String;)Ljava/lang/Object;"⟩ : MethodName) jdk_31_method_11_code 2 (some (.object "java/lang/Object")) :: ws) ({ frames := 0, cells := 0, slots := 0, locals := 0 } : Room)) (fun aa_ U => aa_ = #[(.ref o1), (.ref o2)] ∧ Z.Warmed39 U.vm ∧ U.heap = h0) (fun _ _ _ _ _ => True) (fun _ U o U' => ∃ v L, o = .returned v ∧ own_QRN Z o1 o2 h0 n0 v U'.heap L ∧ FrameEnd U o U' L ({ frames := 0, cells := 0, slots := 0, locals := 0 } : Room).cells ({ frames := 0, cells := 0, slots := 0, locals := 0 } : Room).slots) := by
  refine MetFree.of_bodySF (plainFor_of_name own_pn3) hisR ?_
  intro p e s m args below meth c s₁ Bd hml0 hP hK
  obtain ⟨rfl, hZ, hh⟩ := hP
  have hx := Bd.exec
  have hby := Bd.bytes
  have hlk : meth.locks = false := BodyLoose.notSynchronized Bd
  have hml : c.maxLocals = 2 := hml0
  have hown : s.vm.findClass "java/util/Objects" = some m.cls := findClass_of_methodNamed Bd.named
  have hnm := (name_of_methodNamed Bd.named Bd.method).1
  have X0 : Stand p l e ({ frames := 0, cells := 0, slots := 0, locals := 0 } : Room) s m #[(.ref o1), (.ref o2)] below meth c s₁ [] 0 0 := Stand.of_body Bd
  have e0 : s₁.heap = h0 := by rw [← hh, Bd.state]; rfl
  have N0 := Fr.nil n0
  have KP : Keep h0 h0 [] := Keep.refl _ _
  refine own_start (Fin := (own_Fin s (own_QRN Z o1 o2 h0 n0) ({ frames := 0, cells := 0, slots := 0, locals := 0 } : Room).cells ({ frames := 0, cells := 0, slots := 0, locals := 0 } : Room).slots)) (own_from (mkF m 0 #[rv o1, rv o2] []) (castTop (own_ef_RN m o1 o2)) ?_)
  refine own_to (T' := s₁) (mkF m 1 #[rv o1, rv o2] [(.ref o1)]) (fun _ k => XS.aloadN X0.here hx rfl (hb hby own_d_jdk_31_method_11_0) rfl rfl k) ?_
  refine own_to (T' := s₁) (mkF m 13 #[rv o1, rv o2] []) (fun _ k => XS.ifnonnullYes X0.here hx rfl (pc0 := 1) (pc' := 13) rfl (hb hby own_d_jdk_31_method_11_1) rfl (by decide) (by decide) k) ?_
  refine own_to (T' := s₁) (mkF m 14 #[rv o1, rv o2] [(.ref o1)]) (fun _ k => XS.aloadN X0.here hx rfl (hb hby own_d_jdk_31_method_11_13) rfl rfl k) ?_
  exact own_retA X0 hx Bd.returns rfl hlk (hb hby own_d_jdk_31_method_11_14) rfl (by decide) (by decide) (by rw [e0]; exact ⟨rfl, N0, rfl⟩)
def own_QRE_1 (Z : State) (G1 : Int32) (nm sx tx : Addr) (h0 : Heap) (n0 : Nat) (v : Option Value) (h : Heap) (L : List Loc) : Prop := v = some (.ref sx) ∧ Fr n0 L ∧ h = h0
set_option maxRecDepth 65536 in
set_option maxHeartbeats 40000000 in
theorem own_rmRE_1 (l : Launch) (Z : State) (a0 : Array Value) (hw : ∀ d ∈ tables_1, d.before a0 Z = true) (ws : List Jvm.Cond) (G1 : Int32) (nm sx tx : Addr) (h0 : Heap) (n0 : Nat) (Z0 : n0 ≤ h0.size) (OL : Old Z n0 h0) (SL : own_StrL Z h0 sx tx (1 : Int32) (2 : Int32)) (O2 : Sta Z Z.heap "java/lang/String" "COMPACT_STRINGS" "Z" (.int G1)) (P5 : ¬ (G1 = (0 : Int32))) :
    MetFree l (⟨"com/example/nuthatch/nuthatch/Arguments", "requireNonEmpty", "(Ljava/lang/String;Ljava/lang/String;)Ljava/lang/String;"⟩ : MethodName) (head1 (Jvm.Cond.code (⟨"com/example/nuthatch/nuthatch/Arguments", "requireNonEmpty", "(Ljava/lang/String;Ljava/lang/String;)Ljava/lang/String;"⟩ : MethodName) prog_1_method_2_code 2 (some (.object "java/lang/String")) :: ws) ({ frames := 2, cells := 0, slots := 0, locals := 30 } : Room)) (fun aa_ U => aa_ = #[(.ref nm), (.ref sx)] ∧ Z.Warmed39 U.vm ∧ U.heap = h0) (fun _ _ _ _ _ => True) (fun _ U o U' => ∃ v L, o = .returned v ∧ own_QRE_1 Z G1 nm sx tx h0 n0 v U'.heap L ∧ FrameEnd U o U' L ({ frames := 2, cells := 0, slots := 0, locals := 30 } : Room).cells ({ frames := 2, cells := 0, slots := 0, locals := 30 } : Room).slots) := by
  refine MetFree.of_bodySF (plainFor_of_name own_pn4) hisR ?_
  intro p e s m args below meth c s₁ Bd hml0 hP hK
  obtain ⟨rfl, hZ, hh⟩ := hP
  have hx := Bd.exec
  have hby := Bd.bytes
  have hlk : meth.locks = false := BodyLoose.notSynchronized Bd
  have hml : c.maxLocals = 2 := hml0
  have hown : s.vm.findClass "com/example/nuthatch/nuthatch/Arguments" = some m.cls := findClass_of_methodNamed Bd.named
  have hnm := (name_of_methodNamed Bd.named Bd.method).1
  have X0 : Stand p l e ({ frames := 2, cells := 0, slots := 0, locals := 30 } : Room) s m #[(.ref nm), (.ref sx)] below meth c s₁ [] 0 0 := Stand.of_body Bd
  have e0 : s₁.heap = h0 := by rw [← hh, Bd.state]; rfl
  have N0 := Fr.nil n0
  have KP : Keep h0 h0 [] := Keep.refl _ _
  refine own_start (Fin := (own_Fin s (own_QRE_1 Z G1 nm sx tx h0 n0) ({ frames := 2, cells := 0, slots := 0, locals := 30 } : Room).cells ({ frames := 2, cells := 0, slots := 0, locals := 30 } : Room).slots)) (own_from (mkF m 0 #[rv nm, rv sx] []) (castTop (own_ef_RE_1 m nm sx)) ?_)
  refine own_to (T' := s₁) (mkF m 1 #[rv nm, rv sx] [(.ref sx)]) (fun _ k => XS.aloadN X0.here hx rfl (hb hby own_d_prog_1_method_2_0) rfl rfl k) ?_
  refine own_to (T' := s₁) (mkF m 2 #[rv nm, rv sx] [(.ref nm), (.ref sx)]) (fun _ k => XS.aloadN X0.here hx rfl (hb hby own_d_prog_1_method_2_1) rfl rfl k) ?_
  obtain ⟨_, _, ⟨T296, L296, k296, n296⟩, -, X296, ⟨Lc296, hQ296, l296, y296, z296⟩, st296⟩ := Jvm.LawKit.callS X0 hx (y := (⟨"java/util/Objects", "requireNonNull", "(Ljava/lang/Object;Ljava/lang/String;)Ljava/lang/Object;"⟩ : MethodName)) hown (mvT hZ (hw _ (List.mem_of_getElem? (i := 50) rfl))) (mvT hZ (hw _ (List.mem_of_getElem? (i := 51) rfl))) (mvT hZ (hw _ (List.mem_of_getElem? (i := 52) rfl))) (mvT hZ (hw _ (List.mem_of_getElem? (i := 53) rfl))) (by decide) (backOf (W := 0) (own_rmRN l Z a0 hw [] sx nm h0 n0 (Nat.le_trans Z0 KP.1) OL) hZ (hw _ (List.mem_of_getElem? (i := 53) rfl)) (hw _ (List.mem_of_getElem? (i := 52) rfl)) (by decide) (by decide)) (g := (mkF m 2 #[rv nm, rv sx] [(.ref nm), (.ref sx)])) rfl (by rw [hml]; rfl) (argsL := [(.ref sx), (.ref nm)]) (rest := []) (lenOf own_pd12 rfl) rfl (by show 2 * 0 + _ ≤ _; exact Nat.le_of_eq rfl) (hb hby own_d_prog_1_method_2_2) (fun _ _ => ⟨rfl, e0, (by decide : 0 + 0 ≤ _), (by decide : 0 + 0 ≤ _)⟩)
  dsimp only [Pt.U, Pt.locs, Pt.cells, Pt.slots] at X296 l296 y296 z296 st296 hQ296
  subst l296 y296 z296
  obtain ⟨rfl, N296q, e296⟩ := hQ296
  have N296 := Fr.app N0 N296q
  refine own_to (mkF m 5 #[rv nm, rv sx] [(.ref sx)]) st296 ?_
  refine own_to (T' := T296) (mkF m 6 #[rv nm, rv sx] []) (fun _ k => XS.pop X296.here hx rfl (hb hby own_d_prog_1_method_2_5) rfl rfl k) ?_
  refine own_to (T' := T296) (mkF m 7 #[rv nm, rv sx] [(.ref sx)]) (fun _ k => XS.aloadN X296.here hx rfl (hb hby own_d_prog_1_method_2_6) rfl rfl k) ?_
  obtain ⟨cq297, kq297, q297a, q297b, q297c⟩ := isOf hZ e296 SL.exa
  obtain ⟨_, _, ⟨T297, L297, k297, n297⟩, -, X297, ⟨Lc297, hQ297, l297, y297, z297⟩, st297⟩ := X296.virtualBack hx (y := (⟨"java/lang/String", "isEmpty", "()Z"⟩ : MethodName)) (z := (⟨"java/lang/String", "isEmpty", "()Z"⟩ : MethodName)) hown (mvT hZ (hw _ (List.mem_of_getElem? (i := 54) rfl))) (mvT hZ (hw _ (List.mem_of_getElem? (i := 55) rfl))) (notFace_of_selects (args := #[]) (mvT hZ (hw _ (List.mem_of_getElem? (i := 57) rfl)))) (mvT hZ (hw _ (List.mem_of_getElem? (i := 57) rfl))) (mvT hZ (hw _ (List.mem_of_getElem? (i := 56) rfl))) (by decide) (backOf (W := 0) (own_rmEM_1 l Z a0 hw [] G1 sx tx h0 n0 (Nat.le_trans Z0 KP.1) OL SL O2 P5) hZ (hw _ (List.mem_of_getElem? (i := 58) rfl)) (hw _ (List.mem_of_getElem? (i := 3) rfl)) (by decide) (by decide)) q297a q297c (g := (mkF m 7 #[rv nm, rv sx] [(.ref sx)])) rfl (by rw [hml]; rfl) (Steps.refl _) (argsL := []) (rest := []) (lenOf own_pd13 rfl) rfl (by show 2 * 0 + _ ≤ _; exact Nat.le_of_eq rfl) (hb hby own_d_prog_1_method_2_7) (fun _ _ => ⟨rfl, e296, (by decide : 0 + 0 ≤ _), (by decide : 0 + 0 ≤ _)⟩)
  dsimp only [Pt.U, Pt.locs, Pt.cells, Pt.slots] at X297 l297 y297 z297 st297 hQ297
  subst l297 y297 z297
  obtain ⟨rfl, N297q, e297⟩ := hQ297
  have N297 := Fr.app N296 N297q
  refine own_via (mkF m 10 #[rv nm, rv sx] [(.int (0 : Int32))]) st297 ?_
  refine own_to (T' := T297) (mkF m 27 #[rv nm, rv sx] []) (fun _ k => XS.ifYes X297.here hx rfl (pc0 := 10) (pc' := 27) rfl (hb hby own_d_prog_1_method_2_10) rfl ((if0 _ _).trans (teq (by decide : (0 : Int32) = (0 : Int32))).1) (by decide) (by decide) k) ?_
  refine own_to (T' := T297) (mkF m 28 #[rv nm, rv sx] [(.ref sx)]) (fun _ k => XS.aloadN X297.here hx rfl (hb hby own_d_prog_1_method_2_27) rfl rfl k) ?_
  exact own_retA X297 hx Bd.returns rfl hlk (hb hby own_d_prog_1_method_2_28) rfl (by decide) (by decide) (by rw [e297]; exact ⟨rfl, N297, rfl⟩)
def own_QRE_2 (Z : State) (G1 : Int32) (nm sx tx : Addr) (h0 : Heap) (n0 : Nat) (v : Option Value) (h : Heap) (L : List Loc) : Prop := v = some (.ref sx) ∧ Fr n0 L ∧ h = h0
set_option maxRecDepth 65536 in
set_option maxHeartbeats 40000000 in
theorem own_rmRE_2 (l : Launch) (Z : State) (a0 : Array Value) (hw : ∀ d ∈ tables_1, d.before a0 Z = true) (ws : List Jvm.Cond) (G1 : Int32) (nm sx tx : Addr) (h0 : Heap) (n0 : Nat) (Z0 : n0 ≤ h0.size) (OL : Old Z n0 h0) (SL : own_StrL Z h0 sx tx (2 : Int32) (4 : Int32)) (O2 : Sta Z Z.heap "java/lang/String" "COMPACT_STRINGS" "Z" (.int G1)) (P5 : ¬ (G1 = (0 : Int32))) :
    MetFree l (⟨"com/example/nuthatch/nuthatch/Arguments", "requireNonEmpty", "(Ljava/lang/String;Ljava/lang/String;)Ljava/lang/String;"⟩ : MethodName) (head1 (Jvm.Cond.code (⟨"com/example/nuthatch/nuthatch/Arguments", "requireNonEmpty", "(Ljava/lang/String;Ljava/lang/String;)Ljava/lang/String;"⟩ : MethodName) prog_1_method_2_code 2 (some (.object "java/lang/String")) :: ws) ({ frames := 2, cells := 0, slots := 0, locals := 30 } : Room)) (fun aa_ U => aa_ = #[(.ref nm), (.ref sx)] ∧ Z.Warmed39 U.vm ∧ U.heap = h0) (fun _ _ _ _ _ => True) (fun _ U o U' => ∃ v L, o = .returned v ∧ own_QRE_2 Z G1 nm sx tx h0 n0 v U'.heap L ∧ FrameEnd U o U' L ({ frames := 2, cells := 0, slots := 0, locals := 30 } : Room).cells ({ frames := 2, cells := 0, slots := 0, locals := 30 } : Room).slots) := by
  refine MetFree.of_bodySF (plainFor_of_name own_pn4) hisR ?_
  intro p e s m args below meth c s₁ Bd hml0 hP hK
  obtain ⟨rfl, hZ, hh⟩ := hP
  have hx := Bd.exec
  have hby := Bd.bytes
  have hlk : meth.locks = false := BodyLoose.notSynchronized Bd
  have hml : c.maxLocals = 2 := hml0
  have hown : s.vm.findClass "com/example/nuthatch/nuthatch/Arguments" = some m.cls := findClass_of_methodNamed Bd.named
  have hnm := (name_of_methodNamed Bd.named Bd.method).1
  have X0 : Stand p l e ({ frames := 2, cells := 0, slots := 0, locals := 30 } : Room) s m #[(.ref nm), (.ref sx)] below meth c s₁ [] 0 0 := Stand.of_body Bd
  have e0 : s₁.heap = h0 := by rw [← hh, Bd.state]; rfl
  have N0 := Fr.nil n0
  have KP : Keep h0 h0 [] := Keep.refl _ _
  refine own_start (Fin := (own_Fin s (own_QRE_2 Z G1 nm sx tx h0 n0) ({ frames := 2, cells := 0, slots := 0, locals := 30 } : Room).cells ({ frames := 2, cells := 0, slots := 0, locals := 30 } : Room).slots)) (own_from (mkF m 0 #[rv nm, rv sx] []) (castTop (own_ef_RE_2 m nm sx)) ?_)
  refine own_to (T' := s₁) (mkF m 1 #[rv nm, rv sx] [(.ref sx)]) (fun _ k => XS.aloadN X0.here hx rfl (hb hby own_d_prog_1_method_2_0) rfl rfl k) ?_
  refine own_to (T' := s₁) (mkF m 2 #[rv nm, rv sx] [(.ref nm), (.ref sx)]) (fun _ k => XS.aloadN X0.here hx rfl (hb hby own_d_prog_1_method_2_1) rfl rfl k) ?_
  obtain ⟨_, _, ⟨T298, L298, k298, n298⟩, -, X298, ⟨Lc298, hQ298, l298, y298, z298⟩, st298⟩ := Jvm.LawKit.callS X0 hx (y := (⟨"java/util/Objects", "requireNonNull", "(Ljava/lang/Object;Ljava/lang/String;)Ljava/lang/Object;"⟩ : MethodName)) hown (mvT hZ (hw _ (List.mem_of_getElem? (i := 50) rfl))) (mvT hZ (hw _ (List.mem_of_getElem? (i := 51) rfl))) (mvT hZ (hw _ (List.mem_of_getElem? (i := 52) rfl))) (mvT hZ (hw _ (List.mem_of_getElem? (i := 53) rfl))) (by decide) (backOf (W := 0) (own_rmRN l Z a0 hw [] sx nm h0 n0 (Nat.le_trans Z0 KP.1) OL) hZ (hw _ (List.mem_of_getElem? (i := 53) rfl)) (hw _ (List.mem_of_getElem? (i := 52) rfl)) (by decide) (by decide)) (g := (mkF m 2 #[rv nm, rv sx] [(.ref nm), (.ref sx)])) rfl (by rw [hml]; rfl) (argsL := [(.ref sx), (.ref nm)]) (rest := []) (lenOf own_pd12 rfl) rfl (by show 2 * 0 + _ ≤ _; exact Nat.le_of_eq rfl) (hb hby own_d_prog_1_method_2_2) (fun _ _ => ⟨rfl, e0, (by decide : 0 + 0 ≤ _), (by decide : 0 + 0 ≤ _)⟩)
  dsimp only [Pt.U, Pt.locs, Pt.cells, Pt.slots] at X298 l298 y298 z298 st298 hQ298
  subst l298 y298 z298
  obtain ⟨rfl, N298q, e298⟩ := hQ298
  have N298 := Fr.app N0 N298q
  refine own_to (mkF m 5 #[rv nm, rv sx] [(.ref sx)]) st298 ?_
  refine own_to (T' := T298) (mkF m 6 #[rv nm, rv sx] []) (fun _ k => XS.pop X298.here hx rfl (hb hby own_d_prog_1_method_2_5) rfl rfl k) ?_
  refine own_to (T' := T298) (mkF m 7 #[rv nm, rv sx] [(.ref sx)]) (fun _ k => XS.aloadN X298.here hx rfl (hb hby own_d_prog_1_method_2_6) rfl rfl k) ?_
  obtain ⟨cq299, kq299, q299a, q299b, q299c⟩ := isOf hZ e298 SL.exa
  obtain ⟨_, _, ⟨T299, L299, k299, n299⟩, -, X299, ⟨Lc299, hQ299, l299, y299, z299⟩, st299⟩ := X298.virtualBack hx (y := (⟨"java/lang/String", "isEmpty", "()Z"⟩ : MethodName)) (z := (⟨"java/lang/String", "isEmpty", "()Z"⟩ : MethodName)) hown (mvT hZ (hw _ (List.mem_of_getElem? (i := 54) rfl))) (mvT hZ (hw _ (List.mem_of_getElem? (i := 55) rfl))) (notFace_of_selects (args := #[]) (mvT hZ (hw _ (List.mem_of_getElem? (i := 57) rfl)))) (mvT hZ (hw _ (List.mem_of_getElem? (i := 57) rfl))) (mvT hZ (hw _ (List.mem_of_getElem? (i := 56) rfl))) (by decide) (backOf (W := 0) (own_rmEM_2 l Z a0 hw [] G1 sx tx h0 n0 (Nat.le_trans Z0 KP.1) OL SL O2 P5) hZ (hw _ (List.mem_of_getElem? (i := 58) rfl)) (hw _ (List.mem_of_getElem? (i := 3) rfl)) (by decide) (by decide)) q299a q299c (g := (mkF m 7 #[rv nm, rv sx] [(.ref sx)])) rfl (by rw [hml]; rfl) (Steps.refl _) (argsL := []) (rest := []) (lenOf own_pd13 rfl) rfl (by show 2 * 0 + _ ≤ _; exact Nat.le_of_eq rfl) (hb hby own_d_prog_1_method_2_7) (fun _ _ => ⟨rfl, e298, (by decide : 0 + 0 ≤ _), (by decide : 0 + 0 ≤ _)⟩)
  dsimp only [Pt.U, Pt.locs, Pt.cells, Pt.slots] at X299 l299 y299 z299 st299 hQ299
  subst l299 y299 z299
  obtain ⟨rfl, N299q, e299⟩ := hQ299
  have N299 := Fr.app N298 N299q
  refine own_via (mkF m 10 #[rv nm, rv sx] [(.int (0 : Int32))]) st299 ?_
  refine own_to (T' := T299) (mkF m 27 #[rv nm, rv sx] []) (fun _ k => XS.ifYes X299.here hx rfl (pc0 := 10) (pc' := 27) rfl (hb hby own_d_prog_1_method_2_10) rfl ((if0 _ _).trans (teq (by decide : (0 : Int32) = (0 : Int32))).1) (by decide) (by decide) k) ?_
  refine own_to (T' := T299) (mkF m 28 #[rv nm, rv sx] [(.ref sx)]) (fun _ k => XS.aloadN X299.here hx rfl (hb hby own_d_prog_1_method_2_27) rfl rfl k) ?_
  exact own_retA X299 hx Bd.returns rfl hlk (hb hby own_d_prog_1_method_2_28) rfl (by decide) (by decide) (by rw [e299]; exact ⟨rfl, N299, rfl⟩)
def own_QRE_3 (Z : State) (G1 : Int32) (nm sx tx : Addr) (h0 : Heap) (n0 : Nat) (v : Option Value) (h : Heap) (L : List Loc) : Prop := v = some (.ref sx) ∧ Fr n0 L ∧ h = h0
set_option maxRecDepth 65536 in
set_option maxHeartbeats 40000000 in
theorem own_rmRE_3 (l : Launch) (Z : State) (a0 : Array Value) (hw : ∀ d ∈ tables_1, d.before a0 Z = true) (ws : List Jvm.Cond) (G1 : Int32) (nm sx tx : Addr) (h0 : Heap) (n0 : Nat) (Z0 : n0 ≤ h0.size) (OL : Old Z n0 h0) (SL : own_StrL Z h0 sx tx (3 : Int32) (6 : Int32)) (O2 : Sta Z Z.heap "java/lang/String" "COMPACT_STRINGS" "Z" (.int G1)) (P5 : ¬ (G1 = (0 : Int32))) :
    MetFree l (⟨"com/example/nuthatch/nuthatch/Arguments", "requireNonEmpty", "(Ljava/lang/String;Ljava/lang/String;)Ljava/lang/String;"⟩ : MethodName) (head1 (Jvm.Cond.code (⟨"com/example/nuthatch/nuthatch/Arguments", "requireNonEmpty", "(Ljava/lang/String;Ljava/lang/String;)Ljava/lang/String;"⟩ : MethodName) prog_1_method_2_code 2 (some (.object "java/lang/String")) :: ws) ({ frames := 2, cells := 0, slots := 0, locals := 30 } : Room)) (fun aa_ U => aa_ = #[(.ref nm), (.ref sx)] ∧ Z.Warmed39 U.vm ∧ U.heap = h0) (fun _ _ _ _ _ => True) (fun _ U o U' => ∃ v L, o = .returned v ∧ own_QRE_3 Z G1 nm sx tx h0 n0 v U'.heap L ∧ FrameEnd U o U' L ({ frames := 2, cells := 0, slots := 0, locals := 30 } : Room).cells ({ frames := 2, cells := 0, slots := 0, locals := 30 } : Room).slots) := by
  refine MetFree.of_bodySF (plainFor_of_name own_pn4) hisR ?_
  intro p e s m args below meth c s₁ Bd hml0 hP hK
  obtain ⟨rfl, hZ, hh⟩ := hP
  have hx := Bd.exec
  have hby := Bd.bytes
  have hlk : meth.locks = false := BodyLoose.notSynchronized Bd
  have hml : c.maxLocals = 2 := hml0
  have hown : s.vm.findClass "com/example/nuthatch/nuthatch/Arguments" = some m.cls := findClass_of_methodNamed Bd.named
  have hnm := (name_of_methodNamed Bd.named Bd.method).1
  have X0 : Stand p l e ({ frames := 2, cells := 0, slots := 0, locals := 30 } : Room) s m #[(.ref nm), (.ref sx)] below meth c s₁ [] 0 0 := Stand.of_body Bd
  have e0 : s₁.heap = h0 := by rw [← hh, Bd.state]; rfl
  have N0 := Fr.nil n0
  have KP : Keep h0 h0 [] := Keep.refl _ _
  refine own_start (Fin := (own_Fin s (own_QRE_3 Z G1 nm sx tx h0 n0) ({ frames := 2, cells := 0, slots := 0, locals := 30 } : Room).cells ({ frames := 2, cells := 0, slots := 0, locals := 30 } : Room).slots)) (own_from (mkF m 0 #[rv nm, rv sx] []) (castTop (own_ef_RE_3 m nm sx)) ?_)
  refine own_to (T' := s₁) (mkF m 1 #[rv nm, rv sx] [(.ref sx)]) (fun _ k => XS.aloadN X0.here hx rfl (hb hby own_d_prog_1_method_2_0) rfl rfl k) ?_
  refine own_to (T' := s₁) (mkF m 2 #[rv nm, rv sx] [(.ref nm), (.ref sx)]) (fun _ k => XS.aloadN X0.here hx rfl (hb hby own_d_prog_1_method_2_1) rfl rfl k) ?_
  obtain ⟨_, _, ⟨T300, L300, k300, n300⟩, -, X300, ⟨Lc300, hQ300, l300, y300, z300⟩, st300⟩ := Jvm.LawKit.callS X0 hx (y := (⟨"java/util/Objects", "requireNonNull", "(Ljava/lang/Object;Ljava/lang/String;)Ljava/lang/Object;"⟩ : MethodName)) hown (mvT hZ (hw _ (List.mem_of_getElem? (i := 50) rfl))) (mvT hZ (hw _ (List.mem_of_getElem? (i := 51) rfl))) (mvT hZ (hw _ (List.mem_of_getElem? (i := 52) rfl))) (mvT hZ (hw _ (List.mem_of_getElem? (i := 53) rfl))) (by decide) (backOf (W := 0) (own_rmRN l Z a0 hw [] sx nm h0 n0 (Nat.le_trans Z0 KP.1) OL) hZ (hw _ (List.mem_of_getElem? (i := 53) rfl)) (hw _ (List.mem_of_getElem? (i := 52) rfl)) (by decide) (by decide)) (g := (mkF m 2 #[rv nm, rv sx] [(.ref nm), (.ref sx)])) rfl (by rw [hml]; rfl) (argsL := [(.ref sx), (.ref nm)]) (rest := []) (lenOf own_pd12 rfl) rfl (by show 2 * 0 + _ ≤ _; exact Nat.le_of_eq rfl) (hb hby own_d_prog_1_method_2_2) (fun _ _ => ⟨rfl, e0, (by decide : 0 + 0 ≤ _), (by decide : 0 + 0 ≤ _)⟩)
  dsimp only [Pt.U, Pt.locs, Pt.cells, Pt.slots] at X300 l300 y300 z300 st300 hQ300
  subst l300 y300 z300
  obtain ⟨rfl, N300q, e300⟩ := hQ300
  have N300 := Fr.app N0 N300q
  refine own_to (mkF m 5 #[rv nm, rv sx] [(.ref sx)]) st300 ?_
  refine own_to (T' := T300) (mkF m 6 #[rv nm, rv sx] []) (fun _ k => XS.pop X300.here hx rfl (hb hby own_d_prog_1_method_2_5) rfl rfl k) ?_
  refine own_to (T' := T300) (mkF m 7 #[rv nm, rv sx] [(.ref sx)]) (fun _ k => XS.aloadN X300.here hx rfl (hb hby own_d_prog_1_method_2_6) rfl rfl k) ?_
  obtain ⟨cq301, kq301, q301a, q301b, q301c⟩ := isOf hZ e300 SL.exa
  obtain ⟨_, _, ⟨T301, L301, k301, n301⟩, -, X301, ⟨Lc301, hQ301, l301, y301, z301⟩, st301⟩ := X300.virtualBack hx (y := (⟨"java/lang/String", "isEmpty", "()Z"⟩ : MethodName)) (z := (⟨"java/lang/String", "isEmpty", "()Z"⟩ : MethodName)) hown (mvT hZ (hw _ (List.mem_of_getElem? (i := 54) rfl))) (mvT hZ (hw _ (List.mem_of_getElem? (i := 55) rfl))) (notFace_of_selects (args := #[]) (mvT hZ (hw _ (List.mem_of_getElem? (i := 57) rfl)))) (mvT hZ (hw _ (List.mem_of_getElem? (i := 57) rfl))) (mvT hZ (hw _ (List.mem_of_getElem? (i := 56) rfl))) (by decide) (backOf (W := 0) (own_rmEM_3 l Z a0 hw [] G1 sx tx h0 n0 (Nat.le_trans Z0 KP.1) OL SL O2 P5) hZ (hw _ (List.mem_of_getElem? (i := 58) rfl)) (hw _ (List.mem_of_getElem? (i := 3) rfl)) (by decide) (by decide)) q301a q301c (g := (mkF m 7 #[rv nm, rv sx] [(.ref sx)])) rfl (by rw [hml]; rfl) (Steps.refl _) (argsL := []) (rest := []) (lenOf own_pd13 rfl) rfl (by show 2 * 0 + _ ≤ _; exact Nat.le_of_eq rfl) (hb hby own_d_prog_1_method_2_7) (fun _ _ => ⟨rfl, e300, (by decide : 0 + 0 ≤ _), (by decide : 0 + 0 ≤ _)⟩)
  dsimp only [Pt.U, Pt.locs, Pt.cells, Pt.slots] at X301 l301 y301 z301 st301 hQ301
  subst l301 y301 z301
  obtain ⟨rfl, N301q, e301⟩ := hQ301
  have N301 := Fr.app N300 N301q
  refine own_via (mkF m 10 #[rv nm, rv sx] [(.int (0 : Int32))]) st301 ?_
  refine own_to (T' := T301) (mkF m 27 #[rv nm, rv sx] []) (fun _ k => XS.ifYes X301.here hx rfl (pc0 := 10) (pc' := 27) rfl (hb hby own_d_prog_1_method_2_10) rfl ((if0 _ _).trans (teq (by decide : (0 : Int32) = (0 : Int32))).1) (by decide) (by decide) k) ?_
  refine own_to (T' := T301) (mkF m 28 #[rv nm, rv sx] [(.ref sx)]) (fun _ k => XS.aloadN X301.here hx rfl (hb hby own_d_prog_1_method_2_27) rfl rfl k) ?_
  exact own_retA X301 hx Bd.returns rfl hlk (hb hby own_d_prog_1_method_2_28) rfl (by decide) (by decide) (by rw [e301]; exact ⟨rfl, N301, rfl⟩)
def own_QRE_4 (Z : State) (G1 : Int32) (nm sx tx : Addr) (h0 : Heap) (n0 : Nat) (v : Option Value) (h : Heap) (L : List Loc) : Prop := v = some (.ref sx) ∧ Fr n0 L ∧ h = h0
set_option maxRecDepth 65536 in
set_option maxHeartbeats 40000000 in
theorem own_rmRE_4 (l : Launch) (Z : State) (a0 : Array Value) (hw : ∀ d ∈ tables_1, d.before a0 Z = true) (ws : List Jvm.Cond) (G1 : Int32) (nm sx tx : Addr) (h0 : Heap) (n0 : Nat) (Z0 : n0 ≤ h0.size) (OL : Old Z n0 h0) (SL : own_StrL Z h0 sx tx (4 : Int32) (8 : Int32)) (O2 : Sta Z Z.heap "java/lang/String" "COMPACT_STRINGS" "Z" (.int G1)) (P5 : ¬ (G1 = (0 : Int32))) :
    MetFree l (⟨"com/example/nuthatch/nuthatch/Arguments", "requireNonEmpty", "(Ljava/lang/String;Ljava/lang/String;)Ljava/lang/String;"⟩ : MethodName) (head1 (Jvm.Cond.code (⟨"com/example/nuthatch/nuthatch/Arguments", "requireNonEmpty", "(Ljava/lang/String;Ljava/lang/String;)Ljava/lang/String;"⟩ : MethodName) prog_1_method_2_code 2 (some (.object "java/lang/String")) :: ws) ({ frames := 2, cells := 0, slots := 0, locals := 30 } : Room)) (fun aa_ U => aa_ = #[(.ref nm), (.ref sx)] ∧ Z.Warmed39 U.vm ∧ U.heap = h0) (fun _ _ _ _ _ => True) (fun _ U o U' => ∃ v L, o = .returned v ∧ own_QRE_4 Z G1 nm sx tx h0 n0 v U'.heap L ∧ FrameEnd U o U' L ({ frames := 2, cells := 0, slots := 0, locals := 30 } : Room).cells ({ frames := 2, cells := 0, slots := 0, locals := 30 } : Room).slots) := by
  refine MetFree.of_bodySF (plainFor_of_name own_pn4) hisR ?_
  intro p e s m args below meth c s₁ Bd hml0 hP hK
  obtain ⟨rfl, hZ, hh⟩ := hP
  have hx := Bd.exec
  have hby := Bd.bytes
  have hlk : meth.locks = false := BodyLoose.notSynchronized Bd
  have hml : c.maxLocals = 2 := hml0
  have hown : s.vm.findClass "com/example/nuthatch/nuthatch/Arguments" = some m.cls := findClass_of_methodNamed Bd.named
  have hnm := (name_of_methodNamed Bd.named Bd.method).1
  have X0 : Stand p l e ({ frames := 2, cells := 0, slots := 0, locals := 30 } : Room) s m #[(.ref nm), (.ref sx)] below meth c s₁ [] 0 0 := Stand.of_body Bd
  have e0 : s₁.heap = h0 := by rw [← hh, Bd.state]; rfl
  have N0 := Fr.nil n0
  have KP : Keep h0 h0 [] := Keep.refl _ _
  refine own_start (Fin := (own_Fin s (own_QRE_4 Z G1 nm sx tx h0 n0) ({ frames := 2, cells := 0, slots := 0, locals := 30 } : Room).cells ({ frames := 2, cells := 0, slots := 0, locals := 30 } : Room).slots)) (own_from (mkF m 0 #[rv nm, rv sx] []) (castTop (own_ef_RE_4 m nm sx)) ?_)
  refine own_to (T' := s₁) (mkF m 1 #[rv nm, rv sx] [(.ref sx)]) (fun _ k => XS.aloadN X0.here hx rfl (hb hby own_d_prog_1_method_2_0) rfl rfl k) ?_
  refine own_to (T' := s₁) (mkF m 2 #[rv nm, rv sx] [(.ref nm), (.ref sx)]) (fun _ k => XS.aloadN X0.here hx rfl (hb hby own_d_prog_1_method_2_1) rfl rfl k) ?_
  obtain ⟨_, _, ⟨T302, L302, k302, n302⟩, -, X302, ⟨Lc302, hQ302, l302, y302, z302⟩, st302⟩ := Jvm.LawKit.callS X0 hx (y := (⟨"java/util/Objects", "requireNonNull", "(Ljava/lang/Object;Ljava/lang/String;)Ljava/lang/Object;"⟩ : MethodName)) hown (mvT hZ (hw _ (List.mem_of_getElem? (i := 50) rfl))) (mvT hZ (hw _ (List.mem_of_getElem? (i := 51) rfl))) (mvT hZ (hw _ (List.mem_of_getElem? (i := 52) rfl))) (mvT hZ (hw _ (List.mem_of_getElem? (i := 53) rfl))) (by decide) (backOf (W := 0) (own_rmRN l Z a0 hw [] sx nm h0 n0 (Nat.le_trans Z0 KP.1) OL) hZ (hw _ (List.mem_of_getElem? (i := 53) rfl)) (hw _ (List.mem_of_getElem? (i := 52) rfl)) (by decide) (by decide)) (g := (mkF m 2 #[rv nm, rv sx] [(.ref nm), (.ref sx)])) rfl (by rw [hml]; rfl) (argsL := [(.ref sx), (.ref nm)]) (rest := []) (lenOf own_pd12 rfl) rfl (by show 2 * 0 + _ ≤ _; exact Nat.le_of_eq rfl) (hb hby own_d_prog_1_method_2_2) (fun _ _ => ⟨rfl, e0, (by decide : 0 + 0 ≤ _), (by decide : 0 + 0 ≤ _)⟩)
  dsimp only [Pt.U, Pt.locs, Pt.cells, Pt.slots] at X302 l302 y302 z302 st302 hQ302
  subst l302 y302 z302
  obtain ⟨rfl, N302q, e302⟩ := hQ302
  have N302 := Fr.app N0 N302q
  refine own_to (mkF m 5 #[rv nm, rv sx] [(.ref sx)]) st302 ?_
  refine own_to (T' := T302) (mkF m 6 #[rv nm, rv sx] []) (fun _ k => XS.pop X302.here hx rfl (hb hby own_d_prog_1_method_2_5) rfl rfl k) ?_
  refine own_to (T' := T302) (mkF m 7 #[rv nm, rv sx] [(.ref sx)]) (fun _ k => XS.aloadN X302.here hx rfl (hb hby own_d_prog_1_method_2_6) rfl rfl k) ?_
  obtain ⟨cq303, kq303, q303a, q303b, q303c⟩ := isOf hZ e302 SL.exa
  obtain ⟨_, _, ⟨T303, L303, k303, n303⟩, -, X303, ⟨Lc303, hQ303, l303, y303, z303⟩, st303⟩ := X302.virtualBack hx (y := (⟨"java/lang/String", "isEmpty", "()Z"⟩ : MethodName)) (z := (⟨"java/lang/String", "isEmpty", "()Z"⟩ : MethodName)) hown (mvT hZ (hw _ (List.mem_of_getElem? (i := 54) rfl))) (mvT hZ (hw _ (List.mem_of_getElem? (i := 55) rfl))) (notFace_of_selects (args := #[]) (mvT hZ (hw _ (List.mem_of_getElem? (i := 57) rfl)))) (mvT hZ (hw _ (List.mem_of_getElem? (i := 57) rfl))) (mvT hZ (hw _ (List.mem_of_getElem? (i := 56) rfl))) (by decide) (backOf (W := 0) (own_rmEM_4 l Z a0 hw [] G1 sx tx h0 n0 (Nat.le_trans Z0 KP.1) OL SL O2 P5) hZ (hw _ (List.mem_of_getElem? (i := 58) rfl)) (hw _ (List.mem_of_getElem? (i := 3) rfl)) (by decide) (by decide)) q303a q303c (g := (mkF m 7 #[rv nm, rv sx] [(.ref sx)])) rfl (by rw [hml]; rfl) (Steps.refl _) (argsL := []) (rest := []) (lenOf own_pd13 rfl) rfl (by show 2 * 0 + _ ≤ _; exact Nat.le_of_eq rfl) (hb hby own_d_prog_1_method_2_7) (fun _ _ => ⟨rfl, e302, (by decide : 0 + 0 ≤ _), (by decide : 0 + 0 ≤ _)⟩)
  dsimp only [Pt.U, Pt.locs, Pt.cells, Pt.slots] at X303 l303 y303 z303 st303 hQ303
  subst l303 y303 z303
  obtain ⟨rfl, N303q, e303⟩ := hQ303
  have N303 := Fr.app N302 N303q
  refine own_via (mkF m 10 #[rv nm, rv sx] [(.int (0 : Int32))]) st303 ?_
  refine own_to (T' := T303) (mkF m 27 #[rv nm, rv sx] []) (fun _ k => XS.ifYes X303.here hx rfl (pc0 := 10) (pc' := 27) rfl (hb hby own_d_prog_1_method_2_10) rfl ((if0 _ _).trans (teq (by decide : (0 : Int32) = (0 : Int32))).1) (by decide) (by decide) k) ?_
  refine own_to (T' := T303) (mkF m 28 #[rv nm, rv sx] [(.ref sx)]) (fun _ k => XS.aloadN X303.here hx rfl (hb hby own_d_prog_1_method_2_27) rfl rfl k) ?_
  exact own_retA X303 hx Bd.returns rfl hlk (hb hby own_d_prog_1_method_2_28) rfl (by decide) (by decide) (by rw [e303]; exact ⟨rfl, N303, rfl⟩)
def own_Q0 (Z : State) (p0 p1 p2 p3 : Int32) (G1 : Int32) (h0 : Heap) (n0 : Nat) (v : Option Value) (h : Heap) (L : List Loc) : Prop := v = some (.int 1) ∧ Fr n0 L
set_option maxRecDepth 65536 in
set_option maxHeartbeats 40000000 in
theorem own_rm0 (l : Launch) (Z : State) (a0 : Array Value) (hw : ∀ d ∈ tables_1, d.before a0 Z = true) (ws : List Jvm.Cond) (p0 p1 p2 p3 : Int32) (G1 : Int32) (h0 : Heap) (n0 : Nat) (Z0 : n0 ≤ h0.size) (OL : Old Z n0 h0) (O2 : Sta Z Z.heap "java/lang/String" "COMPACT_STRINGS" "Z" (.int G1)) (P5 : ¬ (G1 = (0 : Int32))) (OAD : Sta Z Z.heap "java/lang/StringUTF16" "$assertionsDisabled" "Z" (.int (1 : Int32))) (OHI : Sta Z Z.heap "java/lang/StringUTF16" "HI_BYTE_SHIFT" "I" (.int (0 : Int32))) (OLO : Sta Z Z.heap "java/lang/StringUTF16" "LO_BYTE_SHIFT" "I" (.int (8 : Int32))) :
    MetFree l x (head1 (Jvm.Cond.code x code maxLocals ret :: ws) room_1) (fun aa_ U => aa_ = #[(.int p0), (.int p1), (.int p2), (.int p3)] ∧ Z.Warmed39 U.vm ∧ U.heap = h0) (fun _ _ _ _ _ => True) (fun _ U o U' => ∃ v L, o = .returned v ∧ own_Q0 Z p0 p1 p2 p3 G1 h0 n0 v U'.heap L ∧ ReturnedEndW U o U' L room_1.cells room_1.slots) := by
  refine MetFree.of_bodySF (plainFor_of_name own_pn5) hisR ?_
  intro p e s m args below meth c s₁ Bd hml0 hP hK
  obtain ⟨rfl, hZ, hh⟩ := hP
  have hx := Bd.exec
  have hby := Bd.bytes
  have hlk : meth.locks = false := BodyLoose.notSynchronized Bd
  have hml : c.maxLocals = 12 := hml0
  have hown : s.vm.findClass "com/example/nuthatch/nuthatch/ArgumentsRequireNonEmptyPinLaw" = some m.cls := findClass_of_methodNamed Bd.named
  have hnm := (name_of_methodNamed Bd.named Bd.method).1
  have X0 : Stand p l e room_1 s m #[(.int p0), (.int p1), (.int p2), (.int p3)] below meth c s₁ [] 0 0 := Stand.of_body Bd
  have e0 : s₁.heap = h0 := by rw [← hh, Bd.state]; rfl
  have N0 := Fr.nil n0
  have KP : Keep h0 h0 [] := Keep.refl _ _
  have hS : s.Since s.vm 0 := (State.WarmedH.refl s).since 0
  have hk1 : 0 ≤ h0.size := Nat.zero_le _
  refine own_start (Fin := (own_FinW s (own_Q0 Z p0 p1 p2 p3 G1 h0 n0) room_1.cells room_1.slots)) (own_from (mkF m 0 #[iv p0, iv p1, iv p2, iv p3, .unset, .unset, .unset, .unset, .unset, .unset, .unset, .unset] []) (castTop (own_ef_0 m p0 p1 p2 p3)) ?_)
  have hwsS : ∀ d ∈ Bundle.stringAtoms, d.before a0 Z = true := fun d hd => hw d (own_wS d hd)
  refine own_to (T' := s₁) (mkF m 1 #[iv p0, iv p1, iv p2, iv p3, .unset, .unset, .unset, .unset, .unset, .unset, .unset, .unset] [(.int p0)]) (fun _ k => XS.iloadN X0.here hx rfl (hb hby at_0) rfl k) ?_
  refine own_to (mkF m 3 #[iv p0, iv p1, iv p2, iv p3, .unset, .unset, .unset, .unset, .unset, .unset, .unset, .unset] [(.int (65535 : Int32)), (.int p0)]) (X0.ldcInt hx hown (mvT hZ (hw _ (List.mem_of_getElem? (i := 0) rfl))) (g := (mkF m 1 #[iv p0, iv p1, iv p2, iv p3, .unset, .unset, .unset, .unset, .unset, .unset, .unset, .unset] [(.int p0)])) rfl (hb hby at_1)) ?_
  refine own_to (T' := s₁) (mkF m 4 #[iv p0, iv p1, iv p2, iv p3, .unset, .unset, .unset, .unset, .unset, .unset, .unset, .unset] [(.int (p0 &&& (65535 : Int32)))]) (fun _ k => XS.iand X0.here hx rfl (hb hby at_3) rfl k) ?_
  refine own_to (T' := s₁) (mkF m 5 #[iv p0, iv p1, iv p2, iv p3, .unset, .unset, .unset, .unset, .unset, .unset, .unset, .unset] [(.int ((p0 &&& (65535 : Int32)).toUInt32.toUInt16.toUInt32.toInt32))]) (fun _ k => XS.i2c X0.here hx rfl (hb hby at_4) rfl k) ?_
  generalize hy0 : ((p0 &&& (65535 : Int32)).toUInt32.toUInt16.toUInt32.toInt32) = y0
  have c16_y0 : own_C16 y0 := hy0 ▸ own_i2c16 _
  refine own_to (T' := s₁) (mkF m 7 #[iv p0, iv p1, iv p2, iv p3, iv y0, .unset, .unset, .unset, .unset, .unset, .unset, .unset] []) (fun _ k => XS.istore X0.here hx rfl (hb hby at_5) rfl (l' := #[iv p0, iv p1, iv p2, iv p3, iv y0, .unset, .unset, .unset, .unset, .unset, .unset, .unset]) rfl k) ?_
  refine own_to (T' := s₁) (mkF m 8 #[iv p0, iv p1, iv p2, iv p3, iv y0, .unset, .unset, .unset, .unset, .unset, .unset, .unset] [(.int p0)]) (fun _ k => XS.iloadN X0.here hx rfl (hb hby at_7) rfl k) ?_
  refine own_to (T' := s₁) (mkF m 10 #[iv p0, iv p1, iv p2, iv p3, iv y0, .unset, .unset, .unset, .unset, .unset, .unset, .unset] [(.int (16 : Int32)), (.int p0)]) (fun _ k => XS.bipush X0.here hx rfl (hb hby at_8) k) ?_
  refine own_to (T' := s₁) (mkF m 11 #[iv p0, iv p1, iv p2, iv p3, iv y0, .unset, .unset, .unset, .unset, .unset, .unset, .unset] [(.int ((p0.toUInt32 >>> ((16 : Int32) &&& 31).toUInt32).toInt32))]) (fun _ k => XS.iushr X0.here hx rfl (hb hby at_10) rfl k) ?_
  refine own_to (T' := s₁) (mkF m 12 #[iv p0, iv p1, iv p2, iv p3, iv y0, .unset, .unset, .unset, .unset, .unset, .unset, .unset] [(.int (((p0.toUInt32 >>> ((16 : Int32) &&& 31).toUInt32).toInt32).toUInt32.toUInt16.toUInt32.toInt32))]) (fun _ k => XS.i2c X0.here hx rfl (hb hby at_11) rfl k) ?_
  generalize hy1 : (((p0.toUInt32 >>> ((16 : Int32) &&& 31).toUInt32).toInt32).toUInt32.toUInt16.toUInt32.toInt32) = y1
  have c16_y1 : own_C16 y1 := hy1 ▸ own_i2c16 _
  refine own_to (T' := s₁) (mkF m 14 #[iv p0, iv p1, iv p2, iv p3, iv y0, iv y1, .unset, .unset, .unset, .unset, .unset, .unset] []) (fun _ k => XS.istore X0.here hx rfl (hb hby at_12) rfl (l' := #[iv p0, iv p1, iv p2, iv p3, iv y0, iv y1, .unset, .unset, .unset, .unset, .unset, .unset]) rfl k) ?_
  refine own_to (T' := s₁) (mkF m 15 #[iv p0, iv p1, iv p2, iv p3, iv y0, iv y1, .unset, .unset, .unset, .unset, .unset, .unset] [(.int p1)]) (fun _ k => XS.iloadN X0.here hx rfl (hb hby at_14) rfl k) ?_
  refine own_to (mkF m 17 #[iv p0, iv p1, iv p2, iv p3, iv y0, iv y1, .unset, .unset, .unset, .unset, .unset, .unset] [(.int (65535 : Int32)), (.int p1)]) (X0.ldcInt hx hown (mvT hZ (hw _ (List.mem_of_getElem? (i := 0) rfl))) (g := (mkF m 15 #[iv p0, iv p1, iv p2, iv p3, iv y0, iv y1, .unset, .unset, .unset, .unset, .unset, .unset] [(.int p1)])) rfl (hb hby at_15)) ?_
  refine own_to (T' := s₁) (mkF m 18 #[iv p0, iv p1, iv p2, iv p3, iv y0, iv y1, .unset, .unset, .unset, .unset, .unset, .unset] [(.int (p1 &&& (65535 : Int32)))]) (fun _ k => XS.iand X0.here hx rfl (hb hby at_17) rfl k) ?_
  refine own_to (T' := s₁) (mkF m 19 #[iv p0, iv p1, iv p2, iv p3, iv y0, iv y1, .unset, .unset, .unset, .unset, .unset, .unset] [(.int ((p1 &&& (65535 : Int32)).toUInt32.toUInt16.toUInt32.toInt32))]) (fun _ k => XS.i2c X0.here hx rfl (hb hby at_18) rfl k) ?_
  generalize hy2 : ((p1 &&& (65535 : Int32)).toUInt32.toUInt16.toUInt32.toInt32) = y2
  have c16_y2 : own_C16 y2 := hy2 ▸ own_i2c16 _
  refine own_to (T' := s₁) (mkF m 21 #[iv p0, iv p1, iv p2, iv p3, iv y0, iv y1, iv y2, .unset, .unset, .unset, .unset, .unset] []) (fun _ k => XS.istore X0.here hx rfl (hb hby at_19) rfl (l' := #[iv p0, iv p1, iv p2, iv p3, iv y0, iv y1, iv y2, .unset, .unset, .unset, .unset, .unset]) rfl k) ?_
  refine own_to (T' := s₁) (mkF m 22 #[iv p0, iv p1, iv p2, iv p3, iv y0, iv y1, iv y2, .unset, .unset, .unset, .unset, .unset] [(.int p1)]) (fun _ k => XS.iloadN X0.here hx rfl (hb hby at_21) rfl k) ?_
  refine own_to (T' := s₁) (mkF m 24 #[iv p0, iv p1, iv p2, iv p3, iv y0, iv y1, iv y2, .unset, .unset, .unset, .unset, .unset] [(.int (16 : Int32)), (.int p1)]) (fun _ k => XS.bipush X0.here hx rfl (hb hby at_22) k) ?_
  refine own_to (T' := s₁) (mkF m 25 #[iv p0, iv p1, iv p2, iv p3, iv y0, iv y1, iv y2, .unset, .unset, .unset, .unset, .unset] [(.int ((p1.toUInt32 >>> ((16 : Int32) &&& 31).toUInt32).toInt32))]) (fun _ k => XS.iushr X0.here hx rfl (hb hby at_24) rfl k) ?_
  refine own_to (T' := s₁) (mkF m 26 #[iv p0, iv p1, iv p2, iv p3, iv y0, iv y1, iv y2, .unset, .unset, .unset, .unset, .unset] [(.int (((p1.toUInt32 >>> ((16 : Int32) &&& 31).toUInt32).toInt32).toUInt32.toUInt16.toUInt32.toInt32))]) (fun _ k => XS.i2c X0.here hx rfl (hb hby at_25) rfl k) ?_
  generalize hy3 : (((p1.toUInt32 >>> ((16 : Int32) &&& 31).toUInt32).toInt32).toUInt32.toUInt16.toUInt32.toInt32) = y3
  have c16_y3 : own_C16 y3 := hy3 ▸ own_i2c16 _
  refine own_to (T' := s₁) (mkF m 28 #[iv p0, iv p1, iv p2, iv p3, iv y0, iv y1, iv y2, iv y3, .unset, .unset, .unset, .unset] []) (fun _ k => XS.istore X0.here hx rfl (hb hby at_26) rfl (l' := #[iv p0, iv p1, iv p2, iv p3, iv y0, iv y1, iv y2, iv y3, .unset, .unset, .unset, .unset]) rfl k) ?_
  refine own_to (T' := s₁) (mkF m 29 #[iv p0, iv p1, iv p2, iv p3, iv y0, iv y1, iv y2, iv y3, .unset, .unset, .unset, .unset] [(.int p2)]) (fun _ k => XS.iloadN X0.here hx rfl (hb hby at_28) rfl k) ?_
  refine own_to (T' := s₁) (mkF m 30 #[iv p0, iv p1, iv p2, iv p3, iv y0, iv y1, iv y2, iv y3, .unset, .unset, .unset, .unset] [(.int (3 : Int32)), (.int p2)]) (fun _ k => XS.iconst X0.here hx rfl (hb hby at_29) k) ?_
  refine own_to (T' := s₁) (mkF m 31 #[iv p0, iv p1, iv p2, iv p3, iv y0, iv y1, iv y2, iv y3, .unset, .unset, .unset, .unset] [(.int (p2 &&& (3 : Int32)))]) (fun _ k => XS.iand X0.here hx rfl (hb hby at_30) rfl k) ?_
  refine own_to (T' := s₁) (mkF m 32 #[iv p0, iv p1, iv p2, iv p3, iv y0, iv y1, iv y2, iv y3, .unset, .unset, .unset, .unset] [(.int (1 : Int32)), (.int (p2 &&& (3 : Int32)))]) (fun _ k => XS.iconst X0.here hx rfl (hb hby at_31) k) ?_
  refine own_to (T' := s₁) (mkF m 33 #[iv p0, iv p1, iv p2, iv p3, iv y0, iv y1, iv y2, iv y3, .unset, .unset, .unset, .unset] [(.int ((p2 &&& (3 : Int32)) + (1 : Int32)))]) (fun _ k => XS.iadd X0.here hx rfl (hb hby at_32) rfl k) ?_
  generalize hnn : ((p2 &&& (3 : Int32)) + (1 : Int32)) = nn
  rcases own_n4 p2 hnn with q | q | q | q
  · subst q
    refine own_to (T' := s₁) (mkF m 35 #[iv p0, iv p1, iv p2, iv p3, iv y0, iv y1, iv y2, iv y3, iv 1, .unset, .unset, .unset] []) (fun _ k => XS.istore X0.here hx rfl (hb hby at_33) rfl (l' := #[iv p0, iv p1, iv p2, iv p3, iv y0, iv y1, iv y2, iv y3, iv 1, .unset, .unset, .unset]) rfl k) ?_
    refine own_to (T' := s₁) (mkF m 37 #[iv p0, iv p1, iv p2, iv p3, iv y0, iv y1, iv y2, iv y3, iv 1, .unset, .unset, .unset] [(.int (1 : Int32))]) (fun _ k => XS.iload X0.here hx rfl (hb hby at_35) rfl k) ?_
    refine own_to (T' := s₁) (mkF m 38 #[iv p0, iv p1, iv p2, iv p3, iv y0, iv y1, iv y2, iv y3, iv 1, .unset, .unset, .unset] [(.int (1 : Int32)), (.int (1 : Int32))]) (fun _ k => XS.iconst X0.here hx rfl (hb hby at_37) k) ?_
    refine own_to (T' := s₁) (mkF m 41 #[iv p0, iv p1, iv p2, iv p3, iv y0, iv y1, iv y2, iv y3, iv 1, .unset, .unset, .unset] []) (fun _ k => XS.icmpNo X0.here hx rfl (hb hby at_38) rfl (teq (by decide : (1 : Int32) = (1 : Int32))).2 k) ?_
    obtain ⟨T304, h304, X304, e304, E304, A304, D304, -, st304⟩ := newO X0 hx hZ hown (hw _ (List.mem_of_getElem? (i := 1) rfl)) (hw _ (List.mem_of_getElem? (i := 2) rfl)) (hw _ (List.mem_of_getElem? (i := 3) rfl)) e0 (g := (mkF m 41 #[iv p0, iv p1, iv p2, iv p3, iv y0, iv y1, iv y2, iv y3, iv 1, .unset, .unset, .unset] [])) rfl (hb hby at_41) (by decide) (by decide)
    obtain ⟨b304, g304⟩ : ∃ z, z = h0.size := ⟨_, rfl⟩
    rw [← g304] at A304 D304 st304
    have sz_b304 : h0.size ≤ b304 := Nat.le_trans KP.1 (Nat.le_of_eq g304.symm)
    have ge_b304 : n0 ≤ b304 := Nat.le_trans Z0 sz_b304
    have OL := OL.ext E304
    have KP := KP.ext E304
    have hk1 := Nat.le_trans hk1 E304.1
    have E_b304 : Exa Z h304 b304 "java/lang/String" := A304
    have F_coder_b304 : Fld Z h304 b304 "java/lang/String" "coder" "B" (.int (0 : Int32)) := D304 (Or.inr (hw _ (List.mem_of_getElem? (i := 28) rfl))) (ty := .byte) (by decide)
    have F_value_b304 : Fld Z h304 b304 "java/lang/String" "value" "[B" .null := D304 (Or.inr (hw _ (List.mem_of_getElem? (i := 30) rfl))) (ty := (.array .byte)) (by decide)
    refine own_to (mkF m 44 #[iv p0, iv p1, iv p2, iv p3, iv y0, iv y1, iv y2, iv y3, iv 1, .unset, .unset, .unset] [(.ref b304)]) st304 ?_
    refine own_to (T' := T304) (mkF m 45 #[iv p0, iv p1, iv p2, iv p3, iv y0, iv y1, iv y2, iv y3, iv 1, .unset, .unset, .unset] [(.ref b304), (.ref b304)]) (fun _ k => XS.dup X304.here hx rfl (hb hby at_44) rfl rfl k) ?_
    refine own_to (T' := T304) (mkF m 46 #[iv p0, iv p1, iv p2, iv p3, iv y0, iv y1, iv y2, iv y3, iv 1, .unset, .unset, .unset] [(.int (1 : Int32)), (.ref b304), (.ref b304)]) (fun _ k => XS.iconst X304.here hx rfl (hb hby at_45) k) ?_
    obtain ⟨T305, h305, k305, X305, e305, E305, A305, B305, st305⟩ := newPE X304 hx hZ (hw _ (List.mem_of_getElem? (i := 4) rfl)) e304 (g := (mkF m 46 #[iv p0, iv p1, iv p2, iv p3, iv y0, iv y1, iv y2, iv y3, iv 1, .unset, .unset, .unset] [(.int (1 : Int32)), (.ref b304), (.ref b304)])) rfl (hb hby at_46) rfl (by decide) (cap := 1) (by decide) (by decide) (by decide) (by decide) (ad := "[C") (by decide)
    obtain ⟨b305, g305⟩ : ∃ z, z = h304.size := ⟨_, rfl⟩
    rw [← g305] at A305 B305 st305
    have sz_b305 : h0.size ≤ b305 := Nat.le_trans KP.1 (Nat.le_of_eq g305.symm)
    have ge_b305 : n0 ≤ b305 := Nat.le_trans Z0 sz_b305
    have ne_b304_b305 : b304 ≠ b305 := Nat.ne_of_lt (Nat.lt_of_lt_of_le E_b304.lt (Nat.le_of_eq g305.symm))
    have OL := OL.ext E305
    have KP := KP.ext E305
    have hk1 := Nat.le_trans hk1 E305.1
    have E_b304 := E_b304.ext E305
    have F_coder_b304 := F_coder_b304.ext E305
    have F_value_b304 := F_value_b304.ext E305
    have V_b305 : Arv Z h305 b305 k305 .char (1 : Int32) [(.int (0 : Int32))] (.int (0 : Int32)) := (Arv.new A305 (by decide)).pad (pad_rep [] (.int (0 : Int32)) 1)
    refine own_to (mkF m 48 #[iv p0, iv p1, iv p2, iv p3, iv y0, iv y1, iv y2, iv y3, iv 1, .unset, .unset, .unset] [(.ref b305), (.ref b304), (.ref b304)]) st305 ?_
    refine own_to (T' := T305) (mkF m 49 #[iv p0, iv p1, iv p2, iv p3, iv y0, iv y1, iv y2, iv y3, iv 1, .unset, .unset, .unset] [(.ref b305), (.ref b305), (.ref b304), (.ref b304)]) (fun _ k => XS.dup X305.here hx rfl (hb hby at_48) rfl rfl k) ?_
    refine own_to (T' := T305) (mkF m 50 #[iv p0, iv p1, iv p2, iv p3, iv y0, iv y1, iv y2, iv y3, iv 1, .unset, .unset, .unset] [(.int (0 : Int32)), (.ref b305), (.ref b305), (.ref b304), (.ref b304)]) (fun _ k => XS.iconst X305.here hx rfl (hb hby at_49) k) ?_
    refine own_to (T' := T305) (mkF m 52 #[iv p0, iv p1, iv p2, iv p3, iv y0, iv y1, iv y2, iv y3, iv 1, .unset, .unset, .unset] [(.int y0), (.int (0 : Int32)), (.ref b305), (.ref b305), (.ref b304), (.ref b304)]) (fun _ k => XS.iload X305.here hx rfl (hb hby at_50) rfl k) ?_
    obtain ⟨cl306, Ar306, q306, S306, M306, H306, G306⟩ := id V_b305
    obtain ⟨T306, h306, X306, e306, W306, st306⟩ := stC X305 hx hZ e305 Ar306 (j := (0 : Int32)) (inb_of S306 ⟨by decide, by decide⟩) (g := (mkF m 52 #[iv p0, iv p1, iv p2, iv p3, iv y0, iv y1, iv y2, iv y3, iv 1, .unset, .unset, .unset] [(.int y0), (.int (0 : Int32)), (.ref b305), (.ref b305), (.ref b304), (.ref b304)])) rfl rfl (hb hby at_52)
    refine own_to (mkF m 53 #[iv p0, iv p1, iv p2, iv p3, iv y0, iv y1, iv y2, iv y3, iv 1, .unset, .unset, .unset] [(.ref b305), (.ref b304), (.ref b304)]) st306 ?_
    have N306 := Fr.snoc X306 N0 ge_b305
    have tmp306 : Arv Z h306 b305 k305 .char (1 : Int32) [(.int (nar .char y0))] (.int (0 : Int32)) := Arv.set Ar306 q306 S306 M306 H306 G306 (fits_nar_char _) W306 0 rfl (Nat.le_of_ble_eq_true rfl)
    rw [own_nar16 c16_y0] at tmp306
    have OL := OL.wr W306 ge_b305
    have KP := KP.wr W306 (Or.inr sz_b305)
    have hk1 := Nat.le_trans hk1 (Keep.of_wr W306).1
    have E_b304 := E_b304.wr W306
    have F_coder_b304 := F_coder_b304.other W306 (Or.inl ne_b304_b305)
    have F_value_b304 := F_value_b304.other W306 (Or.inl ne_b304_b305)
    have V_b305 := tmp306
    have KP0 := KP
    have lt0_b304 := E_b304.lt
    have lt0_b305 := V_b305.lt
    obtain ⟨_, _, ⟨T307, L307, k307, n307⟩, -, X307, ⟨Lc307, hQ307, l307, y307, z307⟩, st307⟩ := X306.specialBack hx (y := (⟨"java/lang/String", "<init>", "([C)V"⟩ : MethodName)) rfl hown (mvT hZ (hw _ (List.mem_of_getElem? (i := 5) rfl))) (mvT hZ (hw _ (List.mem_of_getElem? (i := 6) rfl))) (mvT hZ (hw _ (List.mem_of_getElem? (i := 7) rfl))) (by decide) (backOf (W := 1) (own_rmI1_1 l Z a0 hw [] y0 G1 b304 b305 k305 h306 n0 (Nat.le_trans Z0 KP.1) OL ge_b304 ne_b304_b305 E_b304 F_value_b304 F_coder_b304 c16_y0 V_b305 O2 P5 OAD OHI OLO) hZ (hw _ (List.mem_of_getElem? (i := 7) rfl)) (hw _ (List.mem_of_getElem? (i := 3) rfl)) (by decide) (by decide)) (g := (mkF m 53 #[iv p0, iv p1, iv p2, iv p3, iv y0, iv y1, iv y2, iv y3, iv 1, .unset, .unset, .unset] [(.ref b305), (.ref b304), (.ref b304)])) rfl (by rw [hml]; rfl) (Steps.refl _) (a := b304) (argsL := [(.ref b305)]) (rest := [(.ref b304)]) (lenOf own_pd14 rfl) rfl (by show 2 * 0 + _ ≤ _; exact Nat.le_of_eq rfl) (hb hby at_53) (fun _ _ => ⟨rfl, e306, (by decide : 2 + 2 ≤ _), (by decide : 5 + 3 ≤ _)⟩)
    dsimp only [Pt.U, Pt.locs, Pt.cells, Pt.slots] at X307 l307 y307 z307 st307 hQ307
    subst l307 y307 z307
    obtain ⟨rfl, N307q, K307, tx, kx, ge_tx, sz0_tx, hor307⟩ := hQ307
    have N307 := Fr.app N306 N307q
    have OL := OL.keep K307 (allS ge_b304 all0)
    have KP := KP.trans K307 (allS (Or.inr sz_b304) all0)
    have hk1 := Nat.le_trans hk1 K307.1
    have E_b304 := E_b304.keep K307
    have V_b305 := V_b305.keep K307 (ninS (Ne.symm ne_b304_b305) nin0)
    refine own_via (mkF m 56 #[iv p0, iv p1, iv p2, iv p3, iv y0, iv y1, iv y2, iv y3, iv 1, .unset, .unset, .unset] [(.ref b304)]) st307 ?_
    have sz_tx : h0.size ≤ tx := Nat.le_trans KP0.1 sz0_tx
    have ne_b305_tx : b305 ≠ tx := Nat.ne_of_lt (Nat.lt_of_lt_of_le lt0_b305 sz0_tx)
    have SL : own_StrL Z T307.heap b304 tx (1 : Int32) (2 : Int32) := (by rcases hor307 with ⟨-, g⟩ | g <;> first | exact ⟨_, _, _, _, g, Or.inl ⟨rfl, rfl⟩⟩ | exact ⟨_, _, _, _, g, Or.inr ⟨rfl, rfl⟩⟩)
    refine own_to (T' := T307) (mkF m 58 #[iv p0, iv p1, iv p2, iv p3, iv y0, iv y1, iv y2, iv y3, iv 1, rv b304, .unset, .unset] []) (fun _ k => XS.astore X307.here hx rfl (hb hby at_56) rfl rfl (l' := #[iv p0, iv p1, iv p2, iv p3, iv y0, iv y1, iv y2, iv y3, iv 1, rv b304, .unset, .unset]) rfl k) ?_
    refine own_to (T' := T307) (mkF m 160 #[iv p0, iv p1, iv p2, iv p3, iv y0, iv y1, iv y2, iv y3, iv 1, rv b304, .unset, .unset] []) (fun _ k => XS.goto X307.here hx rfl (pc0 := 58) (pc' := 160) rfl (hb hby at_58) (by decide) (by decide) k) ?_
    refine own_to (T' := T307) (mkF m 161 #[iv p0, iv p1, iv p2, iv p3, iv y0, iv y1, iv y2, iv y3, iv 1, rv b304, .unset, .unset] [(.int p3)]) (fun _ k => XS.iloadN X307.here hx rfl (hb hby at_160) rfl k) ?_
    refine own_to (mkF m 163 #[iv p0, iv p1, iv p2, iv p3, iv y0, iv y1, iv y2, iv y3, iv 1, rv b304, .unset, .unset] [(.int (65536 : Int32)), (.int p3)]) (X307.ldcInt hx hown (mvT hZ (hw _ (List.mem_of_getElem? (i := 31) rfl))) (g := (mkF m 161 #[iv p0, iv p1, iv p2, iv p3, iv y0, iv y1, iv y2, iv y3, iv 1, rv b304, .unset, .unset] [(.int p3)])) rfl (hb hby at_161)) ?_
    refine own_to (T' := T307) (mkF m 164 #[iv p0, iv p1, iv p2, iv p3, iv y0, iv y1, iv y2, iv y3, iv 1, rv b304, .unset, .unset] [(.int (p3 &&& (65536 : Int32)))]) (fun _ k => XS.iand X307.here hx rfl (hb hby at_163) rfl k) ?_
    by_cases hnb : (p3 &&& (65536 : Int32)) = (0 : Int32)
    · refine own_to (T' := T307) (mkF m 174 #[iv p0, iv p1, iv p2, iv p3, iv y0, iv y1, iv y2, iv y3, iv 1, rv b304, .unset, .unset] []) (fun _ k => XS.ifYes X307.here hx rfl (pc0 := 164) (pc' := 174) rfl (hb hby at_164) rfl ((if0 _ _).trans (teq hnb).1) (by decide) (by decide) k) ?_
      refine own_to (T' := T307) (mkF m 175 #[iv p0, iv p1, iv p2, iv p3, iv y0, iv y1, iv y2, iv y3, iv 1, rv b304, .unset, .unset] [(.int p3)]) (fun _ k => XS.iloadN X307.here hx rfl (hb hby at_174) rfl k) ?_
      refine own_to (mkF m 177 #[iv p0, iv p1, iv p2, iv p3, iv y0, iv y1, iv y2, iv y3, iv 1, rv b304, .unset, .unset] [(.int (65535 : Int32)), (.int p3)]) (X307.ldcInt hx hown (mvT hZ (hw _ (List.mem_of_getElem? (i := 0) rfl))) (g := (mkF m 175 #[iv p0, iv p1, iv p2, iv p3, iv y0, iv y1, iv y2, iv y3, iv 1, rv b304, .unset, .unset] [(.int p3)])) rfl (hb hby at_175)) ?_
      refine own_to (T' := T307) (mkF m 178 #[iv p0, iv p1, iv p2, iv p3, iv y0, iv y1, iv y2, iv y3, iv 1, rv b304, .unset, .unset] [(.int (p3 &&& (65535 : Int32)))]) (fun _ k => XS.iand X307.here hx rfl (hb hby at_177) rfl k) ?_
      refine own_to (T' := T307) (mkF m 179 #[iv p0, iv p1, iv p2, iv p3, iv y0, iv y1, iv y2, iv y3, iv 1, rv b304, .unset, .unset] [(.int ((p3 &&& (65535 : Int32)).toUInt32.toUInt16.toUInt32.toInt32))]) (fun _ k => XS.i2c X307.here hx rfl (hb hby at_178) rfl k) ?_
      generalize hyn : ((p3 &&& (65535 : Int32)).toUInt32.toUInt16.toUInt32.toInt32) = yn
      obtain ⟨_, _, ⟨T308, L308, k308, n308⟩, -, X308, ⟨Lc308, hQ308, l308, y308, z308⟩, st308⟩ := Jvm.LawKit.callS X307 hx (y := (⟨"java/lang/String", "valueOf", "(C)Ljava/lang/String;"⟩ : MethodName)) hown (mvT hZ (hw _ (List.mem_of_getElem? (i := 32) rfl))) (mvT hZ (hw _ (List.mem_of_getElem? (i := 33) rfl))) (mvT hZ (hw _ (List.mem_of_getElem? (i := 3) rfl))) (mvT hZ (hw _ (List.mem_of_getElem? (i := 34) rfl))) (by decide) (backOf (W := 0) (own_rmVO l Z a0 hw [] yn G1 T307.heap n0 (Nat.le_trans Z0 KP.1) OL O2 P5 OAD OHI OLO) hZ (hw _ (List.mem_of_getElem? (i := 34) rfl)) (hw _ (List.mem_of_getElem? (i := 3) rfl)) (by decide) (by decide)) (g := (mkF m 179 #[iv p0, iv p1, iv p2, iv p3, iv y0, iv y1, iv y2, iv y3, iv 1, rv b304, .unset, .unset] [(.int yn)])) rfl (by rw [hml]; rfl) (argsL := [(.int yn)]) (rest := []) (lenOf own_pd15 rfl) rfl (by show 2 * 0 + _ ≤ _; exact Nat.le_of_eq rfl) (hb hby at_179) (fun _ _ => ⟨rfl, rfl, (by decide : 4 + 2 ≤ _), (by decide : 8 + 6 ≤ _)⟩)
      dsimp only [Pt.U, Pt.locs, Pt.cells, Pt.slots] at X308 l308 y308 z308 st308 hQ308
      subst l308 y308 z308
      obtain ⟨nm, rfl, N308q, K308⟩ := hQ308
      have N308 := Fr.app N307 N308q
      have OL := OL.keep K308 all0
      have KP := KP.trans K308 all0
      have hk1 := Nat.le_trans hk1 K308.1
      have V_b305 := V_b305.keep K308 nin0
      have SL := SL.keep K308 nin0 nin0
      refine own_to (mkF m 182 #[iv p0, iv p1, iv p2, iv p3, iv y0, iv y1, iv y2, iv y3, iv 1, rv b304, .unset, .unset] [(.ref nm)]) st308 ?_
      refine own_to (T' := T308) (mkF m 184 #[iv p0, iv p1, iv p2, iv p3, iv y0, iv y1, iv y2, iv y3, iv 1, rv b304, rv nm, .unset] []) (fun _ k => XS.astore X308.here hx rfl (hb hby at_182) rfl rfl (l' := #[iv p0, iv p1, iv p2, iv p3, iv y0, iv y1, iv y2, iv y3, iv 1, rv b304, rv nm, .unset]) rfl k) ?_
      refine own_to (T' := T308) (mkF m 186 #[iv p0, iv p1, iv p2, iv p3, iv y0, iv y1, iv y2, iv y3, iv 1, rv b304, rv nm, .unset] [(.ref nm)]) (fun _ k => XS.aload X308.here hx rfl (hb hby at_184) rfl rfl k) ?_
      refine own_to (T' := T308) (mkF m 188 #[iv p0, iv p1, iv p2, iv p3, iv y0, iv y1, iv y2, iv y3, iv 1, rv b304, rv nm, .unset] [(.ref b304), (.ref nm)]) (fun _ k => XS.aload X308.here hx rfl (hb hby at_186) rfl rfl k) ?_
      obtain ⟨_, _, ⟨T310, L310, k310, n310⟩, -, X310, ⟨Lc310, hQ310, l310, y310, z310⟩, st310⟩ := Jvm.LawKit.callS X308 hx (y := (⟨"com/example/nuthatch/nuthatch/Arguments", "requireNonEmpty", "(Ljava/lang/String;Ljava/lang/String;)Ljava/lang/String;"⟩ : MethodName)) hown (mvT hZ (hw _ (List.mem_of_getElem? (i := 46) rfl))) (mvT hZ (hw _ (List.mem_of_getElem? (i := 47) rfl))) (mvT hZ (hw _ (List.mem_of_getElem? (i := 48) rfl))) (mvT hZ (hw _ (List.mem_of_getElem? (i := 49) rfl))) (by decide) (backOf (W := 0) (own_rmRE_1 l Z a0 hw [] G1 nm b304 tx T308.heap n0 (Nat.le_trans Z0 KP.1) OL SL O2 P5) hZ (hw _ (List.mem_of_getElem? (i := 49) rfl)) (hw _ (List.mem_of_getElem? (i := 48) rfl)) (by decide) (by decide)) (g := (mkF m 188 #[iv p0, iv p1, iv p2, iv p3, iv y0, iv y1, iv y2, iv y3, iv 1, rv b304, rv nm, .unset] [(.ref b304), (.ref nm)])) rfl (by rw [hml]; rfl) (argsL := [(.ref nm), (.ref b304)]) (rest := []) (lenOf own_pd16 rfl) rfl (by show 2 * 0 + _ ≤ _; exact Nat.le_of_eq rfl) (hb hby at_188) (fun _ _ => ⟨rfl, rfl, (by decide : 6 + 0 ≤ _), (by decide : 14 + 0 ≤ _)⟩)
      dsimp only [Pt.U, Pt.locs, Pt.cells, Pt.slots] at X310 l310 y310 z310 st310 hQ310
      subst l310 y310 z310
      obtain ⟨rfl, N310q, e310⟩ := hQ310
      have N310 := Fr.app N308 N310q
      refine own_to (mkF m 191 #[iv p0, iv p1, iv p2, iv p3, iv y0, iv y1, iv y2, iv y3, iv 1, rv b304, rv nm, .unset] [(.ref b304)]) st310 ?_
      refine own_to (T' := T310) (mkF m 193 #[iv p0, iv p1, iv p2, iv p3, iv y0, iv y1, iv y2, iv y3, iv 1, rv b304, rv nm, rv b304] []) (fun _ k => XS.astore X310.here hx rfl (hb hby at_191) rfl rfl (l' := #[iv p0, iv p1, iv p2, iv p3, iv y0, iv y1, iv y2, iv y3, iv 1, rv b304, rv nm, rv b304]) rfl k) ?_
      refine own_to (T' := T310) (mkF m 195 #[iv p0, iv p1, iv p2, iv p3, iv y0, iv y1, iv y2, iv y3, iv 1, rv b304, rv nm, rv b304] [(.ref b304)]) (fun _ k => XS.aload X310.here hx rfl (hb hby at_193) rfl rfl k) ?_
      refine own_to (T' := T310) (mkF m 197 #[iv p0, iv p1, iv p2, iv p3, iv y0, iv y1, iv y2, iv y3, iv 1, rv b304, rv nm, rv b304] [(.ref b304), (.ref b304)]) (fun _ k => XS.aload X310.here hx rfl (hb hby at_195) rfl rfl k) ?_
      refine own_to (T' := T310) (mkF m 200 #[iv p0, iv p1, iv p2, iv p3, iv y0, iv y1, iv y2, iv y3, iv 1, rv b304, rv nm, rv b304] []) (fun _ k => Jvm.RoadKit.acmp (g := (mkF m 197 #[iv p0, iv p1, iv p2, iv p3, iv y0, iv y1, iv y2, iv y3, iv 1, rv b304, rv nm, rv b304] [(.ref b304), (.ref b304)])) X310 hx rfl rfl rfl (pc0 := 197) (pc' := 200) (same := true) rfl (hb hby at_197) rfl (decide_eq_true rfl) (by decide) (by decide) k) ?_
      refine own_to (T' := T310) (mkF m 202 #[iv p0, iv p1, iv p2, iv p3, iv y0, iv y1, iv y2, iv y3, iv 1, rv b304, rv nm, rv b304] [(.ref b304)]) (fun _ k => XS.aload X310.here hx rfl (hb hby at_200) rfl rfl k) ?_
      obtain ⟨cq311, kq311, q311a, q311b, q311c⟩ := isOf hZ e310 SL.exa
      obtain ⟨_, _, ⟨T311, L311, k311, n311⟩, -, X311, ⟨Lc311, hQ311, l311, y311, z311⟩, st311⟩ := X310.virtualBack hx (y := (⟨"java/lang/String", "length", "()I"⟩ : MethodName)) (z := (⟨"java/lang/String", "length", "()I"⟩ : MethodName)) hown (mvT hZ (hw _ (List.mem_of_getElem? (i := 59) rfl))) (mvT hZ (hw _ (List.mem_of_getElem? (i := 60) rfl))) (notFace_of_selects (args := #[]) (mvT hZ (hw _ (List.mem_of_getElem? (i := 62) rfl)))) (mvT hZ (hw _ (List.mem_of_getElem? (i := 62) rfl))) (mvT hZ (hw _ (List.mem_of_getElem? (i := 61) rfl))) (by decide) (backOf (W := 0) (own_rmLN_1 l Z a0 hw [] G1 b304 tx T308.heap n0 (Nat.le_trans Z0 KP.1) OL SL O2 P5) hZ (hw _ (List.mem_of_getElem? (i := 63) rfl)) (hw _ (List.mem_of_getElem? (i := 3) rfl)) (by decide) (by decide)) q311a q311c (g := (mkF m 202 #[iv p0, iv p1, iv p2, iv p3, iv y0, iv y1, iv y2, iv y3, iv 1, rv b304, rv nm, rv b304] [(.ref b304)])) rfl (by rw [hml]; rfl) (Steps.refl _) (argsL := []) (rest := []) (lenOf own_pd17 rfl) rfl (by show 2 * 0 + _ ≤ _; exact Nat.le_of_eq rfl) (hb hby at_202) (fun _ _ => ⟨rfl, e310, (by decide : 6 + 0 ≤ _), (by decide : 14 + 0 ≤ _)⟩)
      dsimp only [Pt.U, Pt.locs, Pt.cells, Pt.slots] at X311 l311 y311 z311 st311 hQ311
      subst l311 y311 z311
      obtain ⟨rfl, N311q, e311⟩ := hQ311
      have N311 := Fr.app N310 N311q
      refine own_via (mkF m 205 #[iv p0, iv p1, iv p2, iv p3, iv y0, iv y1, iv y2, iv y3, iv 1, rv b304, rv nm, rv b304] [(.int (1 : Int32))]) st311 ?_
      refine own_to (T' := T311) (mkF m 207 #[iv p0, iv p1, iv p2, iv p3, iv y0, iv y1, iv y2, iv y3, iv 1, rv b304, rv nm, rv b304] [(.int (1 : Int32)), (.int (1 : Int32))]) (fun _ k => XS.iload X311.here hx rfl (hb hby at_205) rfl k) ?_
      refine own_to (T' := T311) (mkF m 210 #[iv p0, iv p1, iv p2, iv p3, iv y0, iv y1, iv y2, iv y3, iv 1, rv b304, rv nm, rv b304] []) (fun _ k => XS.icmpNo X311.here hx rfl (hb hby at_207) rfl (teq (by decide : (1 : Int32) = (1 : Int32))).2 k) ?_
      refine own_to (T' := T311) (mkF m 211 #[iv p0, iv p1, iv p2, iv p3, iv y0, iv y1, iv y2, iv y3, iv 1, rv b304, rv nm, rv b304] [(.int (1 : Int32))]) (fun _ k => XS.iconst X311.here hx rfl (hb hby at_210) k) ?_
      refine own_to (T' := T311) (mkF m 215 #[iv p0, iv p1, iv p2, iv p3, iv y0, iv y1, iv y2, iv y3, iv 1, rv b304, rv nm, rv b304] [(.int (1 : Int32))]) (fun _ k => XS.goto X311.here hx rfl (pc0 := 211) (pc' := 215) rfl (hb hby at_211) (by decide) (by decide) k) ?_
      exact own_retNW (s := s) (vm₁ := s.vm) X311 hS (by rw [e311]; exact hk1) hx (t := .boolean) Bd.returns (by simp) hlk (hb hby at_215) (by decide) (by decide) (by rw [e311]; exact ⟨rfl, N311⟩)
    · refine own_to (T' := T307) (mkF m 167 #[iv p0, iv p1, iv p2, iv p3, iv y0, iv y1, iv y2, iv y3, iv 1, rv b304, .unset, .unset] []) (fun _ k => XS.ifNo X307.here hx rfl (hb hby at_164) rfl ((if0 _ _).trans (feq hnb).1) k) ?_
      obtain ⟨nm, T309, h309, k1, X309, e309, E309, hS, hk2, hZ, hown, st309⟩ := ldcS (s := s) (vm0 := s.vm) X307 hx hZ hown (hw _ (List.mem_of_getElem? (i := 88) rfl)) hwsS rfl hS hk1 (g := (mkF m 167 #[iv p0, iv p1, iv p2, iv p3, iv y0, iv y1, iv y2, iv y3, iv 1, rv b304, .unset, .unset] [])) rfl (hb hby at_167) (n := 0) (by decide) (by decide) (by decide) (by decide)
      have OL := OL.ext E309
      have KP := KP.ext E309
      have V_b305 := V_b305.ext E309
      have SL := SL.ext E309
      have hk1 := hk2
      refine own_to (mkF m 169 #[iv p0, iv p1, iv p2, iv p3, iv y0, iv y1, iv y2, iv y3, iv 1, rv b304, .unset, .unset] [(.ref nm)]) st309 ?_
      refine own_to (T' := T309) (mkF m 171 #[iv p0, iv p1, iv p2, iv p3, iv y0, iv y1, iv y2, iv y3, iv 1, rv b304, rv nm, .unset] []) (fun _ k => XS.astore X309.here hx rfl (hb hby at_169) rfl rfl (l' := #[iv p0, iv p1, iv p2, iv p3, iv y0, iv y1, iv y2, iv y3, iv 1, rv b304, rv nm, .unset]) rfl k) ?_
      refine own_to (T' := T309) (mkF m 184 #[iv p0, iv p1, iv p2, iv p3, iv y0, iv y1, iv y2, iv y3, iv 1, rv b304, rv nm, .unset] []) (fun _ k => XS.goto X309.here hx rfl (pc0 := 171) (pc' := 184) rfl (hb hby at_171) (by decide) (by decide) k) ?_
      refine own_to (T' := T309) (mkF m 186 #[iv p0, iv p1, iv p2, iv p3, iv y0, iv y1, iv y2, iv y3, iv 1, rv b304, rv nm, .unset] [(.ref nm)]) (fun _ k => XS.aload X309.here hx rfl (hb hby at_184) rfl rfl k) ?_
      refine own_to (T' := T309) (mkF m 188 #[iv p0, iv p1, iv p2, iv p3, iv y0, iv y1, iv y2, iv y3, iv 1, rv b304, rv nm, .unset] [(.ref b304), (.ref nm)]) (fun _ k => XS.aload X309.here hx rfl (hb hby at_186) rfl rfl k) ?_
      obtain ⟨_, _, ⟨T312, L312, k312, n312⟩, -, X312, ⟨Lc312, hQ312, l312, y312, z312⟩, st312⟩ := Jvm.LawKit.callS X309 hx (y := (⟨"com/example/nuthatch/nuthatch/Arguments", "requireNonEmpty", "(Ljava/lang/String;Ljava/lang/String;)Ljava/lang/String;"⟩ : MethodName)) hown (mvT hZ (hw _ (List.mem_of_getElem? (i := 46) rfl))) (mvT hZ (hw _ (List.mem_of_getElem? (i := 47) rfl))) (mvT hZ (hw _ (List.mem_of_getElem? (i := 48) rfl))) (mvT hZ (hw _ (List.mem_of_getElem? (i := 49) rfl))) (by decide) (backOf (W := 0) (own_rmRE_1 l Z a0 hw [] G1 nm b304 tx h309 n0 (Nat.le_trans Z0 KP.1) OL SL O2 P5) hZ (hw _ (List.mem_of_getElem? (i := 49) rfl)) (hw _ (List.mem_of_getElem? (i := 48) rfl)) (by decide) (by decide)) (g := (mkF m 188 #[iv p0, iv p1, iv p2, iv p3, iv y0, iv y1, iv y2, iv y3, iv 1, rv b304, rv nm, .unset] [(.ref b304), (.ref nm)])) rfl (by rw [hml]; rfl) (argsL := [(.ref nm), (.ref b304)]) (rest := []) (lenOf own_pd16 rfl) rfl (by show 2 * 0 + _ ≤ _; exact Nat.le_of_eq rfl) (hb hby at_188) (fun _ _ => ⟨rfl, e309, (by decide : 6 + 0 ≤ _), (by decide : 12 + 0 ≤ _)⟩)
      dsimp only [Pt.U, Pt.locs, Pt.cells, Pt.slots] at X312 l312 y312 z312 st312 hQ312
      subst l312 y312 z312
      obtain ⟨rfl, N312q, e312⟩ := hQ312
      have N312 := Fr.app N307 N312q
      refine own_to (mkF m 191 #[iv p0, iv p1, iv p2, iv p3, iv y0, iv y1, iv y2, iv y3, iv 1, rv b304, rv nm, .unset] [(.ref b304)]) st312 ?_
      refine own_to (T' := T312) (mkF m 193 #[iv p0, iv p1, iv p2, iv p3, iv y0, iv y1, iv y2, iv y3, iv 1, rv b304, rv nm, rv b304] []) (fun _ k => XS.astore X312.here hx rfl (hb hby at_191) rfl rfl (l' := #[iv p0, iv p1, iv p2, iv p3, iv y0, iv y1, iv y2, iv y3, iv 1, rv b304, rv nm, rv b304]) rfl k) ?_
      refine own_to (T' := T312) (mkF m 195 #[iv p0, iv p1, iv p2, iv p3, iv y0, iv y1, iv y2, iv y3, iv 1, rv b304, rv nm, rv b304] [(.ref b304)]) (fun _ k => XS.aload X312.here hx rfl (hb hby at_193) rfl rfl k) ?_
      refine own_to (T' := T312) (mkF m 197 #[iv p0, iv p1, iv p2, iv p3, iv y0, iv y1, iv y2, iv y3, iv 1, rv b304, rv nm, rv b304] [(.ref b304), (.ref b304)]) (fun _ k => XS.aload X312.here hx rfl (hb hby at_195) rfl rfl k) ?_
      refine own_to (T' := T312) (mkF m 200 #[iv p0, iv p1, iv p2, iv p3, iv y0, iv y1, iv y2, iv y3, iv 1, rv b304, rv nm, rv b304] []) (fun _ k => Jvm.RoadKit.acmp (g := (mkF m 197 #[iv p0, iv p1, iv p2, iv p3, iv y0, iv y1, iv y2, iv y3, iv 1, rv b304, rv nm, rv b304] [(.ref b304), (.ref b304)])) X312 hx rfl rfl rfl (pc0 := 197) (pc' := 200) (same := true) rfl (hb hby at_197) rfl (decide_eq_true rfl) (by decide) (by decide) k) ?_
      refine own_to (T' := T312) (mkF m 202 #[iv p0, iv p1, iv p2, iv p3, iv y0, iv y1, iv y2, iv y3, iv 1, rv b304, rv nm, rv b304] [(.ref b304)]) (fun _ k => XS.aload X312.here hx rfl (hb hby at_200) rfl rfl k) ?_
      obtain ⟨cq313, kq313, q313a, q313b, q313c⟩ := isOf hZ e312 SL.exa
      obtain ⟨_, _, ⟨T313, L313, k313, n313⟩, -, X313, ⟨Lc313, hQ313, l313, y313, z313⟩, st313⟩ := X312.virtualBack hx (y := (⟨"java/lang/String", "length", "()I"⟩ : MethodName)) (z := (⟨"java/lang/String", "length", "()I"⟩ : MethodName)) hown (mvT hZ (hw _ (List.mem_of_getElem? (i := 59) rfl))) (mvT hZ (hw _ (List.mem_of_getElem? (i := 60) rfl))) (notFace_of_selects (args := #[]) (mvT hZ (hw _ (List.mem_of_getElem? (i := 62) rfl)))) (mvT hZ (hw _ (List.mem_of_getElem? (i := 62) rfl))) (mvT hZ (hw _ (List.mem_of_getElem? (i := 61) rfl))) (by decide) (backOf (W := 0) (own_rmLN_1 l Z a0 hw [] G1 b304 tx h309 n0 (Nat.le_trans Z0 KP.1) OL SL O2 P5) hZ (hw _ (List.mem_of_getElem? (i := 63) rfl)) (hw _ (List.mem_of_getElem? (i := 3) rfl)) (by decide) (by decide)) q313a q313c (g := (mkF m 202 #[iv p0, iv p1, iv p2, iv p3, iv y0, iv y1, iv y2, iv y3, iv 1, rv b304, rv nm, rv b304] [(.ref b304)])) rfl (by rw [hml]; rfl) (Steps.refl _) (argsL := []) (rest := []) (lenOf own_pd17 rfl) rfl (by show 2 * 0 + _ ≤ _; exact Nat.le_of_eq rfl) (hb hby at_202) (fun _ _ => ⟨rfl, e312, (by decide : 6 + 0 ≤ _), (by decide : 12 + 0 ≤ _)⟩)
      dsimp only [Pt.U, Pt.locs, Pt.cells, Pt.slots] at X313 l313 y313 z313 st313 hQ313
      subst l313 y313 z313
      obtain ⟨rfl, N313q, e313⟩ := hQ313
      have N313 := Fr.app N312 N313q
      refine own_via (mkF m 205 #[iv p0, iv p1, iv p2, iv p3, iv y0, iv y1, iv y2, iv y3, iv 1, rv b304, rv nm, rv b304] [(.int (1 : Int32))]) st313 ?_
      refine own_to (T' := T313) (mkF m 207 #[iv p0, iv p1, iv p2, iv p3, iv y0, iv y1, iv y2, iv y3, iv 1, rv b304, rv nm, rv b304] [(.int (1 : Int32)), (.int (1 : Int32))]) (fun _ k => XS.iload X313.here hx rfl (hb hby at_205) rfl k) ?_
      refine own_to (T' := T313) (mkF m 210 #[iv p0, iv p1, iv p2, iv p3, iv y0, iv y1, iv y2, iv y3, iv 1, rv b304, rv nm, rv b304] []) (fun _ k => XS.icmpNo X313.here hx rfl (hb hby at_207) rfl (teq (by decide : (1 : Int32) = (1 : Int32))).2 k) ?_
      refine own_to (T' := T313) (mkF m 211 #[iv p0, iv p1, iv p2, iv p3, iv y0, iv y1, iv y2, iv y3, iv 1, rv b304, rv nm, rv b304] [(.int (1 : Int32))]) (fun _ k => XS.iconst X313.here hx rfl (hb hby at_210) k) ?_
      refine own_to (T' := T313) (mkF m 215 #[iv p0, iv p1, iv p2, iv p3, iv y0, iv y1, iv y2, iv y3, iv 1, rv b304, rv nm, rv b304] [(.int (1 : Int32))]) (fun _ k => XS.goto X313.here hx rfl (pc0 := 211) (pc' := 215) rfl (hb hby at_211) (by decide) (by decide) k) ?_
      exact own_retNW (s := s) (vm₁ := T309.vm) X313 hS (by rw [e313]; exact hk1) hx (t := .boolean) Bd.returns (by simp) hlk (hb hby at_215) (by decide) (by decide) (by rw [e313]; exact ⟨rfl, N313⟩)
  · subst q
    refine own_to (T' := s₁) (mkF m 35 #[iv p0, iv p1, iv p2, iv p3, iv y0, iv y1, iv y2, iv y3, iv 2, .unset, .unset, .unset] []) (fun _ k => XS.istore X0.here hx rfl (hb hby at_33) rfl (l' := #[iv p0, iv p1, iv p2, iv p3, iv y0, iv y1, iv y2, iv y3, iv 2, .unset, .unset, .unset]) rfl k) ?_
    refine own_to (T' := s₁) (mkF m 37 #[iv p0, iv p1, iv p2, iv p3, iv y0, iv y1, iv y2, iv y3, iv 2, .unset, .unset, .unset] [(.int (2 : Int32))]) (fun _ k => XS.iload X0.here hx rfl (hb hby at_35) rfl k) ?_
    refine own_to (T' := s₁) (mkF m 38 #[iv p0, iv p1, iv p2, iv p3, iv y0, iv y1, iv y2, iv y3, iv 2, .unset, .unset, .unset] [(.int (1 : Int32)), (.int (2 : Int32))]) (fun _ k => XS.iconst X0.here hx rfl (hb hby at_37) k) ?_
    refine own_to (T' := s₁) (mkF m 61 #[iv p0, iv p1, iv p2, iv p3, iv y0, iv y1, iv y2, iv y3, iv 2, .unset, .unset, .unset] []) (fun _ k => XS.icmpYes X0.here hx rfl (pc0 := 38) (pc' := 61) rfl (hb hby at_38) rfl (feq (by decide : ¬ ((2 : Int32) = (1 : Int32)))).2 (by decide) (by decide) k) ?_
    refine own_to (T' := s₁) (mkF m 63 #[iv p0, iv p1, iv p2, iv p3, iv y0, iv y1, iv y2, iv y3, iv 2, .unset, .unset, .unset] [(.int (2 : Int32))]) (fun _ k => XS.iload X0.here hx rfl (hb hby at_61) rfl k) ?_
    refine own_to (T' := s₁) (mkF m 64 #[iv p0, iv p1, iv p2, iv p3, iv y0, iv y1, iv y2, iv y3, iv 2, .unset, .unset, .unset] [(.int (2 : Int32)), (.int (2 : Int32))]) (fun _ k => XS.iconst X0.here hx rfl (hb hby at_63) k) ?_
    refine own_to (T' := s₁) (mkF m 67 #[iv p0, iv p1, iv p2, iv p3, iv y0, iv y1, iv y2, iv y3, iv 2, .unset, .unset, .unset] []) (fun _ k => XS.icmpNo X0.here hx rfl (hb hby at_64) rfl (teq (by decide : (2 : Int32) = (2 : Int32))).2 k) ?_
    obtain ⟨T314, h314, X314, e314, E314, A314, D314, -, st314⟩ := newO X0 hx hZ hown (hw _ (List.mem_of_getElem? (i := 1) rfl)) (hw _ (List.mem_of_getElem? (i := 2) rfl)) (hw _ (List.mem_of_getElem? (i := 3) rfl)) e0 (g := (mkF m 67 #[iv p0, iv p1, iv p2, iv p3, iv y0, iv y1, iv y2, iv y3, iv 2, .unset, .unset, .unset] [])) rfl (hb hby at_67) (by decide) (by decide)
    obtain ⟨b314, g314⟩ : ∃ z, z = h0.size := ⟨_, rfl⟩
    rw [← g314] at A314 D314 st314
    have sz_b314 : h0.size ≤ b314 := Nat.le_trans KP.1 (Nat.le_of_eq g314.symm)
    have ge_b314 : n0 ≤ b314 := Nat.le_trans Z0 sz_b314
    have OL := OL.ext E314
    have KP := KP.ext E314
    have hk1 := Nat.le_trans hk1 E314.1
    have E_b314 : Exa Z h314 b314 "java/lang/String" := A314
    have F_coder_b314 : Fld Z h314 b314 "java/lang/String" "coder" "B" (.int (0 : Int32)) := D314 (Or.inr (hw _ (List.mem_of_getElem? (i := 28) rfl))) (ty := .byte) (by decide)
    have F_value_b314 : Fld Z h314 b314 "java/lang/String" "value" "[B" .null := D314 (Or.inr (hw _ (List.mem_of_getElem? (i := 30) rfl))) (ty := (.array .byte)) (by decide)
    refine own_to (mkF m 70 #[iv p0, iv p1, iv p2, iv p3, iv y0, iv y1, iv y2, iv y3, iv 2, .unset, .unset, .unset] [(.ref b314)]) st314 ?_
    refine own_to (T' := T314) (mkF m 71 #[iv p0, iv p1, iv p2, iv p3, iv y0, iv y1, iv y2, iv y3, iv 2, .unset, .unset, .unset] [(.ref b314), (.ref b314)]) (fun _ k => XS.dup X314.here hx rfl (hb hby at_70) rfl rfl k) ?_
    refine own_to (T' := T314) (mkF m 72 #[iv p0, iv p1, iv p2, iv p3, iv y0, iv y1, iv y2, iv y3, iv 2, .unset, .unset, .unset] [(.int (2 : Int32)), (.ref b314), (.ref b314)]) (fun _ k => XS.iconst X314.here hx rfl (hb hby at_71) k) ?_
    obtain ⟨T315, h315, k315, X315, e315, E315, A315, B315, st315⟩ := newPE X314 hx hZ (hw _ (List.mem_of_getElem? (i := 4) rfl)) e314 (g := (mkF m 72 #[iv p0, iv p1, iv p2, iv p3, iv y0, iv y1, iv y2, iv y3, iv 2, .unset, .unset, .unset] [(.int (2 : Int32)), (.ref b314), (.ref b314)])) rfl (hb hby at_72) rfl (by decide) (cap := 2) (by decide) (by decide) (by decide) (by decide) (ad := "[C") (by decide)
    obtain ⟨b315, g315⟩ : ∃ z, z = h314.size := ⟨_, rfl⟩
    rw [← g315] at A315 B315 st315
    have sz_b315 : h0.size ≤ b315 := Nat.le_trans KP.1 (Nat.le_of_eq g315.symm)
    have ge_b315 : n0 ≤ b315 := Nat.le_trans Z0 sz_b315
    have ne_b314_b315 : b314 ≠ b315 := Nat.ne_of_lt (Nat.lt_of_lt_of_le E_b314.lt (Nat.le_of_eq g315.symm))
    have OL := OL.ext E315
    have KP := KP.ext E315
    have hk1 := Nat.le_trans hk1 E315.1
    have E_b314 := E_b314.ext E315
    have F_coder_b314 := F_coder_b314.ext E315
    have F_value_b314 := F_value_b314.ext E315
    have V_b315 : Arv Z h315 b315 k315 .char (2 : Int32) [(.int (0 : Int32)), (.int (0 : Int32))] (.int (0 : Int32)) := (Arv.new A315 (by decide)).pad (pad_rep [] (.int (0 : Int32)) 2)
    refine own_to (mkF m 74 #[iv p0, iv p1, iv p2, iv p3, iv y0, iv y1, iv y2, iv y3, iv 2, .unset, .unset, .unset] [(.ref b315), (.ref b314), (.ref b314)]) st315 ?_
    refine own_to (T' := T315) (mkF m 75 #[iv p0, iv p1, iv p2, iv p3, iv y0, iv y1, iv y2, iv y3, iv 2, .unset, .unset, .unset] [(.ref b315), (.ref b315), (.ref b314), (.ref b314)]) (fun _ k => XS.dup X315.here hx rfl (hb hby at_74) rfl rfl k) ?_
    refine own_to (T' := T315) (mkF m 76 #[iv p0, iv p1, iv p2, iv p3, iv y0, iv y1, iv y2, iv y3, iv 2, .unset, .unset, .unset] [(.int (0 : Int32)), (.ref b315), (.ref b315), (.ref b314), (.ref b314)]) (fun _ k => XS.iconst X315.here hx rfl (hb hby at_75) k) ?_
    refine own_to (T' := T315) (mkF m 78 #[iv p0, iv p1, iv p2, iv p3, iv y0, iv y1, iv y2, iv y3, iv 2, .unset, .unset, .unset] [(.int y0), (.int (0 : Int32)), (.ref b315), (.ref b315), (.ref b314), (.ref b314)]) (fun _ k => XS.iload X315.here hx rfl (hb hby at_76) rfl k) ?_
    obtain ⟨cl316, Ar316, q316, S316, M316, H316, G316⟩ := id V_b315
    obtain ⟨T316, h316, X316, e316, W316, st316⟩ := stC X315 hx hZ e315 Ar316 (j := (0 : Int32)) (inb_of S316 ⟨by decide, by decide⟩) (g := (mkF m 78 #[iv p0, iv p1, iv p2, iv p3, iv y0, iv y1, iv y2, iv y3, iv 2, .unset, .unset, .unset] [(.int y0), (.int (0 : Int32)), (.ref b315), (.ref b315), (.ref b314), (.ref b314)])) rfl rfl (hb hby at_78)
    refine own_to (mkF m 79 #[iv p0, iv p1, iv p2, iv p3, iv y0, iv y1, iv y2, iv y3, iv 2, .unset, .unset, .unset] [(.ref b315), (.ref b314), (.ref b314)]) st316 ?_
    have N316 := Fr.snoc X316 N0 ge_b315
    have tmp316 : Arv Z h316 b315 k315 .char (2 : Int32) [(.int (nar .char y0)), (.int (0 : Int32))] (.int (0 : Int32)) := Arv.set Ar316 q316 S316 M316 H316 G316 (fits_nar_char _) W316 0 rfl (Nat.le_of_ble_eq_true rfl)
    rw [own_nar16 c16_y0] at tmp316
    have OL := OL.wr W316 ge_b315
    have KP := KP.wr W316 (Or.inr sz_b315)
    have hk1 := Nat.le_trans hk1 (Keep.of_wr W316).1
    have E_b314 := E_b314.wr W316
    have F_coder_b314 := F_coder_b314.other W316 (Or.inl ne_b314_b315)
    have F_value_b314 := F_value_b314.other W316 (Or.inl ne_b314_b315)
    have V_b315 := tmp316
    refine own_to (T' := T316) (mkF m 80 #[iv p0, iv p1, iv p2, iv p3, iv y0, iv y1, iv y2, iv y3, iv 2, .unset, .unset, .unset] [(.ref b315), (.ref b315), (.ref b314), (.ref b314)]) (fun _ k => XS.dup X316.here hx rfl (hb hby at_79) rfl rfl k) ?_
    refine own_to (T' := T316) (mkF m 81 #[iv p0, iv p1, iv p2, iv p3, iv y0, iv y1, iv y2, iv y3, iv 2, .unset, .unset, .unset] [(.int (1 : Int32)), (.ref b315), (.ref b315), (.ref b314), (.ref b314)]) (fun _ k => XS.iconst X316.here hx rfl (hb hby at_80) k) ?_
    refine own_to (T' := T316) (mkF m 83 #[iv p0, iv p1, iv p2, iv p3, iv y0, iv y1, iv y2, iv y3, iv 2, .unset, .unset, .unset] [(.int y1), (.int (1 : Int32)), (.ref b315), (.ref b315), (.ref b314), (.ref b314)]) (fun _ k => XS.iload X316.here hx rfl (hb hby at_81) rfl k) ?_
    obtain ⟨cl317, Ar317, q317, S317, M317, H317, G317⟩ := id V_b315
    obtain ⟨T317, h317, X317, e317, W317, st317⟩ := stC X316 hx hZ e316 Ar317 (j := (1 : Int32)) (inb_of S317 ⟨by decide, by decide⟩) (g := (mkF m 83 #[iv p0, iv p1, iv p2, iv p3, iv y0, iv y1, iv y2, iv y3, iv 2, .unset, .unset, .unset] [(.int y1), (.int (1 : Int32)), (.ref b315), (.ref b315), (.ref b314), (.ref b314)])) rfl rfl (hb hby at_83)
    refine own_to (mkF m 84 #[iv p0, iv p1, iv p2, iv p3, iv y0, iv y1, iv y2, iv y3, iv 2, .unset, .unset, .unset] [(.ref b315), (.ref b314), (.ref b314)]) st317 ?_
    have N317 := Fr.snoc X317 N316 ge_b315
    have tmp317 : Arv Z h317 b315 k315 .char (2 : Int32) [(.int y0), (.int (nar .char y1))] (.int (0 : Int32)) := Arv.set Ar317 q317 S317 M317 H317 G317 (fits_nar_char _) W317 1 rfl (Nat.le_of_ble_eq_true rfl)
    rw [own_nar16 c16_y1] at tmp317
    have OL := OL.wr W317 ge_b315
    have KP := KP.wr W317 (Or.inr sz_b315)
    have hk1 := Nat.le_trans hk1 (Keep.of_wr W317).1
    have E_b314 := E_b314.wr W317
    have F_coder_b314 := F_coder_b314.other W317 (Or.inl ne_b314_b315)
    have F_value_b314 := F_value_b314.other W317 (Or.inl ne_b314_b315)
    have V_b315 := tmp317
    have KP0 := KP
    have lt0_b314 := E_b314.lt
    have lt0_b315 := V_b315.lt
    obtain ⟨_, _, ⟨T318, L318, k318, n318⟩, -, X318, ⟨Lc318, hQ318, l318, y318, z318⟩, st318⟩ := X317.specialBack hx (y := (⟨"java/lang/String", "<init>", "([C)V"⟩ : MethodName)) rfl hown (mvT hZ (hw _ (List.mem_of_getElem? (i := 5) rfl))) (mvT hZ (hw _ (List.mem_of_getElem? (i := 6) rfl))) (mvT hZ (hw _ (List.mem_of_getElem? (i := 7) rfl))) (by decide) (backOf (W := 1) (own_rmI1_2 l Z a0 hw [] y0 y1 G1 b314 b315 k315 h317 n0 (Nat.le_trans Z0 KP.1) OL ge_b314 ne_b314_b315 E_b314 F_value_b314 F_coder_b314 c16_y0 c16_y1 V_b315 O2 P5 OAD OHI OLO) hZ (hw _ (List.mem_of_getElem? (i := 7) rfl)) (hw _ (List.mem_of_getElem? (i := 3) rfl)) (by decide) (by decide)) (g := (mkF m 84 #[iv p0, iv p1, iv p2, iv p3, iv y0, iv y1, iv y2, iv y3, iv 2, .unset, .unset, .unset] [(.ref b315), (.ref b314), (.ref b314)])) rfl (by rw [hml]; rfl) (Steps.refl _) (a := b314) (argsL := [(.ref b315)]) (rest := [(.ref b314)]) (lenOf own_pd14 rfl) rfl (by show 2 * 0 + _ ≤ _; exact Nat.le_of_eq rfl) (hb hby at_84) (fun _ _ => ⟨rfl, e317, (by decide : 2 + 2 ≤ _), (by decide : 6 + 6 ≤ _)⟩)
    dsimp only [Pt.U, Pt.locs, Pt.cells, Pt.slots] at X318 l318 y318 z318 st318 hQ318
    subst l318 y318 z318
    obtain ⟨rfl, N318q, K318, tx, kx, ge_tx, sz0_tx, hor318⟩ := hQ318
    have N318 := Fr.app N317 N318q
    have OL := OL.keep K318 (allS ge_b314 all0)
    have KP := KP.trans K318 (allS (Or.inr sz_b314) all0)
    have hk1 := Nat.le_trans hk1 K318.1
    have E_b314 := E_b314.keep K318
    have V_b315 := V_b315.keep K318 (ninS (Ne.symm ne_b314_b315) nin0)
    refine own_via (mkF m 87 #[iv p0, iv p1, iv p2, iv p3, iv y0, iv y1, iv y2, iv y3, iv 2, .unset, .unset, .unset] [(.ref b314)]) st318 ?_
    have sz_tx : h0.size ≤ tx := Nat.le_trans KP0.1 sz0_tx
    have ne_b315_tx : b315 ≠ tx := Nat.ne_of_lt (Nat.lt_of_lt_of_le lt0_b315 sz0_tx)
    have SL : own_StrL Z T318.heap b314 tx (2 : Int32) (4 : Int32) := (by rcases hor318 with ⟨-, -, g⟩ | g <;> first | exact ⟨_, _, _, _, g, Or.inl ⟨rfl, rfl⟩⟩ | exact ⟨_, _, _, _, g, Or.inr ⟨rfl, rfl⟩⟩)
    refine own_to (T' := T318) (mkF m 89 #[iv p0, iv p1, iv p2, iv p3, iv y0, iv y1, iv y2, iv y3, iv 2, rv b314, .unset, .unset] []) (fun _ k => XS.astore X318.here hx rfl (hb hby at_87) rfl rfl (l' := #[iv p0, iv p1, iv p2, iv p3, iv y0, iv y1, iv y2, iv y3, iv 2, rv b314, .unset, .unset]) rfl k) ?_
    refine own_to (T' := T318) (mkF m 160 #[iv p0, iv p1, iv p2, iv p3, iv y0, iv y1, iv y2, iv y3, iv 2, rv b314, .unset, .unset] []) (fun _ k => XS.goto X318.here hx rfl (pc0 := 89) (pc' := 160) rfl (hb hby at_89) (by decide) (by decide) k) ?_
    refine own_to (T' := T318) (mkF m 161 #[iv p0, iv p1, iv p2, iv p3, iv y0, iv y1, iv y2, iv y3, iv 2, rv b314, .unset, .unset] [(.int p3)]) (fun _ k => XS.iloadN X318.here hx rfl (hb hby at_160) rfl k) ?_
    refine own_to (mkF m 163 #[iv p0, iv p1, iv p2, iv p3, iv y0, iv y1, iv y2, iv y3, iv 2, rv b314, .unset, .unset] [(.int (65536 : Int32)), (.int p3)]) (X318.ldcInt hx hown (mvT hZ (hw _ (List.mem_of_getElem? (i := 31) rfl))) (g := (mkF m 161 #[iv p0, iv p1, iv p2, iv p3, iv y0, iv y1, iv y2, iv y3, iv 2, rv b314, .unset, .unset] [(.int p3)])) rfl (hb hby at_161)) ?_
    refine own_to (T' := T318) (mkF m 164 #[iv p0, iv p1, iv p2, iv p3, iv y0, iv y1, iv y2, iv y3, iv 2, rv b314, .unset, .unset] [(.int (p3 &&& (65536 : Int32)))]) (fun _ k => XS.iand X318.here hx rfl (hb hby at_163) rfl k) ?_
    by_cases hnb : (p3 &&& (65536 : Int32)) = (0 : Int32)
    · refine own_to (T' := T318) (mkF m 174 #[iv p0, iv p1, iv p2, iv p3, iv y0, iv y1, iv y2, iv y3, iv 2, rv b314, .unset, .unset] []) (fun _ k => XS.ifYes X318.here hx rfl (pc0 := 164) (pc' := 174) rfl (hb hby at_164) rfl ((if0 _ _).trans (teq hnb).1) (by decide) (by decide) k) ?_
      refine own_to (T' := T318) (mkF m 175 #[iv p0, iv p1, iv p2, iv p3, iv y0, iv y1, iv y2, iv y3, iv 2, rv b314, .unset, .unset] [(.int p3)]) (fun _ k => XS.iloadN X318.here hx rfl (hb hby at_174) rfl k) ?_
      refine own_to (mkF m 177 #[iv p0, iv p1, iv p2, iv p3, iv y0, iv y1, iv y2, iv y3, iv 2, rv b314, .unset, .unset] [(.int (65535 : Int32)), (.int p3)]) (X318.ldcInt hx hown (mvT hZ (hw _ (List.mem_of_getElem? (i := 0) rfl))) (g := (mkF m 175 #[iv p0, iv p1, iv p2, iv p3, iv y0, iv y1, iv y2, iv y3, iv 2, rv b314, .unset, .unset] [(.int p3)])) rfl (hb hby at_175)) ?_
      refine own_to (T' := T318) (mkF m 178 #[iv p0, iv p1, iv p2, iv p3, iv y0, iv y1, iv y2, iv y3, iv 2, rv b314, .unset, .unset] [(.int (p3 &&& (65535 : Int32)))]) (fun _ k => XS.iand X318.here hx rfl (hb hby at_177) rfl k) ?_
      refine own_to (T' := T318) (mkF m 179 #[iv p0, iv p1, iv p2, iv p3, iv y0, iv y1, iv y2, iv y3, iv 2, rv b314, .unset, .unset] [(.int ((p3 &&& (65535 : Int32)).toUInt32.toUInt16.toUInt32.toInt32))]) (fun _ k => XS.i2c X318.here hx rfl (hb hby at_178) rfl k) ?_
      generalize hyn : ((p3 &&& (65535 : Int32)).toUInt32.toUInt16.toUInt32.toInt32) = yn
      obtain ⟨_, _, ⟨T319, L319, k319, n319⟩, -, X319, ⟨Lc319, hQ319, l319, y319, z319⟩, st319⟩ := Jvm.LawKit.callS X318 hx (y := (⟨"java/lang/String", "valueOf", "(C)Ljava/lang/String;"⟩ : MethodName)) hown (mvT hZ (hw _ (List.mem_of_getElem? (i := 32) rfl))) (mvT hZ (hw _ (List.mem_of_getElem? (i := 33) rfl))) (mvT hZ (hw _ (List.mem_of_getElem? (i := 3) rfl))) (mvT hZ (hw _ (List.mem_of_getElem? (i := 34) rfl))) (by decide) (backOf (W := 0) (own_rmVO l Z a0 hw [] yn G1 T318.heap n0 (Nat.le_trans Z0 KP.1) OL O2 P5 OAD OHI OLO) hZ (hw _ (List.mem_of_getElem? (i := 34) rfl)) (hw _ (List.mem_of_getElem? (i := 3) rfl)) (by decide) (by decide)) (g := (mkF m 179 #[iv p0, iv p1, iv p2, iv p3, iv y0, iv y1, iv y2, iv y3, iv 2, rv b314, .unset, .unset] [(.int yn)])) rfl (by rw [hml]; rfl) (argsL := [(.int yn)]) (rest := []) (lenOf own_pd15 rfl) rfl (by show 2 * 0 + _ ≤ _; exact Nat.le_of_eq rfl) (hb hby at_179) (fun _ _ => ⟨rfl, rfl, (by decide : 4 + 2 ≤ _), (by decide : 12 + 6 ≤ _)⟩)
      dsimp only [Pt.U, Pt.locs, Pt.cells, Pt.slots] at X319 l319 y319 z319 st319 hQ319
      subst l319 y319 z319
      obtain ⟨nm, rfl, N319q, K319⟩ := hQ319
      have N319 := Fr.app N318 N319q
      have OL := OL.keep K319 all0
      have KP := KP.trans K319 all0
      have hk1 := Nat.le_trans hk1 K319.1
      have V_b315 := V_b315.keep K319 nin0
      have SL := SL.keep K319 nin0 nin0
      refine own_to (mkF m 182 #[iv p0, iv p1, iv p2, iv p3, iv y0, iv y1, iv y2, iv y3, iv 2, rv b314, .unset, .unset] [(.ref nm)]) st319 ?_
      refine own_to (T' := T319) (mkF m 184 #[iv p0, iv p1, iv p2, iv p3, iv y0, iv y1, iv y2, iv y3, iv 2, rv b314, rv nm, .unset] []) (fun _ k => XS.astore X319.here hx rfl (hb hby at_182) rfl rfl (l' := #[iv p0, iv p1, iv p2, iv p3, iv y0, iv y1, iv y2, iv y3, iv 2, rv b314, rv nm, .unset]) rfl k) ?_
      refine own_to (T' := T319) (mkF m 186 #[iv p0, iv p1, iv p2, iv p3, iv y0, iv y1, iv y2, iv y3, iv 2, rv b314, rv nm, .unset] [(.ref nm)]) (fun _ k => XS.aload X319.here hx rfl (hb hby at_184) rfl rfl k) ?_
      refine own_to (T' := T319) (mkF m 188 #[iv p0, iv p1, iv p2, iv p3, iv y0, iv y1, iv y2, iv y3, iv 2, rv b314, rv nm, .unset] [(.ref b314), (.ref nm)]) (fun _ k => XS.aload X319.here hx rfl (hb hby at_186) rfl rfl k) ?_
      obtain ⟨_, _, ⟨T321, L321, k321, n321⟩, -, X321, ⟨Lc321, hQ321, l321, y321, z321⟩, st321⟩ := Jvm.LawKit.callS X319 hx (y := (⟨"com/example/nuthatch/nuthatch/Arguments", "requireNonEmpty", "(Ljava/lang/String;Ljava/lang/String;)Ljava/lang/String;"⟩ : MethodName)) hown (mvT hZ (hw _ (List.mem_of_getElem? (i := 46) rfl))) (mvT hZ (hw _ (List.mem_of_getElem? (i := 47) rfl))) (mvT hZ (hw _ (List.mem_of_getElem? (i := 48) rfl))) (mvT hZ (hw _ (List.mem_of_getElem? (i := 49) rfl))) (by decide) (backOf (W := 0) (own_rmRE_2 l Z a0 hw [] G1 nm b314 tx T319.heap n0 (Nat.le_trans Z0 KP.1) OL SL O2 P5) hZ (hw _ (List.mem_of_getElem? (i := 49) rfl)) (hw _ (List.mem_of_getElem? (i := 48) rfl)) (by decide) (by decide)) (g := (mkF m 188 #[iv p0, iv p1, iv p2, iv p3, iv y0, iv y1, iv y2, iv y3, iv 2, rv b314, rv nm, .unset] [(.ref b314), (.ref nm)])) rfl (by rw [hml]; rfl) (argsL := [(.ref nm), (.ref b314)]) (rest := []) (lenOf own_pd16 rfl) rfl (by show 2 * 0 + _ ≤ _; exact Nat.le_of_eq rfl) (hb hby at_188) (fun _ _ => ⟨rfl, rfl, (by decide : 6 + 0 ≤ _), (by decide : 18 + 0 ≤ _)⟩)
      dsimp only [Pt.U, Pt.locs, Pt.cells, Pt.slots] at X321 l321 y321 z321 st321 hQ321
      subst l321 y321 z321
      obtain ⟨rfl, N321q, e321⟩ := hQ321
      have N321 := Fr.app N319 N321q
      refine own_to (mkF m 191 #[iv p0, iv p1, iv p2, iv p3, iv y0, iv y1, iv y2, iv y3, iv 2, rv b314, rv nm, .unset] [(.ref b314)]) st321 ?_
      refine own_to (T' := T321) (mkF m 193 #[iv p0, iv p1, iv p2, iv p3, iv y0, iv y1, iv y2, iv y3, iv 2, rv b314, rv nm, rv b314] []) (fun _ k => XS.astore X321.here hx rfl (hb hby at_191) rfl rfl (l' := #[iv p0, iv p1, iv p2, iv p3, iv y0, iv y1, iv y2, iv y3, iv 2, rv b314, rv nm, rv b314]) rfl k) ?_
      refine own_to (T' := T321) (mkF m 195 #[iv p0, iv p1, iv p2, iv p3, iv y0, iv y1, iv y2, iv y3, iv 2, rv b314, rv nm, rv b314] [(.ref b314)]) (fun _ k => XS.aload X321.here hx rfl (hb hby at_193) rfl rfl k) ?_
      refine own_to (T' := T321) (mkF m 197 #[iv p0, iv p1, iv p2, iv p3, iv y0, iv y1, iv y2, iv y3, iv 2, rv b314, rv nm, rv b314] [(.ref b314), (.ref b314)]) (fun _ k => XS.aload X321.here hx rfl (hb hby at_195) rfl rfl k) ?_
      refine own_to (T' := T321) (mkF m 200 #[iv p0, iv p1, iv p2, iv p3, iv y0, iv y1, iv y2, iv y3, iv 2, rv b314, rv nm, rv b314] []) (fun _ k => Jvm.RoadKit.acmp (g := (mkF m 197 #[iv p0, iv p1, iv p2, iv p3, iv y0, iv y1, iv y2, iv y3, iv 2, rv b314, rv nm, rv b314] [(.ref b314), (.ref b314)])) X321 hx rfl rfl rfl (pc0 := 197) (pc' := 200) (same := true) rfl (hb hby at_197) rfl (decide_eq_true rfl) (by decide) (by decide) k) ?_
      refine own_to (T' := T321) (mkF m 202 #[iv p0, iv p1, iv p2, iv p3, iv y0, iv y1, iv y2, iv y3, iv 2, rv b314, rv nm, rv b314] [(.ref b314)]) (fun _ k => XS.aload X321.here hx rfl (hb hby at_200) rfl rfl k) ?_
      obtain ⟨cq322, kq322, q322a, q322b, q322c⟩ := isOf hZ e321 SL.exa
      obtain ⟨_, _, ⟨T322, L322, k322, n322⟩, -, X322, ⟨Lc322, hQ322, l322, y322, z322⟩, st322⟩ := X321.virtualBack hx (y := (⟨"java/lang/String", "length", "()I"⟩ : MethodName)) (z := (⟨"java/lang/String", "length", "()I"⟩ : MethodName)) hown (mvT hZ (hw _ (List.mem_of_getElem? (i := 59) rfl))) (mvT hZ (hw _ (List.mem_of_getElem? (i := 60) rfl))) (notFace_of_selects (args := #[]) (mvT hZ (hw _ (List.mem_of_getElem? (i := 62) rfl)))) (mvT hZ (hw _ (List.mem_of_getElem? (i := 62) rfl))) (mvT hZ (hw _ (List.mem_of_getElem? (i := 61) rfl))) (by decide) (backOf (W := 0) (own_rmLN_2 l Z a0 hw [] G1 b314 tx T319.heap n0 (Nat.le_trans Z0 KP.1) OL SL O2 P5) hZ (hw _ (List.mem_of_getElem? (i := 63) rfl)) (hw _ (List.mem_of_getElem? (i := 3) rfl)) (by decide) (by decide)) q322a q322c (g := (mkF m 202 #[iv p0, iv p1, iv p2, iv p3, iv y0, iv y1, iv y2, iv y3, iv 2, rv b314, rv nm, rv b314] [(.ref b314)])) rfl (by rw [hml]; rfl) (Steps.refl _) (argsL := []) (rest := []) (lenOf own_pd17 rfl) rfl (by show 2 * 0 + _ ≤ _; exact Nat.le_of_eq rfl) (hb hby at_202) (fun _ _ => ⟨rfl, e321, (by decide : 6 + 0 ≤ _), (by decide : 18 + 0 ≤ _)⟩)
      dsimp only [Pt.U, Pt.locs, Pt.cells, Pt.slots] at X322 l322 y322 z322 st322 hQ322
      subst l322 y322 z322
      obtain ⟨rfl, N322q, e322⟩ := hQ322
      have N322 := Fr.app N321 N322q
      refine own_via (mkF m 205 #[iv p0, iv p1, iv p2, iv p3, iv y0, iv y1, iv y2, iv y3, iv 2, rv b314, rv nm, rv b314] [(.int (2 : Int32))]) st322 ?_
      refine own_to (T' := T322) (mkF m 207 #[iv p0, iv p1, iv p2, iv p3, iv y0, iv y1, iv y2, iv y3, iv 2, rv b314, rv nm, rv b314] [(.int (2 : Int32)), (.int (2 : Int32))]) (fun _ k => XS.iload X322.here hx rfl (hb hby at_205) rfl k) ?_
      refine own_to (T' := T322) (mkF m 210 #[iv p0, iv p1, iv p2, iv p3, iv y0, iv y1, iv y2, iv y3, iv 2, rv b314, rv nm, rv b314] []) (fun _ k => XS.icmpNo X322.here hx rfl (hb hby at_207) rfl (teq (by decide : (2 : Int32) = (2 : Int32))).2 k) ?_
      refine own_to (T' := T322) (mkF m 211 #[iv p0, iv p1, iv p2, iv p3, iv y0, iv y1, iv y2, iv y3, iv 2, rv b314, rv nm, rv b314] [(.int (1 : Int32))]) (fun _ k => XS.iconst X322.here hx rfl (hb hby at_210) k) ?_
      refine own_to (T' := T322) (mkF m 215 #[iv p0, iv p1, iv p2, iv p3, iv y0, iv y1, iv y2, iv y3, iv 2, rv b314, rv nm, rv b314] [(.int (1 : Int32))]) (fun _ k => XS.goto X322.here hx rfl (pc0 := 211) (pc' := 215) rfl (hb hby at_211) (by decide) (by decide) k) ?_
      exact own_retNW (s := s) (vm₁ := s.vm) X322 hS (by rw [e322]; exact hk1) hx (t := .boolean) Bd.returns (by simp) hlk (hb hby at_215) (by decide) (by decide) (by rw [e322]; exact ⟨rfl, N322⟩)
    · refine own_to (T' := T318) (mkF m 167 #[iv p0, iv p1, iv p2, iv p3, iv y0, iv y1, iv y2, iv y3, iv 2, rv b314, .unset, .unset] []) (fun _ k => XS.ifNo X318.here hx rfl (hb hby at_164) rfl ((if0 _ _).trans (feq hnb).1) k) ?_
      obtain ⟨nm, T320, h320, k1, X320, e320, E320, hS, hk2, hZ, hown, st320⟩ := ldcS (s := s) (vm0 := s.vm) X318 hx hZ hown (hw _ (List.mem_of_getElem? (i := 88) rfl)) hwsS rfl hS hk1 (g := (mkF m 167 #[iv p0, iv p1, iv p2, iv p3, iv y0, iv y1, iv y2, iv y3, iv 2, rv b314, .unset, .unset] [])) rfl (hb hby at_167) (n := 0) (by decide) (by decide) (by decide) (by decide)
      have OL := OL.ext E320
      have KP := KP.ext E320
      have V_b315 := V_b315.ext E320
      have SL := SL.ext E320
      have hk1 := hk2
      refine own_to (mkF m 169 #[iv p0, iv p1, iv p2, iv p3, iv y0, iv y1, iv y2, iv y3, iv 2, rv b314, .unset, .unset] [(.ref nm)]) st320 ?_
      refine own_to (T' := T320) (mkF m 171 #[iv p0, iv p1, iv p2, iv p3, iv y0, iv y1, iv y2, iv y3, iv 2, rv b314, rv nm, .unset] []) (fun _ k => XS.astore X320.here hx rfl (hb hby at_169) rfl rfl (l' := #[iv p0, iv p1, iv p2, iv p3, iv y0, iv y1, iv y2, iv y3, iv 2, rv b314, rv nm, .unset]) rfl k) ?_
      refine own_to (T' := T320) (mkF m 184 #[iv p0, iv p1, iv p2, iv p3, iv y0, iv y1, iv y2, iv y3, iv 2, rv b314, rv nm, .unset] []) (fun _ k => XS.goto X320.here hx rfl (pc0 := 171) (pc' := 184) rfl (hb hby at_171) (by decide) (by decide) k) ?_
      refine own_to (T' := T320) (mkF m 186 #[iv p0, iv p1, iv p2, iv p3, iv y0, iv y1, iv y2, iv y3, iv 2, rv b314, rv nm, .unset] [(.ref nm)]) (fun _ k => XS.aload X320.here hx rfl (hb hby at_184) rfl rfl k) ?_
      refine own_to (T' := T320) (mkF m 188 #[iv p0, iv p1, iv p2, iv p3, iv y0, iv y1, iv y2, iv y3, iv 2, rv b314, rv nm, .unset] [(.ref b314), (.ref nm)]) (fun _ k => XS.aload X320.here hx rfl (hb hby at_186) rfl rfl k) ?_
      obtain ⟨_, _, ⟨T323, L323, k323, n323⟩, -, X323, ⟨Lc323, hQ323, l323, y323, z323⟩, st323⟩ := Jvm.LawKit.callS X320 hx (y := (⟨"com/example/nuthatch/nuthatch/Arguments", "requireNonEmpty", "(Ljava/lang/String;Ljava/lang/String;)Ljava/lang/String;"⟩ : MethodName)) hown (mvT hZ (hw _ (List.mem_of_getElem? (i := 46) rfl))) (mvT hZ (hw _ (List.mem_of_getElem? (i := 47) rfl))) (mvT hZ (hw _ (List.mem_of_getElem? (i := 48) rfl))) (mvT hZ (hw _ (List.mem_of_getElem? (i := 49) rfl))) (by decide) (backOf (W := 0) (own_rmRE_2 l Z a0 hw [] G1 nm b314 tx h320 n0 (Nat.le_trans Z0 KP.1) OL SL O2 P5) hZ (hw _ (List.mem_of_getElem? (i := 49) rfl)) (hw _ (List.mem_of_getElem? (i := 48) rfl)) (by decide) (by decide)) (g := (mkF m 188 #[iv p0, iv p1, iv p2, iv p3, iv y0, iv y1, iv y2, iv y3, iv 2, rv b314, rv nm, .unset] [(.ref b314), (.ref nm)])) rfl (by rw [hml]; rfl) (argsL := [(.ref nm), (.ref b314)]) (rest := []) (lenOf own_pd16 rfl) rfl (by show 2 * 0 + _ ≤ _; exact Nat.le_of_eq rfl) (hb hby at_188) (fun _ _ => ⟨rfl, e320, (by decide : 6 + 0 ≤ _), (by decide : 16 + 0 ≤ _)⟩)
      dsimp only [Pt.U, Pt.locs, Pt.cells, Pt.slots] at X323 l323 y323 z323 st323 hQ323
      subst l323 y323 z323
      obtain ⟨rfl, N323q, e323⟩ := hQ323
      have N323 := Fr.app N318 N323q
      refine own_to (mkF m 191 #[iv p0, iv p1, iv p2, iv p3, iv y0, iv y1, iv y2, iv y3, iv 2, rv b314, rv nm, .unset] [(.ref b314)]) st323 ?_
      refine own_to (T' := T323) (mkF m 193 #[iv p0, iv p1, iv p2, iv p3, iv y0, iv y1, iv y2, iv y3, iv 2, rv b314, rv nm, rv b314] []) (fun _ k => XS.astore X323.here hx rfl (hb hby at_191) rfl rfl (l' := #[iv p0, iv p1, iv p2, iv p3, iv y0, iv y1, iv y2, iv y3, iv 2, rv b314, rv nm, rv b314]) rfl k) ?_
      refine own_to (T' := T323) (mkF m 195 #[iv p0, iv p1, iv p2, iv p3, iv y0, iv y1, iv y2, iv y3, iv 2, rv b314, rv nm, rv b314] [(.ref b314)]) (fun _ k => XS.aload X323.here hx rfl (hb hby at_193) rfl rfl k) ?_
      refine own_to (T' := T323) (mkF m 197 #[iv p0, iv p1, iv p2, iv p3, iv y0, iv y1, iv y2, iv y3, iv 2, rv b314, rv nm, rv b314] [(.ref b314), (.ref b314)]) (fun _ k => XS.aload X323.here hx rfl (hb hby at_195) rfl rfl k) ?_
      refine own_to (T' := T323) (mkF m 200 #[iv p0, iv p1, iv p2, iv p3, iv y0, iv y1, iv y2, iv y3, iv 2, rv b314, rv nm, rv b314] []) (fun _ k => Jvm.RoadKit.acmp (g := (mkF m 197 #[iv p0, iv p1, iv p2, iv p3, iv y0, iv y1, iv y2, iv y3, iv 2, rv b314, rv nm, rv b314] [(.ref b314), (.ref b314)])) X323 hx rfl rfl rfl (pc0 := 197) (pc' := 200) (same := true) rfl (hb hby at_197) rfl (decide_eq_true rfl) (by decide) (by decide) k) ?_
      refine own_to (T' := T323) (mkF m 202 #[iv p0, iv p1, iv p2, iv p3, iv y0, iv y1, iv y2, iv y3, iv 2, rv b314, rv nm, rv b314] [(.ref b314)]) (fun _ k => XS.aload X323.here hx rfl (hb hby at_200) rfl rfl k) ?_
      obtain ⟨cq324, kq324, q324a, q324b, q324c⟩ := isOf hZ e323 SL.exa
      obtain ⟨_, _, ⟨T324, L324, k324, n324⟩, -, X324, ⟨Lc324, hQ324, l324, y324, z324⟩, st324⟩ := X323.virtualBack hx (y := (⟨"java/lang/String", "length", "()I"⟩ : MethodName)) (z := (⟨"java/lang/String", "length", "()I"⟩ : MethodName)) hown (mvT hZ (hw _ (List.mem_of_getElem? (i := 59) rfl))) (mvT hZ (hw _ (List.mem_of_getElem? (i := 60) rfl))) (notFace_of_selects (args := #[]) (mvT hZ (hw _ (List.mem_of_getElem? (i := 62) rfl)))) (mvT hZ (hw _ (List.mem_of_getElem? (i := 62) rfl))) (mvT hZ (hw _ (List.mem_of_getElem? (i := 61) rfl))) (by decide) (backOf (W := 0) (own_rmLN_2 l Z a0 hw [] G1 b314 tx h320 n0 (Nat.le_trans Z0 KP.1) OL SL O2 P5) hZ (hw _ (List.mem_of_getElem? (i := 63) rfl)) (hw _ (List.mem_of_getElem? (i := 3) rfl)) (by decide) (by decide)) q324a q324c (g := (mkF m 202 #[iv p0, iv p1, iv p2, iv p3, iv y0, iv y1, iv y2, iv y3, iv 2, rv b314, rv nm, rv b314] [(.ref b314)])) rfl (by rw [hml]; rfl) (Steps.refl _) (argsL := []) (rest := []) (lenOf own_pd17 rfl) rfl (by show 2 * 0 + _ ≤ _; exact Nat.le_of_eq rfl) (hb hby at_202) (fun _ _ => ⟨rfl, e323, (by decide : 6 + 0 ≤ _), (by decide : 16 + 0 ≤ _)⟩)
      dsimp only [Pt.U, Pt.locs, Pt.cells, Pt.slots] at X324 l324 y324 z324 st324 hQ324
      subst l324 y324 z324
      obtain ⟨rfl, N324q, e324⟩ := hQ324
      have N324 := Fr.app N323 N324q
      refine own_via (mkF m 205 #[iv p0, iv p1, iv p2, iv p3, iv y0, iv y1, iv y2, iv y3, iv 2, rv b314, rv nm, rv b314] [(.int (2 : Int32))]) st324 ?_
      refine own_to (T' := T324) (mkF m 207 #[iv p0, iv p1, iv p2, iv p3, iv y0, iv y1, iv y2, iv y3, iv 2, rv b314, rv nm, rv b314] [(.int (2 : Int32)), (.int (2 : Int32))]) (fun _ k => XS.iload X324.here hx rfl (hb hby at_205) rfl k) ?_
      refine own_to (T' := T324) (mkF m 210 #[iv p0, iv p1, iv p2, iv p3, iv y0, iv y1, iv y2, iv y3, iv 2, rv b314, rv nm, rv b314] []) (fun _ k => XS.icmpNo X324.here hx rfl (hb hby at_207) rfl (teq (by decide : (2 : Int32) = (2 : Int32))).2 k) ?_
      refine own_to (T' := T324) (mkF m 211 #[iv p0, iv p1, iv p2, iv p3, iv y0, iv y1, iv y2, iv y3, iv 2, rv b314, rv nm, rv b314] [(.int (1 : Int32))]) (fun _ k => XS.iconst X324.here hx rfl (hb hby at_210) k) ?_
      refine own_to (T' := T324) (mkF m 215 #[iv p0, iv p1, iv p2, iv p3, iv y0, iv y1, iv y2, iv y3, iv 2, rv b314, rv nm, rv b314] [(.int (1 : Int32))]) (fun _ k => XS.goto X324.here hx rfl (pc0 := 211) (pc' := 215) rfl (hb hby at_211) (by decide) (by decide) k) ?_
      exact own_retNW (s := s) (vm₁ := T320.vm) X324 hS (by rw [e324]; exact hk1) hx (t := .boolean) Bd.returns (by simp) hlk (hb hby at_215) (by decide) (by decide) (by rw [e324]; exact ⟨rfl, N324⟩)
  · subst q
    refine own_to (T' := s₁) (mkF m 35 #[iv p0, iv p1, iv p2, iv p3, iv y0, iv y1, iv y2, iv y3, iv 3, .unset, .unset, .unset] []) (fun _ k => XS.istore X0.here hx rfl (hb hby at_33) rfl (l' := #[iv p0, iv p1, iv p2, iv p3, iv y0, iv y1, iv y2, iv y3, iv 3, .unset, .unset, .unset]) rfl k) ?_
    refine own_to (T' := s₁) (mkF m 37 #[iv p0, iv p1, iv p2, iv p3, iv y0, iv y1, iv y2, iv y3, iv 3, .unset, .unset, .unset] [(.int (3 : Int32))]) (fun _ k => XS.iload X0.here hx rfl (hb hby at_35) rfl k) ?_
    refine own_to (T' := s₁) (mkF m 38 #[iv p0, iv p1, iv p2, iv p3, iv y0, iv y1, iv y2, iv y3, iv 3, .unset, .unset, .unset] [(.int (1 : Int32)), (.int (3 : Int32))]) (fun _ k => XS.iconst X0.here hx rfl (hb hby at_37) k) ?_
    refine own_to (T' := s₁) (mkF m 61 #[iv p0, iv p1, iv p2, iv p3, iv y0, iv y1, iv y2, iv y3, iv 3, .unset, .unset, .unset] []) (fun _ k => XS.icmpYes X0.here hx rfl (pc0 := 38) (pc' := 61) rfl (hb hby at_38) rfl (feq (by decide : ¬ ((3 : Int32) = (1 : Int32)))).2 (by decide) (by decide) k) ?_
    refine own_to (T' := s₁) (mkF m 63 #[iv p0, iv p1, iv p2, iv p3, iv y0, iv y1, iv y2, iv y3, iv 3, .unset, .unset, .unset] [(.int (3 : Int32))]) (fun _ k => XS.iload X0.here hx rfl (hb hby at_61) rfl k) ?_
    refine own_to (T' := s₁) (mkF m 64 #[iv p0, iv p1, iv p2, iv p3, iv y0, iv y1, iv y2, iv y3, iv 3, .unset, .unset, .unset] [(.int (2 : Int32)), (.int (3 : Int32))]) (fun _ k => XS.iconst X0.here hx rfl (hb hby at_63) k) ?_
    refine own_to (T' := s₁) (mkF m 92 #[iv p0, iv p1, iv p2, iv p3, iv y0, iv y1, iv y2, iv y3, iv 3, .unset, .unset, .unset] []) (fun _ k => XS.icmpYes X0.here hx rfl (pc0 := 64) (pc' := 92) rfl (hb hby at_64) rfl (feq (by decide : ¬ ((3 : Int32) = (2 : Int32)))).2 (by decide) (by decide) k) ?_
    refine own_to (T' := s₁) (mkF m 94 #[iv p0, iv p1, iv p2, iv p3, iv y0, iv y1, iv y2, iv y3, iv 3, .unset, .unset, .unset] [(.int (3 : Int32))]) (fun _ k => XS.iload X0.here hx rfl (hb hby at_92) rfl k) ?_
    refine own_to (T' := s₁) (mkF m 95 #[iv p0, iv p1, iv p2, iv p3, iv y0, iv y1, iv y2, iv y3, iv 3, .unset, .unset, .unset] [(.int (3 : Int32)), (.int (3 : Int32))]) (fun _ k => XS.iconst X0.here hx rfl (hb hby at_94) k) ?_
    refine own_to (T' := s₁) (mkF m 98 #[iv p0, iv p1, iv p2, iv p3, iv y0, iv y1, iv y2, iv y3, iv 3, .unset, .unset, .unset] []) (fun _ k => XS.icmpNo X0.here hx rfl (hb hby at_95) rfl (teq (by decide : (3 : Int32) = (3 : Int32))).2 k) ?_
    obtain ⟨T325, h325, X325, e325, E325, A325, D325, -, st325⟩ := newO X0 hx hZ hown (hw _ (List.mem_of_getElem? (i := 1) rfl)) (hw _ (List.mem_of_getElem? (i := 2) rfl)) (hw _ (List.mem_of_getElem? (i := 3) rfl)) e0 (g := (mkF m 98 #[iv p0, iv p1, iv p2, iv p3, iv y0, iv y1, iv y2, iv y3, iv 3, .unset, .unset, .unset] [])) rfl (hb hby at_98) (by decide) (by decide)
    obtain ⟨b325, g325⟩ : ∃ z, z = h0.size := ⟨_, rfl⟩
    rw [← g325] at A325 D325 st325
    have sz_b325 : h0.size ≤ b325 := Nat.le_trans KP.1 (Nat.le_of_eq g325.symm)
    have ge_b325 : n0 ≤ b325 := Nat.le_trans Z0 sz_b325
    have OL := OL.ext E325
    have KP := KP.ext E325
    have hk1 := Nat.le_trans hk1 E325.1
    have E_b325 : Exa Z h325 b325 "java/lang/String" := A325
    have F_coder_b325 : Fld Z h325 b325 "java/lang/String" "coder" "B" (.int (0 : Int32)) := D325 (Or.inr (hw _ (List.mem_of_getElem? (i := 28) rfl))) (ty := .byte) (by decide)
    have F_value_b325 : Fld Z h325 b325 "java/lang/String" "value" "[B" .null := D325 (Or.inr (hw _ (List.mem_of_getElem? (i := 30) rfl))) (ty := (.array .byte)) (by decide)
    refine own_to (mkF m 101 #[iv p0, iv p1, iv p2, iv p3, iv y0, iv y1, iv y2, iv y3, iv 3, .unset, .unset, .unset] [(.ref b325)]) st325 ?_
    refine own_to (T' := T325) (mkF m 102 #[iv p0, iv p1, iv p2, iv p3, iv y0, iv y1, iv y2, iv y3, iv 3, .unset, .unset, .unset] [(.ref b325), (.ref b325)]) (fun _ k => XS.dup X325.here hx rfl (hb hby at_101) rfl rfl k) ?_
    refine own_to (T' := T325) (mkF m 103 #[iv p0, iv p1, iv p2, iv p3, iv y0, iv y1, iv y2, iv y3, iv 3, .unset, .unset, .unset] [(.int (3 : Int32)), (.ref b325), (.ref b325)]) (fun _ k => XS.iconst X325.here hx rfl (hb hby at_102) k) ?_
    obtain ⟨T326, h326, k326, X326, e326, E326, A326, B326, st326⟩ := newPE X325 hx hZ (hw _ (List.mem_of_getElem? (i := 4) rfl)) e325 (g := (mkF m 103 #[iv p0, iv p1, iv p2, iv p3, iv y0, iv y1, iv y2, iv y3, iv 3, .unset, .unset, .unset] [(.int (3 : Int32)), (.ref b325), (.ref b325)])) rfl (hb hby at_103) rfl (by decide) (cap := 3) (by decide) (by decide) (by decide) (by decide) (ad := "[C") (by decide)
    obtain ⟨b326, g326⟩ : ∃ z, z = h325.size := ⟨_, rfl⟩
    rw [← g326] at A326 B326 st326
    have sz_b326 : h0.size ≤ b326 := Nat.le_trans KP.1 (Nat.le_of_eq g326.symm)
    have ge_b326 : n0 ≤ b326 := Nat.le_trans Z0 sz_b326
    have ne_b325_b326 : b325 ≠ b326 := Nat.ne_of_lt (Nat.lt_of_lt_of_le E_b325.lt (Nat.le_of_eq g326.symm))
    have OL := OL.ext E326
    have KP := KP.ext E326
    have hk1 := Nat.le_trans hk1 E326.1
    have E_b325 := E_b325.ext E326
    have F_coder_b325 := F_coder_b325.ext E326
    have F_value_b325 := F_value_b325.ext E326
    have V_b326 : Arv Z h326 b326 k326 .char (3 : Int32) [(.int (0 : Int32)), (.int (0 : Int32)), (.int (0 : Int32))] (.int (0 : Int32)) := (Arv.new A326 (by decide)).pad (pad_rep [] (.int (0 : Int32)) 3)
    refine own_to (mkF m 105 #[iv p0, iv p1, iv p2, iv p3, iv y0, iv y1, iv y2, iv y3, iv 3, .unset, .unset, .unset] [(.ref b326), (.ref b325), (.ref b325)]) st326 ?_
    refine own_to (T' := T326) (mkF m 106 #[iv p0, iv p1, iv p2, iv p3, iv y0, iv y1, iv y2, iv y3, iv 3, .unset, .unset, .unset] [(.ref b326), (.ref b326), (.ref b325), (.ref b325)]) (fun _ k => XS.dup X326.here hx rfl (hb hby at_105) rfl rfl k) ?_
    refine own_to (T' := T326) (mkF m 107 #[iv p0, iv p1, iv p2, iv p3, iv y0, iv y1, iv y2, iv y3, iv 3, .unset, .unset, .unset] [(.int (0 : Int32)), (.ref b326), (.ref b326), (.ref b325), (.ref b325)]) (fun _ k => XS.iconst X326.here hx rfl (hb hby at_106) k) ?_
    refine own_to (T' := T326) (mkF m 109 #[iv p0, iv p1, iv p2, iv p3, iv y0, iv y1, iv y2, iv y3, iv 3, .unset, .unset, .unset] [(.int y0), (.int (0 : Int32)), (.ref b326), (.ref b326), (.ref b325), (.ref b325)]) (fun _ k => XS.iload X326.here hx rfl (hb hby at_107) rfl k) ?_
    obtain ⟨cl327, Ar327, q327, S327, M327, H327, G327⟩ := id V_b326
    obtain ⟨T327, h327, X327, e327, W327, st327⟩ := stC X326 hx hZ e326 Ar327 (j := (0 : Int32)) (inb_of S327 ⟨by decide, by decide⟩) (g := (mkF m 109 #[iv p0, iv p1, iv p2, iv p3, iv y0, iv y1, iv y2, iv y3, iv 3, .unset, .unset, .unset] [(.int y0), (.int (0 : Int32)), (.ref b326), (.ref b326), (.ref b325), (.ref b325)])) rfl rfl (hb hby at_109)
    refine own_to (mkF m 110 #[iv p0, iv p1, iv p2, iv p3, iv y0, iv y1, iv y2, iv y3, iv 3, .unset, .unset, .unset] [(.ref b326), (.ref b325), (.ref b325)]) st327 ?_
    have N327 := Fr.snoc X327 N0 ge_b326
    have tmp327 : Arv Z h327 b326 k326 .char (3 : Int32) [(.int (nar .char y0)), (.int (0 : Int32)), (.int (0 : Int32))] (.int (0 : Int32)) := Arv.set Ar327 q327 S327 M327 H327 G327 (fits_nar_char _) W327 0 rfl (Nat.le_of_ble_eq_true rfl)
    rw [own_nar16 c16_y0] at tmp327
    have OL := OL.wr W327 ge_b326
    have KP := KP.wr W327 (Or.inr sz_b326)
    have hk1 := Nat.le_trans hk1 (Keep.of_wr W327).1
    have E_b325 := E_b325.wr W327
    have F_coder_b325 := F_coder_b325.other W327 (Or.inl ne_b325_b326)
    have F_value_b325 := F_value_b325.other W327 (Or.inl ne_b325_b326)
    have V_b326 := tmp327
    refine own_to (T' := T327) (mkF m 111 #[iv p0, iv p1, iv p2, iv p3, iv y0, iv y1, iv y2, iv y3, iv 3, .unset, .unset, .unset] [(.ref b326), (.ref b326), (.ref b325), (.ref b325)]) (fun _ k => XS.dup X327.here hx rfl (hb hby at_110) rfl rfl k) ?_
    refine own_to (T' := T327) (mkF m 112 #[iv p0, iv p1, iv p2, iv p3, iv y0, iv y1, iv y2, iv y3, iv 3, .unset, .unset, .unset] [(.int (1 : Int32)), (.ref b326), (.ref b326), (.ref b325), (.ref b325)]) (fun _ k => XS.iconst X327.here hx rfl (hb hby at_111) k) ?_
    refine own_to (T' := T327) (mkF m 114 #[iv p0, iv p1, iv p2, iv p3, iv y0, iv y1, iv y2, iv y3, iv 3, .unset, .unset, .unset] [(.int y1), (.int (1 : Int32)), (.ref b326), (.ref b326), (.ref b325), (.ref b325)]) (fun _ k => XS.iload X327.here hx rfl (hb hby at_112) rfl k) ?_
    obtain ⟨cl328, Ar328, q328, S328, M328, H328, G328⟩ := id V_b326
    obtain ⟨T328, h328, X328, e328, W328, st328⟩ := stC X327 hx hZ e327 Ar328 (j := (1 : Int32)) (inb_of S328 ⟨by decide, by decide⟩) (g := (mkF m 114 #[iv p0, iv p1, iv p2, iv p3, iv y0, iv y1, iv y2, iv y3, iv 3, .unset, .unset, .unset] [(.int y1), (.int (1 : Int32)), (.ref b326), (.ref b326), (.ref b325), (.ref b325)])) rfl rfl (hb hby at_114)
    refine own_to (mkF m 115 #[iv p0, iv p1, iv p2, iv p3, iv y0, iv y1, iv y2, iv y3, iv 3, .unset, .unset, .unset] [(.ref b326), (.ref b325), (.ref b325)]) st328 ?_
    have N328 := Fr.snoc X328 N327 ge_b326
    have tmp328 : Arv Z h328 b326 k326 .char (3 : Int32) [(.int y0), (.int (nar .char y1)), (.int (0 : Int32))] (.int (0 : Int32)) := Arv.set Ar328 q328 S328 M328 H328 G328 (fits_nar_char _) W328 1 rfl (Nat.le_of_ble_eq_true rfl)
    rw [own_nar16 c16_y1] at tmp328
    have OL := OL.wr W328 ge_b326
    have KP := KP.wr W328 (Or.inr sz_b326)
    have hk1 := Nat.le_trans hk1 (Keep.of_wr W328).1
    have E_b325 := E_b325.wr W328
    have F_coder_b325 := F_coder_b325.other W328 (Or.inl ne_b325_b326)
    have F_value_b325 := F_value_b325.other W328 (Or.inl ne_b325_b326)
    have V_b326 := tmp328
    refine own_to (T' := T328) (mkF m 116 #[iv p0, iv p1, iv p2, iv p3, iv y0, iv y1, iv y2, iv y3, iv 3, .unset, .unset, .unset] [(.ref b326), (.ref b326), (.ref b325), (.ref b325)]) (fun _ k => XS.dup X328.here hx rfl (hb hby at_115) rfl rfl k) ?_
    refine own_to (T' := T328) (mkF m 117 #[iv p0, iv p1, iv p2, iv p3, iv y0, iv y1, iv y2, iv y3, iv 3, .unset, .unset, .unset] [(.int (2 : Int32)), (.ref b326), (.ref b326), (.ref b325), (.ref b325)]) (fun _ k => XS.iconst X328.here hx rfl (hb hby at_116) k) ?_
    refine own_to (T' := T328) (mkF m 119 #[iv p0, iv p1, iv p2, iv p3, iv y0, iv y1, iv y2, iv y3, iv 3, .unset, .unset, .unset] [(.int y2), (.int (2 : Int32)), (.ref b326), (.ref b326), (.ref b325), (.ref b325)]) (fun _ k => XS.iload X328.here hx rfl (hb hby at_117) rfl k) ?_
    obtain ⟨cl329, Ar329, q329, S329, M329, H329, G329⟩ := id V_b326
    obtain ⟨T329, h329, X329, e329, W329, st329⟩ := stC X328 hx hZ e328 Ar329 (j := (2 : Int32)) (inb_of S329 ⟨by decide, by decide⟩) (g := (mkF m 119 #[iv p0, iv p1, iv p2, iv p3, iv y0, iv y1, iv y2, iv y3, iv 3, .unset, .unset, .unset] [(.int y2), (.int (2 : Int32)), (.ref b326), (.ref b326), (.ref b325), (.ref b325)])) rfl rfl (hb hby at_119)
    refine own_to (mkF m 120 #[iv p0, iv p1, iv p2, iv p3, iv y0, iv y1, iv y2, iv y3, iv 3, .unset, .unset, .unset] [(.ref b326), (.ref b325), (.ref b325)]) st329 ?_
    have N329 := Fr.snoc X329 N328 ge_b326
    have tmp329 : Arv Z h329 b326 k326 .char (3 : Int32) [(.int y0), (.int y1), (.int (nar .char y2))] (.int (0 : Int32)) := Arv.set Ar329 q329 S329 M329 H329 G329 (fits_nar_char _) W329 2 rfl (Nat.le_of_ble_eq_true rfl)
    rw [own_nar16 c16_y2] at tmp329
    have OL := OL.wr W329 ge_b326
    have KP := KP.wr W329 (Or.inr sz_b326)
    have hk1 := Nat.le_trans hk1 (Keep.of_wr W329).1
    have E_b325 := E_b325.wr W329
    have F_coder_b325 := F_coder_b325.other W329 (Or.inl ne_b325_b326)
    have F_value_b325 := F_value_b325.other W329 (Or.inl ne_b325_b326)
    have V_b326 := tmp329
    have KP0 := KP
    have lt0_b325 := E_b325.lt
    have lt0_b326 := V_b326.lt
    obtain ⟨_, _, ⟨T330, L330, k330, n330⟩, -, X330, ⟨Lc330, hQ330, l330, y330, z330⟩, st330⟩ := X329.specialBack hx (y := (⟨"java/lang/String", "<init>", "([C)V"⟩ : MethodName)) rfl hown (mvT hZ (hw _ (List.mem_of_getElem? (i := 5) rfl))) (mvT hZ (hw _ (List.mem_of_getElem? (i := 6) rfl))) (mvT hZ (hw _ (List.mem_of_getElem? (i := 7) rfl))) (by decide) (backOf (W := 1) (own_rmI1_3 l Z a0 hw [] y0 y1 y2 G1 b325 b326 k326 h329 n0 (Nat.le_trans Z0 KP.1) OL ge_b325 ne_b325_b326 E_b325 F_value_b325 F_coder_b325 c16_y0 c16_y1 c16_y2 V_b326 O2 P5 OAD OHI OLO) hZ (hw _ (List.mem_of_getElem? (i := 7) rfl)) (hw _ (List.mem_of_getElem? (i := 3) rfl)) (by decide) (by decide)) (g := (mkF m 120 #[iv p0, iv p1, iv p2, iv p3, iv y0, iv y1, iv y2, iv y3, iv 3, .unset, .unset, .unset] [(.ref b326), (.ref b325), (.ref b325)])) rfl (by rw [hml]; rfl) (Steps.refl _) (a := b325) (argsL := [(.ref b326)]) (rest := [(.ref b325)]) (lenOf own_pd14 rfl) rfl (by show 2 * 0 + _ ≤ _; exact Nat.le_of_eq rfl) (hb hby at_120) (fun _ _ => ⟨rfl, e329, (by decide : 2 + 2 ≤ _), (by decide : 7 + 9 ≤ _)⟩)
    dsimp only [Pt.U, Pt.locs, Pt.cells, Pt.slots] at X330 l330 y330 z330 st330 hQ330
    subst l330 y330 z330
    obtain ⟨rfl, N330q, K330, tx, kx, ge_tx, sz0_tx, hor330⟩ := hQ330
    have N330 := Fr.app N329 N330q
    have OL := OL.keep K330 (allS ge_b325 all0)
    have KP := KP.trans K330 (allS (Or.inr sz_b325) all0)
    have hk1 := Nat.le_trans hk1 K330.1
    have E_b325 := E_b325.keep K330
    have V_b326 := V_b326.keep K330 (ninS (Ne.symm ne_b325_b326) nin0)
    refine own_via (mkF m 123 #[iv p0, iv p1, iv p2, iv p3, iv y0, iv y1, iv y2, iv y3, iv 3, .unset, .unset, .unset] [(.ref b325)]) st330 ?_
    have sz_tx : h0.size ≤ tx := Nat.le_trans KP0.1 sz0_tx
    have ne_b326_tx : b326 ≠ tx := Nat.ne_of_lt (Nat.lt_of_lt_of_le lt0_b326 sz0_tx)
    have SL : own_StrL Z T330.heap b325 tx (3 : Int32) (6 : Int32) := (by rcases hor330 with ⟨-, -, -, g⟩ | g <;> first | exact ⟨_, _, _, _, g, Or.inl ⟨rfl, rfl⟩⟩ | exact ⟨_, _, _, _, g, Or.inr ⟨rfl, rfl⟩⟩)
    refine own_to (T' := T330) (mkF m 125 #[iv p0, iv p1, iv p2, iv p3, iv y0, iv y1, iv y2, iv y3, iv 3, rv b325, .unset, .unset] []) (fun _ k => XS.astore X330.here hx rfl (hb hby at_123) rfl rfl (l' := #[iv p0, iv p1, iv p2, iv p3, iv y0, iv y1, iv y2, iv y3, iv 3, rv b325, .unset, .unset]) rfl k) ?_
    refine own_to (T' := T330) (mkF m 160 #[iv p0, iv p1, iv p2, iv p3, iv y0, iv y1, iv y2, iv y3, iv 3, rv b325, .unset, .unset] []) (fun _ k => XS.goto X330.here hx rfl (pc0 := 125) (pc' := 160) rfl (hb hby at_125) (by decide) (by decide) k) ?_
    refine own_to (T' := T330) (mkF m 161 #[iv p0, iv p1, iv p2, iv p3, iv y0, iv y1, iv y2, iv y3, iv 3, rv b325, .unset, .unset] [(.int p3)]) (fun _ k => XS.iloadN X330.here hx rfl (hb hby at_160) rfl k) ?_
    refine own_to (mkF m 163 #[iv p0, iv p1, iv p2, iv p3, iv y0, iv y1, iv y2, iv y3, iv 3, rv b325, .unset, .unset] [(.int (65536 : Int32)), (.int p3)]) (X330.ldcInt hx hown (mvT hZ (hw _ (List.mem_of_getElem? (i := 31) rfl))) (g := (mkF m 161 #[iv p0, iv p1, iv p2, iv p3, iv y0, iv y1, iv y2, iv y3, iv 3, rv b325, .unset, .unset] [(.int p3)])) rfl (hb hby at_161)) ?_
    refine own_to (T' := T330) (mkF m 164 #[iv p0, iv p1, iv p2, iv p3, iv y0, iv y1, iv y2, iv y3, iv 3, rv b325, .unset, .unset] [(.int (p3 &&& (65536 : Int32)))]) (fun _ k => XS.iand X330.here hx rfl (hb hby at_163) rfl k) ?_
    by_cases hnb : (p3 &&& (65536 : Int32)) = (0 : Int32)
    · refine own_to (T' := T330) (mkF m 174 #[iv p0, iv p1, iv p2, iv p3, iv y0, iv y1, iv y2, iv y3, iv 3, rv b325, .unset, .unset] []) (fun _ k => XS.ifYes X330.here hx rfl (pc0 := 164) (pc' := 174) rfl (hb hby at_164) rfl ((if0 _ _).trans (teq hnb).1) (by decide) (by decide) k) ?_
      refine own_to (T' := T330) (mkF m 175 #[iv p0, iv p1, iv p2, iv p3, iv y0, iv y1, iv y2, iv y3, iv 3, rv b325, .unset, .unset] [(.int p3)]) (fun _ k => XS.iloadN X330.here hx rfl (hb hby at_174) rfl k) ?_
      refine own_to (mkF m 177 #[iv p0, iv p1, iv p2, iv p3, iv y0, iv y1, iv y2, iv y3, iv 3, rv b325, .unset, .unset] [(.int (65535 : Int32)), (.int p3)]) (X330.ldcInt hx hown (mvT hZ (hw _ (List.mem_of_getElem? (i := 0) rfl))) (g := (mkF m 175 #[iv p0, iv p1, iv p2, iv p3, iv y0, iv y1, iv y2, iv y3, iv 3, rv b325, .unset, .unset] [(.int p3)])) rfl (hb hby at_175)) ?_
      refine own_to (T' := T330) (mkF m 178 #[iv p0, iv p1, iv p2, iv p3, iv y0, iv y1, iv y2, iv y3, iv 3, rv b325, .unset, .unset] [(.int (p3 &&& (65535 : Int32)))]) (fun _ k => XS.iand X330.here hx rfl (hb hby at_177) rfl k) ?_
      refine own_to (T' := T330) (mkF m 179 #[iv p0, iv p1, iv p2, iv p3, iv y0, iv y1, iv y2, iv y3, iv 3, rv b325, .unset, .unset] [(.int ((p3 &&& (65535 : Int32)).toUInt32.toUInt16.toUInt32.toInt32))]) (fun _ k => XS.i2c X330.here hx rfl (hb hby at_178) rfl k) ?_
      generalize hyn : ((p3 &&& (65535 : Int32)).toUInt32.toUInt16.toUInt32.toInt32) = yn
      obtain ⟨_, _, ⟨T331, L331, k331, n331⟩, -, X331, ⟨Lc331, hQ331, l331, y331, z331⟩, st331⟩ := Jvm.LawKit.callS X330 hx (y := (⟨"java/lang/String", "valueOf", "(C)Ljava/lang/String;"⟩ : MethodName)) hown (mvT hZ (hw _ (List.mem_of_getElem? (i := 32) rfl))) (mvT hZ (hw _ (List.mem_of_getElem? (i := 33) rfl))) (mvT hZ (hw _ (List.mem_of_getElem? (i := 3) rfl))) (mvT hZ (hw _ (List.mem_of_getElem? (i := 34) rfl))) (by decide) (backOf (W := 0) (own_rmVO l Z a0 hw [] yn G1 T330.heap n0 (Nat.le_trans Z0 KP.1) OL O2 P5 OAD OHI OLO) hZ (hw _ (List.mem_of_getElem? (i := 34) rfl)) (hw _ (List.mem_of_getElem? (i := 3) rfl)) (by decide) (by decide)) (g := (mkF m 179 #[iv p0, iv p1, iv p2, iv p3, iv y0, iv y1, iv y2, iv y3, iv 3, rv b325, .unset, .unset] [(.int yn)])) rfl (by rw [hml]; rfl) (argsL := [(.int yn)]) (rest := []) (lenOf own_pd15 rfl) rfl (by show 2 * 0 + _ ≤ _; exact Nat.le_of_eq rfl) (hb hby at_179) (fun _ _ => ⟨rfl, rfl, (by decide : 4 + 2 ≤ _), (by decide : 16 + 6 ≤ _)⟩)
      dsimp only [Pt.U, Pt.locs, Pt.cells, Pt.slots] at X331 l331 y331 z331 st331 hQ331
      subst l331 y331 z331
      obtain ⟨nm, rfl, N331q, K331⟩ := hQ331
      have N331 := Fr.app N330 N331q
      have OL := OL.keep K331 all0
      have KP := KP.trans K331 all0
      have hk1 := Nat.le_trans hk1 K331.1
      have V_b326 := V_b326.keep K331 nin0
      have SL := SL.keep K331 nin0 nin0
      refine own_to (mkF m 182 #[iv p0, iv p1, iv p2, iv p3, iv y0, iv y1, iv y2, iv y3, iv 3, rv b325, .unset, .unset] [(.ref nm)]) st331 ?_
      refine own_to (T' := T331) (mkF m 184 #[iv p0, iv p1, iv p2, iv p3, iv y0, iv y1, iv y2, iv y3, iv 3, rv b325, rv nm, .unset] []) (fun _ k => XS.astore X331.here hx rfl (hb hby at_182) rfl rfl (l' := #[iv p0, iv p1, iv p2, iv p3, iv y0, iv y1, iv y2, iv y3, iv 3, rv b325, rv nm, .unset]) rfl k) ?_
      refine own_to (T' := T331) (mkF m 186 #[iv p0, iv p1, iv p2, iv p3, iv y0, iv y1, iv y2, iv y3, iv 3, rv b325, rv nm, .unset] [(.ref nm)]) (fun _ k => XS.aload X331.here hx rfl (hb hby at_184) rfl rfl k) ?_
      refine own_to (T' := T331) (mkF m 188 #[iv p0, iv p1, iv p2, iv p3, iv y0, iv y1, iv y2, iv y3, iv 3, rv b325, rv nm, .unset] [(.ref b325), (.ref nm)]) (fun _ k => XS.aload X331.here hx rfl (hb hby at_186) rfl rfl k) ?_
      obtain ⟨_, _, ⟨T333, L333, k333, n333⟩, -, X333, ⟨Lc333, hQ333, l333, y333, z333⟩, st333⟩ := Jvm.LawKit.callS X331 hx (y := (⟨"com/example/nuthatch/nuthatch/Arguments", "requireNonEmpty", "(Ljava/lang/String;Ljava/lang/String;)Ljava/lang/String;"⟩ : MethodName)) hown (mvT hZ (hw _ (List.mem_of_getElem? (i := 46) rfl))) (mvT hZ (hw _ (List.mem_of_getElem? (i := 47) rfl))) (mvT hZ (hw _ (List.mem_of_getElem? (i := 48) rfl))) (mvT hZ (hw _ (List.mem_of_getElem? (i := 49) rfl))) (by decide) (backOf (W := 0) (own_rmRE_3 l Z a0 hw [] G1 nm b325 tx T331.heap n0 (Nat.le_trans Z0 KP.1) OL SL O2 P5) hZ (hw _ (List.mem_of_getElem? (i := 49) rfl)) (hw _ (List.mem_of_getElem? (i := 48) rfl)) (by decide) (by decide)) (g := (mkF m 188 #[iv p0, iv p1, iv p2, iv p3, iv y0, iv y1, iv y2, iv y3, iv 3, rv b325, rv nm, .unset] [(.ref b325), (.ref nm)])) rfl (by rw [hml]; rfl) (argsL := [(.ref nm), (.ref b325)]) (rest := []) (lenOf own_pd16 rfl) rfl (by show 2 * 0 + _ ≤ _; exact Nat.le_of_eq rfl) (hb hby at_188) (fun _ _ => ⟨rfl, rfl, (by decide : 6 + 0 ≤ _), (by decide : 22 + 0 ≤ _)⟩)
      dsimp only [Pt.U, Pt.locs, Pt.cells, Pt.slots] at X333 l333 y333 z333 st333 hQ333
      subst l333 y333 z333
      obtain ⟨rfl, N333q, e333⟩ := hQ333
      have N333 := Fr.app N331 N333q
      refine own_to (mkF m 191 #[iv p0, iv p1, iv p2, iv p3, iv y0, iv y1, iv y2, iv y3, iv 3, rv b325, rv nm, .unset] [(.ref b325)]) st333 ?_
      refine own_to (T' := T333) (mkF m 193 #[iv p0, iv p1, iv p2, iv p3, iv y0, iv y1, iv y2, iv y3, iv 3, rv b325, rv nm, rv b325] []) (fun _ k => XS.astore X333.here hx rfl (hb hby at_191) rfl rfl (l' := #[iv p0, iv p1, iv p2, iv p3, iv y0, iv y1, iv y2, iv y3, iv 3, rv b325, rv nm, rv b325]) rfl k) ?_
      refine own_to (T' := T333) (mkF m 195 #[iv p0, iv p1, iv p2, iv p3, iv y0, iv y1, iv y2, iv y3, iv 3, rv b325, rv nm, rv b325] [(.ref b325)]) (fun _ k => XS.aload X333.here hx rfl (hb hby at_193) rfl rfl k) ?_
      refine own_to (T' := T333) (mkF m 197 #[iv p0, iv p1, iv p2, iv p3, iv y0, iv y1, iv y2, iv y3, iv 3, rv b325, rv nm, rv b325] [(.ref b325), (.ref b325)]) (fun _ k => XS.aload X333.here hx rfl (hb hby at_195) rfl rfl k) ?_
      refine own_to (T' := T333) (mkF m 200 #[iv p0, iv p1, iv p2, iv p3, iv y0, iv y1, iv y2, iv y3, iv 3, rv b325, rv nm, rv b325] []) (fun _ k => Jvm.RoadKit.acmp (g := (mkF m 197 #[iv p0, iv p1, iv p2, iv p3, iv y0, iv y1, iv y2, iv y3, iv 3, rv b325, rv nm, rv b325] [(.ref b325), (.ref b325)])) X333 hx rfl rfl rfl (pc0 := 197) (pc' := 200) (same := true) rfl (hb hby at_197) rfl (decide_eq_true rfl) (by decide) (by decide) k) ?_
      refine own_to (T' := T333) (mkF m 202 #[iv p0, iv p1, iv p2, iv p3, iv y0, iv y1, iv y2, iv y3, iv 3, rv b325, rv nm, rv b325] [(.ref b325)]) (fun _ k => XS.aload X333.here hx rfl (hb hby at_200) rfl rfl k) ?_
      obtain ⟨cq334, kq334, q334a, q334b, q334c⟩ := isOf hZ e333 SL.exa
      obtain ⟨_, _, ⟨T334, L334, k334, n334⟩, -, X334, ⟨Lc334, hQ334, l334, y334, z334⟩, st334⟩ := X333.virtualBack hx (y := (⟨"java/lang/String", "length", "()I"⟩ : MethodName)) (z := (⟨"java/lang/String", "length", "()I"⟩ : MethodName)) hown (mvT hZ (hw _ (List.mem_of_getElem? (i := 59) rfl))) (mvT hZ (hw _ (List.mem_of_getElem? (i := 60) rfl))) (notFace_of_selects (args := #[]) (mvT hZ (hw _ (List.mem_of_getElem? (i := 62) rfl)))) (mvT hZ (hw _ (List.mem_of_getElem? (i := 62) rfl))) (mvT hZ (hw _ (List.mem_of_getElem? (i := 61) rfl))) (by decide) (backOf (W := 0) (own_rmLN_3 l Z a0 hw [] G1 b325 tx T331.heap n0 (Nat.le_trans Z0 KP.1) OL SL O2 P5) hZ (hw _ (List.mem_of_getElem? (i := 63) rfl)) (hw _ (List.mem_of_getElem? (i := 3) rfl)) (by decide) (by decide)) q334a q334c (g := (mkF m 202 #[iv p0, iv p1, iv p2, iv p3, iv y0, iv y1, iv y2, iv y3, iv 3, rv b325, rv nm, rv b325] [(.ref b325)])) rfl (by rw [hml]; rfl) (Steps.refl _) (argsL := []) (rest := []) (lenOf own_pd17 rfl) rfl (by show 2 * 0 + _ ≤ _; exact Nat.le_of_eq rfl) (hb hby at_202) (fun _ _ => ⟨rfl, e333, (by decide : 6 + 0 ≤ _), (by decide : 22 + 0 ≤ _)⟩)
      dsimp only [Pt.U, Pt.locs, Pt.cells, Pt.slots] at X334 l334 y334 z334 st334 hQ334
      subst l334 y334 z334
      obtain ⟨rfl, N334q, e334⟩ := hQ334
      have N334 := Fr.app N333 N334q
      refine own_via (mkF m 205 #[iv p0, iv p1, iv p2, iv p3, iv y0, iv y1, iv y2, iv y3, iv 3, rv b325, rv nm, rv b325] [(.int (3 : Int32))]) st334 ?_
      refine own_to (T' := T334) (mkF m 207 #[iv p0, iv p1, iv p2, iv p3, iv y0, iv y1, iv y2, iv y3, iv 3, rv b325, rv nm, rv b325] [(.int (3 : Int32)), (.int (3 : Int32))]) (fun _ k => XS.iload X334.here hx rfl (hb hby at_205) rfl k) ?_
      refine own_to (T' := T334) (mkF m 210 #[iv p0, iv p1, iv p2, iv p3, iv y0, iv y1, iv y2, iv y3, iv 3, rv b325, rv nm, rv b325] []) (fun _ k => XS.icmpNo X334.here hx rfl (hb hby at_207) rfl (teq (by decide : (3 : Int32) = (3 : Int32))).2 k) ?_
      refine own_to (T' := T334) (mkF m 211 #[iv p0, iv p1, iv p2, iv p3, iv y0, iv y1, iv y2, iv y3, iv 3, rv b325, rv nm, rv b325] [(.int (1 : Int32))]) (fun _ k => XS.iconst X334.here hx rfl (hb hby at_210) k) ?_
      refine own_to (T' := T334) (mkF m 215 #[iv p0, iv p1, iv p2, iv p3, iv y0, iv y1, iv y2, iv y3, iv 3, rv b325, rv nm, rv b325] [(.int (1 : Int32))]) (fun _ k => XS.goto X334.here hx rfl (pc0 := 211) (pc' := 215) rfl (hb hby at_211) (by decide) (by decide) k) ?_
      exact own_retNW (s := s) (vm₁ := s.vm) X334 hS (by rw [e334]; exact hk1) hx (t := .boolean) Bd.returns (by simp) hlk (hb hby at_215) (by decide) (by decide) (by rw [e334]; exact ⟨rfl, N334⟩)
    · refine own_to (T' := T330) (mkF m 167 #[iv p0, iv p1, iv p2, iv p3, iv y0, iv y1, iv y2, iv y3, iv 3, rv b325, .unset, .unset] []) (fun _ k => XS.ifNo X330.here hx rfl (hb hby at_164) rfl ((if0 _ _).trans (feq hnb).1) k) ?_
      obtain ⟨nm, T332, h332, k1, X332, e332, E332, hS, hk2, hZ, hown, st332⟩ := ldcS (s := s) (vm0 := s.vm) X330 hx hZ hown (hw _ (List.mem_of_getElem? (i := 88) rfl)) hwsS rfl hS hk1 (g := (mkF m 167 #[iv p0, iv p1, iv p2, iv p3, iv y0, iv y1, iv y2, iv y3, iv 3, rv b325, .unset, .unset] [])) rfl (hb hby at_167) (n := 0) (by decide) (by decide) (by decide) (by decide)
      have OL := OL.ext E332
      have KP := KP.ext E332
      have V_b326 := V_b326.ext E332
      have SL := SL.ext E332
      have hk1 := hk2
      refine own_to (mkF m 169 #[iv p0, iv p1, iv p2, iv p3, iv y0, iv y1, iv y2, iv y3, iv 3, rv b325, .unset, .unset] [(.ref nm)]) st332 ?_
      refine own_to (T' := T332) (mkF m 171 #[iv p0, iv p1, iv p2, iv p3, iv y0, iv y1, iv y2, iv y3, iv 3, rv b325, rv nm, .unset] []) (fun _ k => XS.astore X332.here hx rfl (hb hby at_169) rfl rfl (l' := #[iv p0, iv p1, iv p2, iv p3, iv y0, iv y1, iv y2, iv y3, iv 3, rv b325, rv nm, .unset]) rfl k) ?_
      refine own_to (T' := T332) (mkF m 184 #[iv p0, iv p1, iv p2, iv p3, iv y0, iv y1, iv y2, iv y3, iv 3, rv b325, rv nm, .unset] []) (fun _ k => XS.goto X332.here hx rfl (pc0 := 171) (pc' := 184) rfl (hb hby at_171) (by decide) (by decide) k) ?_
      refine own_to (T' := T332) (mkF m 186 #[iv p0, iv p1, iv p2, iv p3, iv y0, iv y1, iv y2, iv y3, iv 3, rv b325, rv nm, .unset] [(.ref nm)]) (fun _ k => XS.aload X332.here hx rfl (hb hby at_184) rfl rfl k) ?_
      refine own_to (T' := T332) (mkF m 188 #[iv p0, iv p1, iv p2, iv p3, iv y0, iv y1, iv y2, iv y3, iv 3, rv b325, rv nm, .unset] [(.ref b325), (.ref nm)]) (fun _ k => XS.aload X332.here hx rfl (hb hby at_186) rfl rfl k) ?_
      obtain ⟨_, _, ⟨T335, L335, k335, n335⟩, -, X335, ⟨Lc335, hQ335, l335, y335, z335⟩, st335⟩ := Jvm.LawKit.callS X332 hx (y := (⟨"com/example/nuthatch/nuthatch/Arguments", "requireNonEmpty", "(Ljava/lang/String;Ljava/lang/String;)Ljava/lang/String;"⟩ : MethodName)) hown (mvT hZ (hw _ (List.mem_of_getElem? (i := 46) rfl))) (mvT hZ (hw _ (List.mem_of_getElem? (i := 47) rfl))) (mvT hZ (hw _ (List.mem_of_getElem? (i := 48) rfl))) (mvT hZ (hw _ (List.mem_of_getElem? (i := 49) rfl))) (by decide) (backOf (W := 0) (own_rmRE_3 l Z a0 hw [] G1 nm b325 tx h332 n0 (Nat.le_trans Z0 KP.1) OL SL O2 P5) hZ (hw _ (List.mem_of_getElem? (i := 49) rfl)) (hw _ (List.mem_of_getElem? (i := 48) rfl)) (by decide) (by decide)) (g := (mkF m 188 #[iv p0, iv p1, iv p2, iv p3, iv y0, iv y1, iv y2, iv y3, iv 3, rv b325, rv nm, .unset] [(.ref b325), (.ref nm)])) rfl (by rw [hml]; rfl) (argsL := [(.ref nm), (.ref b325)]) (rest := []) (lenOf own_pd16 rfl) rfl (by show 2 * 0 + _ ≤ _; exact Nat.le_of_eq rfl) (hb hby at_188) (fun _ _ => ⟨rfl, e332, (by decide : 6 + 0 ≤ _), (by decide : 20 + 0 ≤ _)⟩)
      dsimp only [Pt.U, Pt.locs, Pt.cells, Pt.slots] at X335 l335 y335 z335 st335 hQ335
      subst l335 y335 z335
      obtain ⟨rfl, N335q, e335⟩ := hQ335
      have N335 := Fr.app N330 N335q
      refine own_to (mkF m 191 #[iv p0, iv p1, iv p2, iv p3, iv y0, iv y1, iv y2, iv y3, iv 3, rv b325, rv nm, .unset] [(.ref b325)]) st335 ?_
      refine own_to (T' := T335) (mkF m 193 #[iv p0, iv p1, iv p2, iv p3, iv y0, iv y1, iv y2, iv y3, iv 3, rv b325, rv nm, rv b325] []) (fun _ k => XS.astore X335.here hx rfl (hb hby at_191) rfl rfl (l' := #[iv p0, iv p1, iv p2, iv p3, iv y0, iv y1, iv y2, iv y3, iv 3, rv b325, rv nm, rv b325]) rfl k) ?_
      refine own_to (T' := T335) (mkF m 195 #[iv p0, iv p1, iv p2, iv p3, iv y0, iv y1, iv y2, iv y3, iv 3, rv b325, rv nm, rv b325] [(.ref b325)]) (fun _ k => XS.aload X335.here hx rfl (hb hby at_193) rfl rfl k) ?_
      refine own_to (T' := T335) (mkF m 197 #[iv p0, iv p1, iv p2, iv p3, iv y0, iv y1, iv y2, iv y3, iv 3, rv b325, rv nm, rv b325] [(.ref b325), (.ref b325)]) (fun _ k => XS.aload X335.here hx rfl (hb hby at_195) rfl rfl k) ?_
      refine own_to (T' := T335) (mkF m 200 #[iv p0, iv p1, iv p2, iv p3, iv y0, iv y1, iv y2, iv y3, iv 3, rv b325, rv nm, rv b325] []) (fun _ k => Jvm.RoadKit.acmp (g := (mkF m 197 #[iv p0, iv p1, iv p2, iv p3, iv y0, iv y1, iv y2, iv y3, iv 3, rv b325, rv nm, rv b325] [(.ref b325), (.ref b325)])) X335 hx rfl rfl rfl (pc0 := 197) (pc' := 200) (same := true) rfl (hb hby at_197) rfl (decide_eq_true rfl) (by decide) (by decide) k) ?_
      refine own_to (T' := T335) (mkF m 202 #[iv p0, iv p1, iv p2, iv p3, iv y0, iv y1, iv y2, iv y3, iv 3, rv b325, rv nm, rv b325] [(.ref b325)]) (fun _ k => XS.aload X335.here hx rfl (hb hby at_200) rfl rfl k) ?_
      obtain ⟨cq336, kq336, q336a, q336b, q336c⟩ := isOf hZ e335 SL.exa
      obtain ⟨_, _, ⟨T336, L336, k336, n336⟩, -, X336, ⟨Lc336, hQ336, l336, y336, z336⟩, st336⟩ := X335.virtualBack hx (y := (⟨"java/lang/String", "length", "()I"⟩ : MethodName)) (z := (⟨"java/lang/String", "length", "()I"⟩ : MethodName)) hown (mvT hZ (hw _ (List.mem_of_getElem? (i := 59) rfl))) (mvT hZ (hw _ (List.mem_of_getElem? (i := 60) rfl))) (notFace_of_selects (args := #[]) (mvT hZ (hw _ (List.mem_of_getElem? (i := 62) rfl)))) (mvT hZ (hw _ (List.mem_of_getElem? (i := 62) rfl))) (mvT hZ (hw _ (List.mem_of_getElem? (i := 61) rfl))) (by decide) (backOf (W := 0) (own_rmLN_3 l Z a0 hw [] G1 b325 tx h332 n0 (Nat.le_trans Z0 KP.1) OL SL O2 P5) hZ (hw _ (List.mem_of_getElem? (i := 63) rfl)) (hw _ (List.mem_of_getElem? (i := 3) rfl)) (by decide) (by decide)) q336a q336c (g := (mkF m 202 #[iv p0, iv p1, iv p2, iv p3, iv y0, iv y1, iv y2, iv y3, iv 3, rv b325, rv nm, rv b325] [(.ref b325)])) rfl (by rw [hml]; rfl) (Steps.refl _) (argsL := []) (rest := []) (lenOf own_pd17 rfl) rfl (by show 2 * 0 + _ ≤ _; exact Nat.le_of_eq rfl) (hb hby at_202) (fun _ _ => ⟨rfl, e335, (by decide : 6 + 0 ≤ _), (by decide : 20 + 0 ≤ _)⟩)
      dsimp only [Pt.U, Pt.locs, Pt.cells, Pt.slots] at X336 l336 y336 z336 st336 hQ336
      subst l336 y336 z336
      obtain ⟨rfl, N336q, e336⟩ := hQ336
      have N336 := Fr.app N335 N336q
      refine own_via (mkF m 205 #[iv p0, iv p1, iv p2, iv p3, iv y0, iv y1, iv y2, iv y3, iv 3, rv b325, rv nm, rv b325] [(.int (3 : Int32))]) st336 ?_
      refine own_to (T' := T336) (mkF m 207 #[iv p0, iv p1, iv p2, iv p3, iv y0, iv y1, iv y2, iv y3, iv 3, rv b325, rv nm, rv b325] [(.int (3 : Int32)), (.int (3 : Int32))]) (fun _ k => XS.iload X336.here hx rfl (hb hby at_205) rfl k) ?_
      refine own_to (T' := T336) (mkF m 210 #[iv p0, iv p1, iv p2, iv p3, iv y0, iv y1, iv y2, iv y3, iv 3, rv b325, rv nm, rv b325] []) (fun _ k => XS.icmpNo X336.here hx rfl (hb hby at_207) rfl (teq (by decide : (3 : Int32) = (3 : Int32))).2 k) ?_
      refine own_to (T' := T336) (mkF m 211 #[iv p0, iv p1, iv p2, iv p3, iv y0, iv y1, iv y2, iv y3, iv 3, rv b325, rv nm, rv b325] [(.int (1 : Int32))]) (fun _ k => XS.iconst X336.here hx rfl (hb hby at_210) k) ?_
      refine own_to (T' := T336) (mkF m 215 #[iv p0, iv p1, iv p2, iv p3, iv y0, iv y1, iv y2, iv y3, iv 3, rv b325, rv nm, rv b325] [(.int (1 : Int32))]) (fun _ k => XS.goto X336.here hx rfl (pc0 := 211) (pc' := 215) rfl (hb hby at_211) (by decide) (by decide) k) ?_
      exact own_retNW (s := s) (vm₁ := T332.vm) X336 hS (by rw [e336]; exact hk1) hx (t := .boolean) Bd.returns (by simp) hlk (hb hby at_215) (by decide) (by decide) (by rw [e336]; exact ⟨rfl, N336⟩)
  · subst q
    refine own_to (T' := s₁) (mkF m 35 #[iv p0, iv p1, iv p2, iv p3, iv y0, iv y1, iv y2, iv y3, iv 4, .unset, .unset, .unset] []) (fun _ k => XS.istore X0.here hx rfl (hb hby at_33) rfl (l' := #[iv p0, iv p1, iv p2, iv p3, iv y0, iv y1, iv y2, iv y3, iv 4, .unset, .unset, .unset]) rfl k) ?_
    refine own_to (T' := s₁) (mkF m 37 #[iv p0, iv p1, iv p2, iv p3, iv y0, iv y1, iv y2, iv y3, iv 4, .unset, .unset, .unset] [(.int (4 : Int32))]) (fun _ k => XS.iload X0.here hx rfl (hb hby at_35) rfl k) ?_
    refine own_to (T' := s₁) (mkF m 38 #[iv p0, iv p1, iv p2, iv p3, iv y0, iv y1, iv y2, iv y3, iv 4, .unset, .unset, .unset] [(.int (1 : Int32)), (.int (4 : Int32))]) (fun _ k => XS.iconst X0.here hx rfl (hb hby at_37) k) ?_
    refine own_to (T' := s₁) (mkF m 61 #[iv p0, iv p1, iv p2, iv p3, iv y0, iv y1, iv y2, iv y3, iv 4, .unset, .unset, .unset] []) (fun _ k => XS.icmpYes X0.here hx rfl (pc0 := 38) (pc' := 61) rfl (hb hby at_38) rfl (feq (by decide : ¬ ((4 : Int32) = (1 : Int32)))).2 (by decide) (by decide) k) ?_
    refine own_to (T' := s₁) (mkF m 63 #[iv p0, iv p1, iv p2, iv p3, iv y0, iv y1, iv y2, iv y3, iv 4, .unset, .unset, .unset] [(.int (4 : Int32))]) (fun _ k => XS.iload X0.here hx rfl (hb hby at_61) rfl k) ?_
    refine own_to (T' := s₁) (mkF m 64 #[iv p0, iv p1, iv p2, iv p3, iv y0, iv y1, iv y2, iv y3, iv 4, .unset, .unset, .unset] [(.int (2 : Int32)), (.int (4 : Int32))]) (fun _ k => XS.iconst X0.here hx rfl (hb hby at_63) k) ?_
    refine own_to (T' := s₁) (mkF m 92 #[iv p0, iv p1, iv p2, iv p3, iv y0, iv y1, iv y2, iv y3, iv 4, .unset, .unset, .unset] []) (fun _ k => XS.icmpYes X0.here hx rfl (pc0 := 64) (pc' := 92) rfl (hb hby at_64) rfl (feq (by decide : ¬ ((4 : Int32) = (2 : Int32)))).2 (by decide) (by decide) k) ?_
    refine own_to (T' := s₁) (mkF m 94 #[iv p0, iv p1, iv p2, iv p3, iv y0, iv y1, iv y2, iv y3, iv 4, .unset, .unset, .unset] [(.int (4 : Int32))]) (fun _ k => XS.iload X0.here hx rfl (hb hby at_92) rfl k) ?_
    refine own_to (T' := s₁) (mkF m 95 #[iv p0, iv p1, iv p2, iv p3, iv y0, iv y1, iv y2, iv y3, iv 4, .unset, .unset, .unset] [(.int (3 : Int32)), (.int (4 : Int32))]) (fun _ k => XS.iconst X0.here hx rfl (hb hby at_94) k) ?_
    refine own_to (T' := s₁) (mkF m 128 #[iv p0, iv p1, iv p2, iv p3, iv y0, iv y1, iv y2, iv y3, iv 4, .unset, .unset, .unset] []) (fun _ k => XS.icmpYes X0.here hx rfl (pc0 := 95) (pc' := 128) rfl (hb hby at_95) rfl (feq (by decide : ¬ ((4 : Int32) = (3 : Int32)))).2 (by decide) (by decide) k) ?_
    obtain ⟨T337, h337, X337, e337, E337, A337, D337, -, st337⟩ := newO X0 hx hZ hown (hw _ (List.mem_of_getElem? (i := 1) rfl)) (hw _ (List.mem_of_getElem? (i := 2) rfl)) (hw _ (List.mem_of_getElem? (i := 3) rfl)) e0 (g := (mkF m 128 #[iv p0, iv p1, iv p2, iv p3, iv y0, iv y1, iv y2, iv y3, iv 4, .unset, .unset, .unset] [])) rfl (hb hby at_128) (by decide) (by decide)
    obtain ⟨b337, g337⟩ : ∃ z, z = h0.size := ⟨_, rfl⟩
    rw [← g337] at A337 D337 st337
    have sz_b337 : h0.size ≤ b337 := Nat.le_trans KP.1 (Nat.le_of_eq g337.symm)
    have ge_b337 : n0 ≤ b337 := Nat.le_trans Z0 sz_b337
    have OL := OL.ext E337
    have KP := KP.ext E337
    have hk1 := Nat.le_trans hk1 E337.1
    have E_b337 : Exa Z h337 b337 "java/lang/String" := A337
    have F_coder_b337 : Fld Z h337 b337 "java/lang/String" "coder" "B" (.int (0 : Int32)) := D337 (Or.inr (hw _ (List.mem_of_getElem? (i := 28) rfl))) (ty := .byte) (by decide)
    have F_value_b337 : Fld Z h337 b337 "java/lang/String" "value" "[B" .null := D337 (Or.inr (hw _ (List.mem_of_getElem? (i := 30) rfl))) (ty := (.array .byte)) (by decide)
    refine own_to (mkF m 131 #[iv p0, iv p1, iv p2, iv p3, iv y0, iv y1, iv y2, iv y3, iv 4, .unset, .unset, .unset] [(.ref b337)]) st337 ?_
    refine own_to (T' := T337) (mkF m 132 #[iv p0, iv p1, iv p2, iv p3, iv y0, iv y1, iv y2, iv y3, iv 4, .unset, .unset, .unset] [(.ref b337), (.ref b337)]) (fun _ k => XS.dup X337.here hx rfl (hb hby at_131) rfl rfl k) ?_
    refine own_to (T' := T337) (mkF m 133 #[iv p0, iv p1, iv p2, iv p3, iv y0, iv y1, iv y2, iv y3, iv 4, .unset, .unset, .unset] [(.int (4 : Int32)), (.ref b337), (.ref b337)]) (fun _ k => XS.iconst X337.here hx rfl (hb hby at_132) k) ?_
    obtain ⟨T338, h338, k338, X338, e338, E338, A338, B338, st338⟩ := newPE X337 hx hZ (hw _ (List.mem_of_getElem? (i := 4) rfl)) e337 (g := (mkF m 133 #[iv p0, iv p1, iv p2, iv p3, iv y0, iv y1, iv y2, iv y3, iv 4, .unset, .unset, .unset] [(.int (4 : Int32)), (.ref b337), (.ref b337)])) rfl (hb hby at_133) rfl (by decide) (cap := 4) (by decide) (by decide) (by decide) (by decide) (ad := "[C") (by decide)
    obtain ⟨b338, g338⟩ : ∃ z, z = h337.size := ⟨_, rfl⟩
    rw [← g338] at A338 B338 st338
    have sz_b338 : h0.size ≤ b338 := Nat.le_trans KP.1 (Nat.le_of_eq g338.symm)
    have ge_b338 : n0 ≤ b338 := Nat.le_trans Z0 sz_b338
    have ne_b337_b338 : b337 ≠ b338 := Nat.ne_of_lt (Nat.lt_of_lt_of_le E_b337.lt (Nat.le_of_eq g338.symm))
    have OL := OL.ext E338
    have KP := KP.ext E338
    have hk1 := Nat.le_trans hk1 E338.1
    have E_b337 := E_b337.ext E338
    have F_coder_b337 := F_coder_b337.ext E338
    have F_value_b337 := F_value_b337.ext E338
    have V_b338 : Arv Z h338 b338 k338 .char (4 : Int32) [(.int (0 : Int32)), (.int (0 : Int32)), (.int (0 : Int32)), (.int (0 : Int32))] (.int (0 : Int32)) := (Arv.new A338 (by decide)).pad (pad_rep [] (.int (0 : Int32)) 4)
    refine own_to (mkF m 135 #[iv p0, iv p1, iv p2, iv p3, iv y0, iv y1, iv y2, iv y3, iv 4, .unset, .unset, .unset] [(.ref b338), (.ref b337), (.ref b337)]) st338 ?_
    refine own_to (T' := T338) (mkF m 136 #[iv p0, iv p1, iv p2, iv p3, iv y0, iv y1, iv y2, iv y3, iv 4, .unset, .unset, .unset] [(.ref b338), (.ref b338), (.ref b337), (.ref b337)]) (fun _ k => XS.dup X338.here hx rfl (hb hby at_135) rfl rfl k) ?_
    refine own_to (T' := T338) (mkF m 137 #[iv p0, iv p1, iv p2, iv p3, iv y0, iv y1, iv y2, iv y3, iv 4, .unset, .unset, .unset] [(.int (0 : Int32)), (.ref b338), (.ref b338), (.ref b337), (.ref b337)]) (fun _ k => XS.iconst X338.here hx rfl (hb hby at_136) k) ?_
    refine own_to (T' := T338) (mkF m 139 #[iv p0, iv p1, iv p2, iv p3, iv y0, iv y1, iv y2, iv y3, iv 4, .unset, .unset, .unset] [(.int y0), (.int (0 : Int32)), (.ref b338), (.ref b338), (.ref b337), (.ref b337)]) (fun _ k => XS.iload X338.here hx rfl (hb hby at_137) rfl k) ?_
    obtain ⟨cl339, Ar339, q339, S339, M339, H339, G339⟩ := id V_b338
    obtain ⟨T339, h339, X339, e339, W339, st339⟩ := stC X338 hx hZ e338 Ar339 (j := (0 : Int32)) (inb_of S339 ⟨by decide, by decide⟩) (g := (mkF m 139 #[iv p0, iv p1, iv p2, iv p3, iv y0, iv y1, iv y2, iv y3, iv 4, .unset, .unset, .unset] [(.int y0), (.int (0 : Int32)), (.ref b338), (.ref b338), (.ref b337), (.ref b337)])) rfl rfl (hb hby at_139)
    refine own_to (mkF m 140 #[iv p0, iv p1, iv p2, iv p3, iv y0, iv y1, iv y2, iv y3, iv 4, .unset, .unset, .unset] [(.ref b338), (.ref b337), (.ref b337)]) st339 ?_
    have N339 := Fr.snoc X339 N0 ge_b338
    have tmp339 : Arv Z h339 b338 k338 .char (4 : Int32) [(.int (nar .char y0)), (.int (0 : Int32)), (.int (0 : Int32)), (.int (0 : Int32))] (.int (0 : Int32)) := Arv.set Ar339 q339 S339 M339 H339 G339 (fits_nar_char _) W339 0 rfl (Nat.le_of_ble_eq_true rfl)
    rw [own_nar16 c16_y0] at tmp339
    have OL := OL.wr W339 ge_b338
    have KP := KP.wr W339 (Or.inr sz_b338)
    have hk1 := Nat.le_trans hk1 (Keep.of_wr W339).1
    have E_b337 := E_b337.wr W339
    have F_coder_b337 := F_coder_b337.other W339 (Or.inl ne_b337_b338)
    have F_value_b337 := F_value_b337.other W339 (Or.inl ne_b337_b338)
    have V_b338 := tmp339
    refine own_to (T' := T339) (mkF m 141 #[iv p0, iv p1, iv p2, iv p3, iv y0, iv y1, iv y2, iv y3, iv 4, .unset, .unset, .unset] [(.ref b338), (.ref b338), (.ref b337), (.ref b337)]) (fun _ k => XS.dup X339.here hx rfl (hb hby at_140) rfl rfl k) ?_
    refine own_to (T' := T339) (mkF m 142 #[iv p0, iv p1, iv p2, iv p3, iv y0, iv y1, iv y2, iv y3, iv 4, .unset, .unset, .unset] [(.int (1 : Int32)), (.ref b338), (.ref b338), (.ref b337), (.ref b337)]) (fun _ k => XS.iconst X339.here hx rfl (hb hby at_141) k) ?_
    refine own_to (T' := T339) (mkF m 144 #[iv p0, iv p1, iv p2, iv p3, iv y0, iv y1, iv y2, iv y3, iv 4, .unset, .unset, .unset] [(.int y1), (.int (1 : Int32)), (.ref b338), (.ref b338), (.ref b337), (.ref b337)]) (fun _ k => XS.iload X339.here hx rfl (hb hby at_142) rfl k) ?_
    obtain ⟨cl340, Ar340, q340, S340, M340, H340, G340⟩ := id V_b338
    obtain ⟨T340, h340, X340, e340, W340, st340⟩ := stC X339 hx hZ e339 Ar340 (j := (1 : Int32)) (inb_of S340 ⟨by decide, by decide⟩) (g := (mkF m 144 #[iv p0, iv p1, iv p2, iv p3, iv y0, iv y1, iv y2, iv y3, iv 4, .unset, .unset, .unset] [(.int y1), (.int (1 : Int32)), (.ref b338), (.ref b338), (.ref b337), (.ref b337)])) rfl rfl (hb hby at_144)
    refine own_to (mkF m 145 #[iv p0, iv p1, iv p2, iv p3, iv y0, iv y1, iv y2, iv y3, iv 4, .unset, .unset, .unset] [(.ref b338), (.ref b337), (.ref b337)]) st340 ?_
    have N340 := Fr.snoc X340 N339 ge_b338
    have tmp340 : Arv Z h340 b338 k338 .char (4 : Int32) [(.int y0), (.int (nar .char y1)), (.int (0 : Int32)), (.int (0 : Int32))] (.int (0 : Int32)) := Arv.set Ar340 q340 S340 M340 H340 G340 (fits_nar_char _) W340 1 rfl (Nat.le_of_ble_eq_true rfl)
    rw [own_nar16 c16_y1] at tmp340
    have OL := OL.wr W340 ge_b338
    have KP := KP.wr W340 (Or.inr sz_b338)
    have hk1 := Nat.le_trans hk1 (Keep.of_wr W340).1
    have E_b337 := E_b337.wr W340
    have F_coder_b337 := F_coder_b337.other W340 (Or.inl ne_b337_b338)
    have F_value_b337 := F_value_b337.other W340 (Or.inl ne_b337_b338)
    have V_b338 := tmp340
    refine own_to (T' := T340) (mkF m 146 #[iv p0, iv p1, iv p2, iv p3, iv y0, iv y1, iv y2, iv y3, iv 4, .unset, .unset, .unset] [(.ref b338), (.ref b338), (.ref b337), (.ref b337)]) (fun _ k => XS.dup X340.here hx rfl (hb hby at_145) rfl rfl k) ?_
    refine own_to (T' := T340) (mkF m 147 #[iv p0, iv p1, iv p2, iv p3, iv y0, iv y1, iv y2, iv y3, iv 4, .unset, .unset, .unset] [(.int (2 : Int32)), (.ref b338), (.ref b338), (.ref b337), (.ref b337)]) (fun _ k => XS.iconst X340.here hx rfl (hb hby at_146) k) ?_
    refine own_to (T' := T340) (mkF m 149 #[iv p0, iv p1, iv p2, iv p3, iv y0, iv y1, iv y2, iv y3, iv 4, .unset, .unset, .unset] [(.int y2), (.int (2 : Int32)), (.ref b338), (.ref b338), (.ref b337), (.ref b337)]) (fun _ k => XS.iload X340.here hx rfl (hb hby at_147) rfl k) ?_
    obtain ⟨cl341, Ar341, q341, S341, M341, H341, G341⟩ := id V_b338
    obtain ⟨T341, h341, X341, e341, W341, st341⟩ := stC X340 hx hZ e340 Ar341 (j := (2 : Int32)) (inb_of S341 ⟨by decide, by decide⟩) (g := (mkF m 149 #[iv p0, iv p1, iv p2, iv p3, iv y0, iv y1, iv y2, iv y3, iv 4, .unset, .unset, .unset] [(.int y2), (.int (2 : Int32)), (.ref b338), (.ref b338), (.ref b337), (.ref b337)])) rfl rfl (hb hby at_149)
    refine own_to (mkF m 150 #[iv p0, iv p1, iv p2, iv p3, iv y0, iv y1, iv y2, iv y3, iv 4, .unset, .unset, .unset] [(.ref b338), (.ref b337), (.ref b337)]) st341 ?_
    have N341 := Fr.snoc X341 N340 ge_b338
    have tmp341 : Arv Z h341 b338 k338 .char (4 : Int32) [(.int y0), (.int y1), (.int (nar .char y2)), (.int (0 : Int32))] (.int (0 : Int32)) := Arv.set Ar341 q341 S341 M341 H341 G341 (fits_nar_char _) W341 2 rfl (Nat.le_of_ble_eq_true rfl)
    rw [own_nar16 c16_y2] at tmp341
    have OL := OL.wr W341 ge_b338
    have KP := KP.wr W341 (Or.inr sz_b338)
    have hk1 := Nat.le_trans hk1 (Keep.of_wr W341).1
    have E_b337 := E_b337.wr W341
    have F_coder_b337 := F_coder_b337.other W341 (Or.inl ne_b337_b338)
    have F_value_b337 := F_value_b337.other W341 (Or.inl ne_b337_b338)
    have V_b338 := tmp341
    refine own_to (T' := T341) (mkF m 151 #[iv p0, iv p1, iv p2, iv p3, iv y0, iv y1, iv y2, iv y3, iv 4, .unset, .unset, .unset] [(.ref b338), (.ref b338), (.ref b337), (.ref b337)]) (fun _ k => XS.dup X341.here hx rfl (hb hby at_150) rfl rfl k) ?_
    refine own_to (T' := T341) (mkF m 152 #[iv p0, iv p1, iv p2, iv p3, iv y0, iv y1, iv y2, iv y3, iv 4, .unset, .unset, .unset] [(.int (3 : Int32)), (.ref b338), (.ref b338), (.ref b337), (.ref b337)]) (fun _ k => XS.iconst X341.here hx rfl (hb hby at_151) k) ?_
    refine own_to (T' := T341) (mkF m 154 #[iv p0, iv p1, iv p2, iv p3, iv y0, iv y1, iv y2, iv y3, iv 4, .unset, .unset, .unset] [(.int y3), (.int (3 : Int32)), (.ref b338), (.ref b338), (.ref b337), (.ref b337)]) (fun _ k => XS.iload X341.here hx rfl (hb hby at_152) rfl k) ?_
    obtain ⟨cl342, Ar342, q342, S342, M342, H342, G342⟩ := id V_b338
    obtain ⟨T342, h342, X342, e342, W342, st342⟩ := stC X341 hx hZ e341 Ar342 (j := (3 : Int32)) (inb_of S342 ⟨by decide, by decide⟩) (g := (mkF m 154 #[iv p0, iv p1, iv p2, iv p3, iv y0, iv y1, iv y2, iv y3, iv 4, .unset, .unset, .unset] [(.int y3), (.int (3 : Int32)), (.ref b338), (.ref b338), (.ref b337), (.ref b337)])) rfl rfl (hb hby at_154)
    refine own_to (mkF m 155 #[iv p0, iv p1, iv p2, iv p3, iv y0, iv y1, iv y2, iv y3, iv 4, .unset, .unset, .unset] [(.ref b338), (.ref b337), (.ref b337)]) st342 ?_
    have N342 := Fr.snoc X342 N341 ge_b338
    have tmp342 : Arv Z h342 b338 k338 .char (4 : Int32) [(.int y0), (.int y1), (.int y2), (.int (nar .char y3))] (.int (0 : Int32)) := Arv.set Ar342 q342 S342 M342 H342 G342 (fits_nar_char _) W342 3 rfl (Nat.le_of_ble_eq_true rfl)
    rw [own_nar16 c16_y3] at tmp342
    have OL := OL.wr W342 ge_b338
    have KP := KP.wr W342 (Or.inr sz_b338)
    have hk1 := Nat.le_trans hk1 (Keep.of_wr W342).1
    have E_b337 := E_b337.wr W342
    have F_coder_b337 := F_coder_b337.other W342 (Or.inl ne_b337_b338)
    have F_value_b337 := F_value_b337.other W342 (Or.inl ne_b337_b338)
    have V_b338 := tmp342
    have KP0 := KP
    have lt0_b337 := E_b337.lt
    have lt0_b338 := V_b338.lt
    obtain ⟨_, _, ⟨T343, L343, k343, n343⟩, -, X343, ⟨Lc343, hQ343, l343, y343, z343⟩, st343⟩ := X342.specialBack hx (y := (⟨"java/lang/String", "<init>", "([C)V"⟩ : MethodName)) rfl hown (mvT hZ (hw _ (List.mem_of_getElem? (i := 5) rfl))) (mvT hZ (hw _ (List.mem_of_getElem? (i := 6) rfl))) (mvT hZ (hw _ (List.mem_of_getElem? (i := 7) rfl))) (by decide) (backOf (W := 1) (own_rmI1_4 l Z a0 hw [] y0 y1 y2 y3 G1 b337 b338 k338 h342 n0 (Nat.le_trans Z0 KP.1) OL ge_b337 ne_b337_b338 E_b337 F_value_b337 F_coder_b337 c16_y0 c16_y1 c16_y2 c16_y3 V_b338 O2 P5 OAD OHI OLO) hZ (hw _ (List.mem_of_getElem? (i := 7) rfl)) (hw _ (List.mem_of_getElem? (i := 3) rfl)) (by decide) (by decide)) (g := (mkF m 155 #[iv p0, iv p1, iv p2, iv p3, iv y0, iv y1, iv y2, iv y3, iv 4, .unset, .unset, .unset] [(.ref b338), (.ref b337), (.ref b337)])) rfl (by rw [hml]; rfl) (Steps.refl _) (a := b337) (argsL := [(.ref b338)]) (rest := [(.ref b337)]) (lenOf own_pd14 rfl) rfl (by show 2 * 0 + _ ≤ _; exact Nat.le_of_eq rfl) (hb hby at_155) (fun _ _ => ⟨rfl, e342, (by decide : 2 + 2 ≤ _), (by decide : 8 + 12 ≤ _)⟩)
    dsimp only [Pt.U, Pt.locs, Pt.cells, Pt.slots] at X343 l343 y343 z343 st343 hQ343
    subst l343 y343 z343
    obtain ⟨rfl, N343q, K343, tx, kx, ge_tx, sz0_tx, hor343⟩ := hQ343
    have N343 := Fr.app N342 N343q
    have OL := OL.keep K343 (allS ge_b337 all0)
    have KP := KP.trans K343 (allS (Or.inr sz_b337) all0)
    have hk1 := Nat.le_trans hk1 K343.1
    have E_b337 := E_b337.keep K343
    have V_b338 := V_b338.keep K343 (ninS (Ne.symm ne_b337_b338) nin0)
    refine own_via (mkF m 158 #[iv p0, iv p1, iv p2, iv p3, iv y0, iv y1, iv y2, iv y3, iv 4, .unset, .unset, .unset] [(.ref b337)]) st343 ?_
    have sz_tx : h0.size ≤ tx := Nat.le_trans KP0.1 sz0_tx
    have ne_b338_tx : b338 ≠ tx := Nat.ne_of_lt (Nat.lt_of_lt_of_le lt0_b338 sz0_tx)
    have SL : own_StrL Z T343.heap b337 tx (4 : Int32) (8 : Int32) := (by rcases hor343 with ⟨-, -, -, -, g⟩ | g <;> first | exact ⟨_, _, _, _, g, Or.inl ⟨rfl, rfl⟩⟩ | exact ⟨_, _, _, _, g, Or.inr ⟨rfl, rfl⟩⟩)
    refine own_to (T' := T343) (mkF m 160 #[iv p0, iv p1, iv p2, iv p3, iv y0, iv y1, iv y2, iv y3, iv 4, rv b337, .unset, .unset] []) (fun _ k => XS.astore X343.here hx rfl (hb hby at_158) rfl rfl (l' := #[iv p0, iv p1, iv p2, iv p3, iv y0, iv y1, iv y2, iv y3, iv 4, rv b337, .unset, .unset]) rfl k) ?_
    refine own_to (T' := T343) (mkF m 161 #[iv p0, iv p1, iv p2, iv p3, iv y0, iv y1, iv y2, iv y3, iv 4, rv b337, .unset, .unset] [(.int p3)]) (fun _ k => XS.iloadN X343.here hx rfl (hb hby at_160) rfl k) ?_
    refine own_to (mkF m 163 #[iv p0, iv p1, iv p2, iv p3, iv y0, iv y1, iv y2, iv y3, iv 4, rv b337, .unset, .unset] [(.int (65536 : Int32)), (.int p3)]) (X343.ldcInt hx hown (mvT hZ (hw _ (List.mem_of_getElem? (i := 31) rfl))) (g := (mkF m 161 #[iv p0, iv p1, iv p2, iv p3, iv y0, iv y1, iv y2, iv y3, iv 4, rv b337, .unset, .unset] [(.int p3)])) rfl (hb hby at_161)) ?_
    refine own_to (T' := T343) (mkF m 164 #[iv p0, iv p1, iv p2, iv p3, iv y0, iv y1, iv y2, iv y3, iv 4, rv b337, .unset, .unset] [(.int (p3 &&& (65536 : Int32)))]) (fun _ k => XS.iand X343.here hx rfl (hb hby at_163) rfl k) ?_
    by_cases hnb : (p3 &&& (65536 : Int32)) = (0 : Int32)
    · refine own_to (T' := T343) (mkF m 174 #[iv p0, iv p1, iv p2, iv p3, iv y0, iv y1, iv y2, iv y3, iv 4, rv b337, .unset, .unset] []) (fun _ k => XS.ifYes X343.here hx rfl (pc0 := 164) (pc' := 174) rfl (hb hby at_164) rfl ((if0 _ _).trans (teq hnb).1) (by decide) (by decide) k) ?_
      refine own_to (T' := T343) (mkF m 175 #[iv p0, iv p1, iv p2, iv p3, iv y0, iv y1, iv y2, iv y3, iv 4, rv b337, .unset, .unset] [(.int p3)]) (fun _ k => XS.iloadN X343.here hx rfl (hb hby at_174) rfl k) ?_
      refine own_to (mkF m 177 #[iv p0, iv p1, iv p2, iv p3, iv y0, iv y1, iv y2, iv y3, iv 4, rv b337, .unset, .unset] [(.int (65535 : Int32)), (.int p3)]) (X343.ldcInt hx hown (mvT hZ (hw _ (List.mem_of_getElem? (i := 0) rfl))) (g := (mkF m 175 #[iv p0, iv p1, iv p2, iv p3, iv y0, iv y1, iv y2, iv y3, iv 4, rv b337, .unset, .unset] [(.int p3)])) rfl (hb hby at_175)) ?_
      refine own_to (T' := T343) (mkF m 178 #[iv p0, iv p1, iv p2, iv p3, iv y0, iv y1, iv y2, iv y3, iv 4, rv b337, .unset, .unset] [(.int (p3 &&& (65535 : Int32)))]) (fun _ k => XS.iand X343.here hx rfl (hb hby at_177) rfl k) ?_
      refine own_to (T' := T343) (mkF m 179 #[iv p0, iv p1, iv p2, iv p3, iv y0, iv y1, iv y2, iv y3, iv 4, rv b337, .unset, .unset] [(.int ((p3 &&& (65535 : Int32)).toUInt32.toUInt16.toUInt32.toInt32))]) (fun _ k => XS.i2c X343.here hx rfl (hb hby at_178) rfl k) ?_
      generalize hyn : ((p3 &&& (65535 : Int32)).toUInt32.toUInt16.toUInt32.toInt32) = yn
      obtain ⟨_, _, ⟨T344, L344, k344, n344⟩, -, X344, ⟨Lc344, hQ344, l344, y344, z344⟩, st344⟩ := Jvm.LawKit.callS X343 hx (y := (⟨"java/lang/String", "valueOf", "(C)Ljava/lang/String;"⟩ : MethodName)) hown (mvT hZ (hw _ (List.mem_of_getElem? (i := 32) rfl))) (mvT hZ (hw _ (List.mem_of_getElem? (i := 33) rfl))) (mvT hZ (hw _ (List.mem_of_getElem? (i := 3) rfl))) (mvT hZ (hw _ (List.mem_of_getElem? (i := 34) rfl))) (by decide) (backOf (W := 0) (own_rmVO l Z a0 hw [] yn G1 T343.heap n0 (Nat.le_trans Z0 KP.1) OL O2 P5 OAD OHI OLO) hZ (hw _ (List.mem_of_getElem? (i := 34) rfl)) (hw _ (List.mem_of_getElem? (i := 3) rfl)) (by decide) (by decide)) (g := (mkF m 179 #[iv p0, iv p1, iv p2, iv p3, iv y0, iv y1, iv y2, iv y3, iv 4, rv b337, .unset, .unset] [(.int yn)])) rfl (by rw [hml]; rfl) (argsL := [(.int yn)]) (rest := []) (lenOf own_pd15 rfl) rfl (by show 2 * 0 + _ ≤ _; exact Nat.le_of_eq rfl) (hb hby at_179) (fun _ _ => ⟨rfl, rfl, (by decide : 4 + 2 ≤ _), (by decide : 20 + 6 ≤ _)⟩)
      dsimp only [Pt.U, Pt.locs, Pt.cells, Pt.slots] at X344 l344 y344 z344 st344 hQ344
      subst l344 y344 z344
      obtain ⟨nm, rfl, N344q, K344⟩ := hQ344
      have N344 := Fr.app N343 N344q
      have OL := OL.keep K344 all0
      have KP := KP.trans K344 all0
      have hk1 := Nat.le_trans hk1 K344.1
      have V_b338 := V_b338.keep K344 nin0
      have SL := SL.keep K344 nin0 nin0
      refine own_to (mkF m 182 #[iv p0, iv p1, iv p2, iv p3, iv y0, iv y1, iv y2, iv y3, iv 4, rv b337, .unset, .unset] [(.ref nm)]) st344 ?_
      refine own_to (T' := T344) (mkF m 184 #[iv p0, iv p1, iv p2, iv p3, iv y0, iv y1, iv y2, iv y3, iv 4, rv b337, rv nm, .unset] []) (fun _ k => XS.astore X344.here hx rfl (hb hby at_182) rfl rfl (l' := #[iv p0, iv p1, iv p2, iv p3, iv y0, iv y1, iv y2, iv y3, iv 4, rv b337, rv nm, .unset]) rfl k) ?_
      refine own_to (T' := T344) (mkF m 186 #[iv p0, iv p1, iv p2, iv p3, iv y0, iv y1, iv y2, iv y3, iv 4, rv b337, rv nm, .unset] [(.ref nm)]) (fun _ k => XS.aload X344.here hx rfl (hb hby at_184) rfl rfl k) ?_
      refine own_to (T' := T344) (mkF m 188 #[iv p0, iv p1, iv p2, iv p3, iv y0, iv y1, iv y2, iv y3, iv 4, rv b337, rv nm, .unset] [(.ref b337), (.ref nm)]) (fun _ k => XS.aload X344.here hx rfl (hb hby at_186) rfl rfl k) ?_
      obtain ⟨_, _, ⟨T346, L346, k346, n346⟩, -, X346, ⟨Lc346, hQ346, l346, y346, z346⟩, st346⟩ := Jvm.LawKit.callS X344 hx (y := (⟨"com/example/nuthatch/nuthatch/Arguments", "requireNonEmpty", "(Ljava/lang/String;Ljava/lang/String;)Ljava/lang/String;"⟩ : MethodName)) hown (mvT hZ (hw _ (List.mem_of_getElem? (i := 46) rfl))) (mvT hZ (hw _ (List.mem_of_getElem? (i := 47) rfl))) (mvT hZ (hw _ (List.mem_of_getElem? (i := 48) rfl))) (mvT hZ (hw _ (List.mem_of_getElem? (i := 49) rfl))) (by decide) (backOf (W := 0) (own_rmRE_4 l Z a0 hw [] G1 nm b337 tx T344.heap n0 (Nat.le_trans Z0 KP.1) OL SL O2 P5) hZ (hw _ (List.mem_of_getElem? (i := 49) rfl)) (hw _ (List.mem_of_getElem? (i := 48) rfl)) (by decide) (by decide)) (g := (mkF m 188 #[iv p0, iv p1, iv p2, iv p3, iv y0, iv y1, iv y2, iv y3, iv 4, rv b337, rv nm, .unset] [(.ref b337), (.ref nm)])) rfl (by rw [hml]; rfl) (argsL := [(.ref nm), (.ref b337)]) (rest := []) (lenOf own_pd16 rfl) rfl (by show 2 * 0 + _ ≤ _; exact Nat.le_of_eq rfl) (hb hby at_188) (fun _ _ => ⟨rfl, rfl, (by decide : 6 + 0 ≤ _), (by decide : 26 + 0 ≤ _)⟩)
      dsimp only [Pt.U, Pt.locs, Pt.cells, Pt.slots] at X346 l346 y346 z346 st346 hQ346
      subst l346 y346 z346
      obtain ⟨rfl, N346q, e346⟩ := hQ346
      have N346 := Fr.app N344 N346q
      refine own_to (mkF m 191 #[iv p0, iv p1, iv p2, iv p3, iv y0, iv y1, iv y2, iv y3, iv 4, rv b337, rv nm, .unset] [(.ref b337)]) st346 ?_
      refine own_to (T' := T346) (mkF m 193 #[iv p0, iv p1, iv p2, iv p3, iv y0, iv y1, iv y2, iv y3, iv 4, rv b337, rv nm, rv b337] []) (fun _ k => XS.astore X346.here hx rfl (hb hby at_191) rfl rfl (l' := #[iv p0, iv p1, iv p2, iv p3, iv y0, iv y1, iv y2, iv y3, iv 4, rv b337, rv nm, rv b337]) rfl k) ?_
      refine own_to (T' := T346) (mkF m 195 #[iv p0, iv p1, iv p2, iv p3, iv y0, iv y1, iv y2, iv y3, iv 4, rv b337, rv nm, rv b337] [(.ref b337)]) (fun _ k => XS.aload X346.here hx rfl (hb hby at_193) rfl rfl k) ?_
      refine own_to (T' := T346) (mkF m 197 #[iv p0, iv p1, iv p2, iv p3, iv y0, iv y1, iv y2, iv y3, iv 4, rv b337, rv nm, rv b337] [(.ref b337), (.ref b337)]) (fun _ k => XS.aload X346.here hx rfl (hb hby at_195) rfl rfl k) ?_
      refine own_to (T' := T346) (mkF m 200 #[iv p0, iv p1, iv p2, iv p3, iv y0, iv y1, iv y2, iv y3, iv 4, rv b337, rv nm, rv b337] []) (fun _ k => Jvm.RoadKit.acmp (g := (mkF m 197 #[iv p0, iv p1, iv p2, iv p3, iv y0, iv y1, iv y2, iv y3, iv 4, rv b337, rv nm, rv b337] [(.ref b337), (.ref b337)])) X346 hx rfl rfl rfl (pc0 := 197) (pc' := 200) (same := true) rfl (hb hby at_197) rfl (decide_eq_true rfl) (by decide) (by decide) k) ?_
      refine own_to (T' := T346) (mkF m 202 #[iv p0, iv p1, iv p2, iv p3, iv y0, iv y1, iv y2, iv y3, iv 4, rv b337, rv nm, rv b337] [(.ref b337)]) (fun _ k => XS.aload X346.here hx rfl (hb hby at_200) rfl rfl k) ?_
      obtain ⟨cq347, kq347, q347a, q347b, q347c⟩ := isOf hZ e346 SL.exa
      obtain ⟨_, _, ⟨T347, L347, k347, n347⟩, -, X347, ⟨Lc347, hQ347, l347, y347, z347⟩, st347⟩ := X346.virtualBack hx (y := (⟨"java/lang/String", "length", "()I"⟩ : MethodName)) (z := (⟨"java/lang/String", "length", "()I"⟩ : MethodName)) hown (mvT hZ (hw _ (List.mem_of_getElem? (i := 59) rfl))) (mvT hZ (hw _ (List.mem_of_getElem? (i := 60) rfl))) (notFace_of_selects (args := #[]) (mvT hZ (hw _ (List.mem_of_getElem? (i := 62) rfl)))) (mvT hZ (hw _ (List.mem_of_getElem? (i := 62) rfl))) (mvT hZ (hw _ (List.mem_of_getElem? (i := 61) rfl))) (by decide) (backOf (W := 0) (own_rmLN_4 l Z a0 hw [] G1 b337 tx T344.heap n0 (Nat.le_trans Z0 KP.1) OL SL O2 P5) hZ (hw _ (List.mem_of_getElem? (i := 63) rfl)) (hw _ (List.mem_of_getElem? (i := 3) rfl)) (by decide) (by decide)) q347a q347c (g := (mkF m 202 #[iv p0, iv p1, iv p2, iv p3, iv y0, iv y1, iv y2, iv y3, iv 4, rv b337, rv nm, rv b337] [(.ref b337)])) rfl (by rw [hml]; rfl) (Steps.refl _) (argsL := []) (rest := []) (lenOf own_pd17 rfl) rfl (by show 2 * 0 + _ ≤ _; exact Nat.le_of_eq rfl) (hb hby at_202) (fun _ _ => ⟨rfl, e346, (by decide : 6 + 0 ≤ _), (by decide : 26 + 0 ≤ _)⟩)
      dsimp only [Pt.U, Pt.locs, Pt.cells, Pt.slots] at X347 l347 y347 z347 st347 hQ347
      subst l347 y347 z347
      obtain ⟨rfl, N347q, e347⟩ := hQ347
      have N347 := Fr.app N346 N347q
      refine own_via (mkF m 205 #[iv p0, iv p1, iv p2, iv p3, iv y0, iv y1, iv y2, iv y3, iv 4, rv b337, rv nm, rv b337] [(.int (4 : Int32))]) st347 ?_
      refine own_to (T' := T347) (mkF m 207 #[iv p0, iv p1, iv p2, iv p3, iv y0, iv y1, iv y2, iv y3, iv 4, rv b337, rv nm, rv b337] [(.int (4 : Int32)), (.int (4 : Int32))]) (fun _ k => XS.iload X347.here hx rfl (hb hby at_205) rfl k) ?_
      refine own_to (T' := T347) (mkF m 210 #[iv p0, iv p1, iv p2, iv p3, iv y0, iv y1, iv y2, iv y3, iv 4, rv b337, rv nm, rv b337] []) (fun _ k => XS.icmpNo X347.here hx rfl (hb hby at_207) rfl (teq (by decide : (4 : Int32) = (4 : Int32))).2 k) ?_
      refine own_to (T' := T347) (mkF m 211 #[iv p0, iv p1, iv p2, iv p3, iv y0, iv y1, iv y2, iv y3, iv 4, rv b337, rv nm, rv b337] [(.int (1 : Int32))]) (fun _ k => XS.iconst X347.here hx rfl (hb hby at_210) k) ?_
      refine own_to (T' := T347) (mkF m 215 #[iv p0, iv p1, iv p2, iv p3, iv y0, iv y1, iv y2, iv y3, iv 4, rv b337, rv nm, rv b337] [(.int (1 : Int32))]) (fun _ k => XS.goto X347.here hx rfl (pc0 := 211) (pc' := 215) rfl (hb hby at_211) (by decide) (by decide) k) ?_
      exact own_retNW (s := s) (vm₁ := s.vm) X347 hS (by rw [e347]; exact hk1) hx (t := .boolean) Bd.returns (by simp) hlk (hb hby at_215) (by decide) (by decide) (by rw [e347]; exact ⟨rfl, N347⟩)
    · refine own_to (T' := T343) (mkF m 167 #[iv p0, iv p1, iv p2, iv p3, iv y0, iv y1, iv y2, iv y3, iv 4, rv b337, .unset, .unset] []) (fun _ k => XS.ifNo X343.here hx rfl (hb hby at_164) rfl ((if0 _ _).trans (feq hnb).1) k) ?_
      obtain ⟨nm, T345, h345, k1, X345, e345, E345, hS, hk2, hZ, hown, st345⟩ := ldcS (s := s) (vm0 := s.vm) X343 hx hZ hown (hw _ (List.mem_of_getElem? (i := 88) rfl)) hwsS rfl hS hk1 (g := (mkF m 167 #[iv p0, iv p1, iv p2, iv p3, iv y0, iv y1, iv y2, iv y3, iv 4, rv b337, .unset, .unset] [])) rfl (hb hby at_167) (n := 0) (by decide) (by decide) (by decide) (by decide)
      have OL := OL.ext E345
      have KP := KP.ext E345
      have V_b338 := V_b338.ext E345
      have SL := SL.ext E345
      have hk1 := hk2
      refine own_to (mkF m 169 #[iv p0, iv p1, iv p2, iv p3, iv y0, iv y1, iv y2, iv y3, iv 4, rv b337, .unset, .unset] [(.ref nm)]) st345 ?_
      refine own_to (T' := T345) (mkF m 171 #[iv p0, iv p1, iv p2, iv p3, iv y0, iv y1, iv y2, iv y3, iv 4, rv b337, rv nm, .unset] []) (fun _ k => XS.astore X345.here hx rfl (hb hby at_169) rfl rfl (l' := #[iv p0, iv p1, iv p2, iv p3, iv y0, iv y1, iv y2, iv y3, iv 4, rv b337, rv nm, .unset]) rfl k) ?_
      refine own_to (T' := T345) (mkF m 184 #[iv p0, iv p1, iv p2, iv p3, iv y0, iv y1, iv y2, iv y3, iv 4, rv b337, rv nm, .unset] []) (fun _ k => XS.goto X345.here hx rfl (pc0 := 171) (pc' := 184) rfl (hb hby at_171) (by decide) (by decide) k) ?_
      refine own_to (T' := T345) (mkF m 186 #[iv p0, iv p1, iv p2, iv p3, iv y0, iv y1, iv y2, iv y3, iv 4, rv b337, rv nm, .unset] [(.ref nm)]) (fun _ k => XS.aload X345.here hx rfl (hb hby at_184) rfl rfl k) ?_
      refine own_to (T' := T345) (mkF m 188 #[iv p0, iv p1, iv p2, iv p3, iv y0, iv y1, iv y2, iv y3, iv 4, rv b337, rv nm, .unset] [(.ref b337), (.ref nm)]) (fun _ k => XS.aload X345.here hx rfl (hb hby at_186) rfl rfl k) ?_
      obtain ⟨_, _, ⟨T348, L348, k348, n348⟩, -, X348, ⟨Lc348, hQ348, l348, y348, z348⟩, st348⟩ := Jvm.LawKit.callS X345 hx (y := (⟨"com/example/nuthatch/nuthatch/Arguments", "requireNonEmpty", "(Ljava/lang/String;Ljava/lang/String;)Ljava/lang/String;"⟩ : MethodName)) hown (mvT hZ (hw _ (List.mem_of_getElem? (i := 46) rfl))) (mvT hZ (hw _ (List.mem_of_getElem? (i := 47) rfl))) (mvT hZ (hw _ (List.mem_of_getElem? (i := 48) rfl))) (mvT hZ (hw _ (List.mem_of_getElem? (i := 49) rfl))) (by decide) (backOf (W := 0) (own_rmRE_4 l Z a0 hw [] G1 nm b337 tx h345 n0 (Nat.le_trans Z0 KP.1) OL SL O2 P5) hZ (hw _ (List.mem_of_getElem? (i := 49) rfl)) (hw _ (List.mem_of_getElem? (i := 48) rfl)) (by decide) (by decide)) (g := (mkF m 188 #[iv p0, iv p1, iv p2, iv p3, iv y0, iv y1, iv y2, iv y3, iv 4, rv b337, rv nm, .unset] [(.ref b337), (.ref nm)])) rfl (by rw [hml]; rfl) (argsL := [(.ref nm), (.ref b337)]) (rest := []) (lenOf own_pd16 rfl) rfl (by show 2 * 0 + _ ≤ _; exact Nat.le_of_eq rfl) (hb hby at_188) (fun _ _ => ⟨rfl, e345, (by decide : 6 + 0 ≤ _), (by decide : 24 + 0 ≤ _)⟩)
      dsimp only [Pt.U, Pt.locs, Pt.cells, Pt.slots] at X348 l348 y348 z348 st348 hQ348
      subst l348 y348 z348
      obtain ⟨rfl, N348q, e348⟩ := hQ348
      have N348 := Fr.app N343 N348q
      refine own_to (mkF m 191 #[iv p0, iv p1, iv p2, iv p3, iv y0, iv y1, iv y2, iv y3, iv 4, rv b337, rv nm, .unset] [(.ref b337)]) st348 ?_
      refine own_to (T' := T348) (mkF m 193 #[iv p0, iv p1, iv p2, iv p3, iv y0, iv y1, iv y2, iv y3, iv 4, rv b337, rv nm, rv b337] []) (fun _ k => XS.astore X348.here hx rfl (hb hby at_191) rfl rfl (l' := #[iv p0, iv p1, iv p2, iv p3, iv y0, iv y1, iv y2, iv y3, iv 4, rv b337, rv nm, rv b337]) rfl k) ?_
      refine own_to (T' := T348) (mkF m 195 #[iv p0, iv p1, iv p2, iv p3, iv y0, iv y1, iv y2, iv y3, iv 4, rv b337, rv nm, rv b337] [(.ref b337)]) (fun _ k => XS.aload X348.here hx rfl (hb hby at_193) rfl rfl k) ?_
      refine own_to (T' := T348) (mkF m 197 #[iv p0, iv p1, iv p2, iv p3, iv y0, iv y1, iv y2, iv y3, iv 4, rv b337, rv nm, rv b337] [(.ref b337), (.ref b337)]) (fun _ k => XS.aload X348.here hx rfl (hb hby at_195) rfl rfl k) ?_
      refine own_to (T' := T348) (mkF m 200 #[iv p0, iv p1, iv p2, iv p3, iv y0, iv y1, iv y2, iv y3, iv 4, rv b337, rv nm, rv b337] []) (fun _ k => Jvm.RoadKit.acmp (g := (mkF m 197 #[iv p0, iv p1, iv p2, iv p3, iv y0, iv y1, iv y2, iv y3, iv 4, rv b337, rv nm, rv b337] [(.ref b337), (.ref b337)])) X348 hx rfl rfl rfl (pc0 := 197) (pc' := 200) (same := true) rfl (hb hby at_197) rfl (decide_eq_true rfl) (by decide) (by decide) k) ?_
      refine own_to (T' := T348) (mkF m 202 #[iv p0, iv p1, iv p2, iv p3, iv y0, iv y1, iv y2, iv y3, iv 4, rv b337, rv nm, rv b337] [(.ref b337)]) (fun _ k => XS.aload X348.here hx rfl (hb hby at_200) rfl rfl k) ?_
      obtain ⟨cq349, kq349, q349a, q349b, q349c⟩ := isOf hZ e348 SL.exa
      obtain ⟨_, _, ⟨T349, L349, k349, n349⟩, -, X349, ⟨Lc349, hQ349, l349, y349, z349⟩, st349⟩ := X348.virtualBack hx (y := (⟨"java/lang/String", "length", "()I"⟩ : MethodName)) (z := (⟨"java/lang/String", "length", "()I"⟩ : MethodName)) hown (mvT hZ (hw _ (List.mem_of_getElem? (i := 59) rfl))) (mvT hZ (hw _ (List.mem_of_getElem? (i := 60) rfl))) (notFace_of_selects (args := #[]) (mvT hZ (hw _ (List.mem_of_getElem? (i := 62) rfl)))) (mvT hZ (hw _ (List.mem_of_getElem? (i := 62) rfl))) (mvT hZ (hw _ (List.mem_of_getElem? (i := 61) rfl))) (by decide) (backOf (W := 0) (own_rmLN_4 l Z a0 hw [] G1 b337 tx h345 n0 (Nat.le_trans Z0 KP.1) OL SL O2 P5) hZ (hw _ (List.mem_of_getElem? (i := 63) rfl)) (hw _ (List.mem_of_getElem? (i := 3) rfl)) (by decide) (by decide)) q349a q349c (g := (mkF m 202 #[iv p0, iv p1, iv p2, iv p3, iv y0, iv y1, iv y2, iv y3, iv 4, rv b337, rv nm, rv b337] [(.ref b337)])) rfl (by rw [hml]; rfl) (Steps.refl _) (argsL := []) (rest := []) (lenOf own_pd17 rfl) rfl (by show 2 * 0 + _ ≤ _; exact Nat.le_of_eq rfl) (hb hby at_202) (fun _ _ => ⟨rfl, e348, (by decide : 6 + 0 ≤ _), (by decide : 24 + 0 ≤ _)⟩)
      dsimp only [Pt.U, Pt.locs, Pt.cells, Pt.slots] at X349 l349 y349 z349 st349 hQ349
      subst l349 y349 z349
      obtain ⟨rfl, N349q, e349⟩ := hQ349
      have N349 := Fr.app N348 N349q
      refine own_via (mkF m 205 #[iv p0, iv p1, iv p2, iv p3, iv y0, iv y1, iv y2, iv y3, iv 4, rv b337, rv nm, rv b337] [(.int (4 : Int32))]) st349 ?_
      refine own_to (T' := T349) (mkF m 207 #[iv p0, iv p1, iv p2, iv p3, iv y0, iv y1, iv y2, iv y3, iv 4, rv b337, rv nm, rv b337] [(.int (4 : Int32)), (.int (4 : Int32))]) (fun _ k => XS.iload X349.here hx rfl (hb hby at_205) rfl k) ?_
      refine own_to (T' := T349) (mkF m 210 #[iv p0, iv p1, iv p2, iv p3, iv y0, iv y1, iv y2, iv y3, iv 4, rv b337, rv nm, rv b337] []) (fun _ k => XS.icmpNo X349.here hx rfl (hb hby at_207) rfl (teq (by decide : (4 : Int32) = (4 : Int32))).2 k) ?_
      refine own_to (T' := T349) (mkF m 211 #[iv p0, iv p1, iv p2, iv p3, iv y0, iv y1, iv y2, iv y3, iv 4, rv b337, rv nm, rv b337] [(.int (1 : Int32))]) (fun _ k => XS.iconst X349.here hx rfl (hb hby at_210) k) ?_
      refine own_to (T' := T349) (mkF m 215 #[iv p0, iv p1, iv p2, iv p3, iv y0, iv y1, iv y2, iv y3, iv 4, rv b337, rv nm, rv b337] [(.int (1 : Int32))]) (fun _ k => XS.goto X349.here hx rfl (pc0 := 211) (pc' := 215) rfl (hb hby at_211) (by decide) (by decide) k) ?_
      exact own_retNW (s := s) (vm₁ := T345.vm) X349 hS (by rw [e349]; exact hk1) hx (t := .boolean) Bd.returns (by simp) hlk (hb hby at_215) (by decide) (by decide) (by rw [e349]; exact ⟨rfl, N349⟩)
set_option maxRecDepth 65536 in
set_option maxHeartbeats 40000000 in
theorem own_comes {Post : Tables → Env → Array Value → State → Outcome → State → Prop} (hpost : ∀ tb e args s v u, (limb_1_1.after args s (.returned v) u = true ∧ limb_1_2.after args s (.returned v) u = true ∧ True) → ReturnedEndW s (.returned v) u (Jvm.fieldLocs frame_1_writes args s ++ Jvm.arrayLocs frame_1_arrays args s ++ Jvm.staticLocs frame_1_statics s) 24 1152 → Post tb e args s (.returned v) u) :
    ArmFor flags0 classFile x code maxLocals ret World_1 tables_1 room_1 Calls_1 rest_1 Pre_1 Post := by
  intro l hfl _ _ p e ha hc hk s m args below hf hA hF happ hP
  obtain ⟨hcalls, hrest, hpre⟩ := hP
  obtain ⟨-, -, -, hnamed, -, -, -, hat⟩ := (Spec.applies_iff hf).mp happ
  obtain ⟨hg, hn⟩ := and_e (Cond.before_iff.mp (show (Jvm.Cond.and given_1 narrow_1).before args s = true from hpre))
  obtain ⟨hg0, hgr0⟩ := and_e hg
  obtain ⟨hg1, hgr1⟩ := and_e hgr0
  obtain ⟨hg2, hgr2⟩ := and_e hgr1
  obtain ⟨hg3, hgr3⟩ := and_e hgr2
  obtain ⟨w0, w1, w2, w3, rfl⟩ : ∃ w0 w1 w2 w3 : Value, args = #[w0, w1, w2, w3] := by
    have hs : args.size = 4 := by simpa [Cond.value, given_1] using hg0
    obtain ⟨L⟩ := args
    match L, hs with
    | [w0, w1, w2, w3], _ => exact ⟨w0, w1, w2, w3, rfl⟩
  have hw := fun d (hd : d ∈ tables_1) => atoms_spec (ws := Jvm.Cond.code x code maxLocals ret :: tables_1) hat d (List.mem_cons_of_mem _ hd)
  have hfit : Fit s := fun {y c} hc i hi => by
    obtain ⟨ha, rfl⟩ := Array.getElem?_eq_some_iff.mp hc
    have q := List.all_eq_true.mp ((Array.all_eq_true_iff_forall_mem.mp hF) _ (Array.getElem_mem ha)) i (List.mem_range.mpr hi)
    simpa [Array.getElem?_eq_getElem hi] using q
  obtain ⟨i0, ei0⟩ := is_v hg1
  obtain rfl : w0 = (.int i0) := Option.some.inj ei0
  obtain ⟨i1, ei1⟩ := is_v hg2
  obtain rfl : w1 = (.int i1) := Option.some.inj ei1
  obtain ⟨i2, ei2⟩ := is_v hg3
  obtain rfl : w2 = (.int i2) := Option.some.inj ei2
  obtain ⟨i3, ei3⟩ := is_v hgr3
  obtain rfl : w3 = (.int i3) := Option.some.inj ei3
  obtain ⟨hsets, hown0⟩ := atoms_of _ (rest_1_c_eq ▸ (show rest_1_c.before _ s = true from hrest))
  have n5 := not_v (Cond.before_iff.mp (hsets _ (List.mem_of_getElem? (i := 2) rfl)))
  obtain ⟨G1, eG1⟩ := is_v (Cond.before_iff.mp (hsets _ (List.mem_of_getElem? (i := 1) rfl)))
  have O2 : Sta s s.heap "java/lang/String" "COMPACT_STRINGS" "Z" (.int G1) := Sta.start eG1 (Or.inl (hsets _ (List.mem_of_getElem? (i := 0) rfl)))
  have P5 : ¬ (G1 = (0 : Int32)) := gotF (Cond.eq_ints eG1 (Term.int_eval (0))) n5
  have OAD : Sta s s.heap "java/lang/StringUTF16" "$assertionsDisabled" "Z" (.int (1 : Int32)) := Sta.start (own_eqI (Cond.before_iff.mp (hsets _ (List.mem_of_getElem? (i := 12) rfl)))) (Or.inl (hsets _ (List.mem_of_getElem? (i := 11) rfl)))
  have OHI : Sta s s.heap "java/lang/StringUTF16" "HI_BYTE_SHIFT" "I" (.int (0 : Int32)) := Sta.start (own_eqI (Cond.before_iff.mp (hsets _ (List.mem_of_getElem? (i := 15) rfl)))) (Or.inl (hsets _ (List.mem_of_getElem? (i := 14) rfl)))
  have OLO : Sta s s.heap "java/lang/StringUTF16" "LO_BYTE_SHIFT" "I" (.int (8 : Int32)) := Sta.start (own_eqI (Cond.before_iff.mp (hsets _ (List.mem_of_getElem? (i := 18) rfl)))) (Or.inl (hsets _ (List.mem_of_getElem? (i := 17) rfl)))
  obtain ⟨n, o, h1, h2, h3, _, L, rfl, ⟨rfl, N⟩, hq⟩ := own_rm0 l s _ hw tables_1 i0 i1 i2 i3 G1 s.heap s.heap.size (Nat.le_refl _) (Old.start s) O2 P5 OAD OHI OLO p e ha hc hk s m _ below hf ((Spec.applies_iff_loose hf).mp happ).1 ⟨rfl, State.Warmed39.refl s, rfl⟩ trivial
  refine ⟨n, _, h1, h2, h3, hpost _ _ _ _ _ _ ⟨Cond.after_iff.mpr rfl, Cond.after_iff.mpr (eq_i res_at (Term.int_eval (1)) rfl), trivial⟩ ⟨hq.1, hq.2.1, hq.2.2.1, (hq.2.2.2.sift fun y hy => Or.inr (N y hy)).mono (by decide) (by decide)⟩⟩
theorem main_1_1 : Claimed_1_1 := own_comes fun _ _ _ _ _ _ h hF => ⟨h.1, hF⟩
theorem main_1_2 : Claimed_1_2 := own_comes fun _ _ _ _ _ _ h hF => ⟨h.2.1, hF⟩
end Jvm.Pilot.@@N@@
namespace Jvm.Pilot.@@N@@
open Jvm Jvm.ClassFile Sem Op Lib Jvm.Free Jvm.Stand Jvm.Pilot.@@N@@.Jvm.D
/-! MADE BY PROGRAM (witnessworld.py) out of the Statement's table words and the real class files: 21 classes; the members and pool entries that the words name. The judged class is class 1, her method 1. -/
namespace start1
open Jvm.ClassFile
def u (s : String) : CpInfo := .utf8 (stringToUtf16 s)
/-- a pool by its gaps: so many unusable entries, then the entry; so many at the end -/
def gap : Nat → List CpInfo → List CpInfo
  | 0, r => r
  | n + 1, r => .unusable :: gap n r
def poolList (es : List (Nat × CpInfo)) (last : Nat) : List CpInfo := es.foldr (fun e r => gap e.1 (e.2 :: r)) (gap last [])
def pool (es : List (Nat × CpInfo)) (last : Nat) : Array CpInfo := ⟨poolList es last⟩
def fileOf (pool : Array CpInfo) (this : Nat) (attrs : Array Attribute := #[]) (ms : Array MethodInfo := #[]) (fl : Nat := 33) (sup : Nat := 0) (ifs : Array Nat := #[]) (fds : Array FieldInfo := #[]) : ClassFile where
  minorVersion := 0
  majorVersion := 65
  constantPool := pool
  accessFlags := fl
  thisClass := this
  superClass := sup
  interfaces := ifs
  fields := fds
  methods := ms
  attributes := attrs
def plain (name : String) (sup : Option ClassId) : Class where
  name := name
  kind := .ordinary
  loader := none
  accessFlags := 33
  super := sup
  interfaces := #[]
  cf := none
  fields := #[]
  methods := #[]
  instanceTypes := #[]
  staticTypes := #[]
  resolved := #[]
  callSites := []
  init := .initialized
  statics := none
  mirror := none

def pool0 : Array CpInfo := pool [(5, u "<init>"), (0, u "()V"), (1, .class_ 10), (1, u "java/lang/Object")] 113

def k0c0 : Code := { maxStack := 0, maxLocals := 1, code := object_method_1_code, exceptionTable := #[], attributes := #[] }
def k0m0 : Method := { name := "<init>", desc := "()V", sig := { parameters := [], returnType := none }, accessFlags := 1, code := some k0c0 }
/-- java/lang/Object -/
def k0 : Class := { plain "java/lang/Object" none with
  accessFlags := 33
  interfaces := #[]
  cf := some (fileOf pool0 8 #[] #[{ accessFlags := 1, nameIndex := 5, descriptorIndex := 6, attributes := #[] }] 33 0 #[] #[])
  fields := #[]
  methods := #[k0m0]
  instanceTypes := #[]
  staticTypes := #[]
  resolved := Array.replicate 124 none
  statics := none }

def pool1 : Array CpInfo := pool [(2, .class_ 4), (1, u "java/lang/Object"), (0, u "<init>"), (0, u "()V"), (0, .integer 65535), (0, .class_ 9), (0, u "java/lang/String"), (0, .methodref 8 11), (0, .nameAndType 5 12), (0, u "([C)V"), (0, .integer 65536), (0, .string 15), (0, u ""), (0, .methodref 8 17), (0, .nameAndType 18 19), (0, u "valueOf"), (0, u "(C)Ljava/lang/String;"), (0, .methodref 21 22), (0, .class_ 23), (0, .nameAndType 24 25), (0, u "com/example/nuthatch/nuthatch/Arguments"), (0, u "requireNonEmpty"), (0, u "(Ljava/lang/String;Ljava/lang/String;)Ljava/lang/String;"), (0, .methodref 8 27), (0, .nameAndType 28 29), (0, u "length"), (0, u "()I"), (0, .class_ 31), (0, u "com/example/nuthatch/nuthatch/ArgumentsRequireNonEmptyPinLaw"), (2, u "law"), (0, u "(IIII)Z")] 3

def k1m0 : Method := { name := "<init>", desc := "()V", sig := { parameters := [], returnType := none }, accessFlags := 2, code := none }
def k1c1 : Code := { maxStack := 6, maxLocals := 12, code := code, exceptionTable := #[], attributes := #[] }
def k1m1 : Method := { name := "law", desc := "(IIII)Z", sig := { parameters := [.int, .int, .int, .int], returnType := some .boolean }, accessFlags := 9, code := some k1c1 }
/-- com/example/nuthatch/nuthatch/ArgumentsRequireNonEmptyPinLaw -/
def k1 : Class := { plain "com/example/nuthatch/nuthatch/ArgumentsRequireNonEmptyPinLaw" (some 0) with
  accessFlags := 49
  interfaces := #[]
  cf := some (fileOf pool1 30 #[] #[{ accessFlags := 2, nameIndex := 5, descriptorIndex := 6, attributes := #[] }, { accessFlags := 9, nameIndex := 34, descriptorIndex := 35, attributes := #[] }] 49 2 #[] #[])
  fields := #[]
  methods := #[k1m0, k1m1]
  instanceTypes := #[]
  staticTypes := #[]
  resolved := Array.replicate 39 none
  statics := none }

def pool2 : Array CpInfo := pool [(1, .class_ 2), (0, u "java/io/Serializable"), (0, .class_ 4), (0, u "java/lang/Object")] 2

/-- java/io/Serializable -/
def k2 : Class := { plain "java/io/Serializable" (some 0) with
  accessFlags := 1537
  interfaces := #[]
  cf := some (fileOf pool2 1 #[] #[] 1537 3 #[] #[])
  fields := #[]
  methods := #[]
  instanceTypes := #[]
  staticTypes := #[]
  resolved := Array.replicate 7 none
  statics := none }

def pool3 : Array CpInfo := pool [(1, .class_ 2), (0, u "java/lang/Comparable"), (0, .class_ 4), (0, u "java/lang/Object")] 7

/-- java/lang/Comparable -/
def k3 : Class := { plain "java/lang/Comparable" (some 0) with
  accessFlags := 1537
  interfaces := #[]
  cf := some (fileOf pool3 1 #[] #[] 1537 3 #[] #[])
  fields := #[]
  methods := #[]
  instanceTypes := #[]
  staticTypes := #[]
  resolved := Array.replicate 12 none
  statics := none }

def pool4 : Array CpInfo := pool [(2, .class_ 4), (1, u "java/lang/CharSequence"), (42, .class_ 48), (0, u "java/lang/CharSequence$1CodePointIterator"), (10, .class_ 60), (0, u "java/lang/CharSequence$1CharIterator"), (5, .class_ 67), (0, u "java/lang/Object")] 63

/-- java/lang/CharSequence -/
def k4 : Class := { plain "java/lang/CharSequence" (some 0) with
  accessFlags := 1537
  interfaces := #[]
  cf := some (fileOf pool4 2 #[.nestMembers #[47, 59]] #[] 1537 66 #[] #[])
  fields := #[]
  methods := #[]
  instanceTypes := #[]
  staticTypes := #[]
  resolved := Array.replicate 131 none
  statics := none }

def pool5 : Array CpInfo := pool [(1, .class_ 2), (0, u "java/lang/constant/Constable"), (0, .class_ 4), (0, u "java/lang/Object")] 6

/-- java/lang/constant/Constable -/
def k5 : Class := { plain "java/lang/constant/Constable" (some 0) with
  accessFlags := 1537
  interfaces := #[]
  cf := some (fileOf pool5 1 #[] #[] 1537 3 #[] #[])
  fields := #[]
  methods := #[]
  instanceTypes := #[]
  staticTypes := #[]
  resolved := Array.replicate 11 none
  statics := none }

def pool6 : Array CpInfo := pool [(1, .class_ 2), (0, u "java/lang/constant/ConstantDesc"), (0, .class_ 4), (0, u "java/lang/Object")] 32

/-- java/lang/constant/ConstantDesc -/
def k6 : Class := { plain "java/lang/constant/ConstantDesc" (some 0) with
  accessFlags := 1537
  interfaces := #[]
  cf := some (fileOf pool6 1 #[] #[] 1537 3 #[] #[])
  fields := #[]
  methods := #[]
  instanceTypes := #[]
  staticTypes := #[]
  resolved := Array.replicate 37 none
  statics := none }

def pool7 : Array CpInfo := pool [(1, .methodref 2 3), (0, .class_ 4), (0, .nameAndType 5 6), (0, u "java/lang/Object"), (0, u "<init>"), (0, u "()V"), (2, .fieldref 10 11), (0, .class_ 12), (0, .nameAndType 13 14), (0, u "java/lang/String"), (0, u "value"), (0, u "[B"), (0, .fieldref 10 16), (0, .nameAndType 17 18), (0, u "coder"), (0, u "B"), (2, u "hash"), (0, u "I"), (2, u "hashIsZero"), (0, u "Z"), (0, .methodref 10 28), (0, .nameAndType 5 29), (0, u "([CIILjava/lang/Void;)V"), (8, .fieldref 10 39), (0, .nameAndType 40 26), (0, u "COMPACT_STRINGS"), (1, .class_ 44), (1, u "java/lang/StringUTF16"), (0, u "compress"), (1, .methodref 42 48), (0, .nameAndType 49 50), (0, u "coderFromArrayLen"), (0, u "([BI)B"), (2, u "toBytes"), (53, .class_ 109), (1, u "java/lang/StringLatin1"), (32, u "()Z"), (34, .methodref 42 178), (0, .nameAndType 45 179), (0, u "([CII)[B"), (29, .methodref 10 210), (0, .nameAndType 5 211), (0, u "([BB)V"), (122, u "()I"), (0, .methodref 10 336), (0, .nameAndType 17 337), (0, u "()B"), (31, u "(C)Z"), (137, u "length"), (67, .class_ 576), (0, u "java/lang/CharSequence"), (22, u "CASE_INSENSITIVE_ORDER"), (0, u "Ljava/util/Comparator;"), (91, u "isEmpty"), (89, u "valueOf"), (0, u "(C)Ljava/lang/String;"), (226, u "([C)V"), (4, .methodref 107 1016), (0, .nameAndType 1017 369), (0, u "canEncode"), (0, .methodref 107 1019), (0, .nameAndType 53 1020), (0, u "(C)[B"), (0, .methodref 42 1019), (79, u "serialPersistentFields"), (0, u "[Ljava/io/ObjectStreamField;"), (0, .class_ 1104), (0, u "java/lang/String$CaseInsensitiveComparator"), (1, .class_ 1107), (0, u "java/io/Serializable"), (0, .class_ 1109), (0, u "java/lang/Comparable"), (0, .class_ 1111), (0, u "java/lang/constant/Constable"), (0, .class_ 1113), (0, u "java/lang/constant/ConstantDesc"), (2, u "serialVersionUID"), (0, u "J"), (3, u "REPL"), (0, u "C"), (2, u "LATIN1"), (1, u "UTF16")] 323

def k7m0 : Method := { name := "<init>", desc := "()V", sig := { parameters := [], returnType := none }, accessFlags := 1, code := none }
def k7c1 : Code := { maxStack := 5, maxLocals := 2, code := jdk_42_method_3_code, exceptionTable := #[], attributes := #[] }
def k7m1 : Method := { name := "<init>", desc := "([C)V", sig := { parameters := [(.array .char)], returnType := none }, accessFlags := 1, code := some k7c1 }
def k7c2 : Code := { maxStack := 2, maxLocals := 1, code := jdk_42_method_54_code, exceptionTable := #[], attributes := #[] }
def k7m2 : Method := { name := "length", desc := "()I", sig := { parameters := [], returnType := some .int }, accessFlags := 1, code := some k7c2 }
def k7c3 : Code := { maxStack := 1, maxLocals := 1, code := jdk_42_method_55_code, exceptionTable := #[], attributes := #[] }
def k7m3 : Method := { name := "isEmpty", desc := "()Z", sig := { parameters := [], returnType := some .boolean }, accessFlags := 1, code := some k7c3 }
def k7c4 : Code := { maxStack := 4, maxLocals := 1, code := jdk_42_method_139_code, exceptionTable := #[], attributes := #[] }
def k7m4 : Method := { name := "valueOf", desc := "(C)Ljava/lang/String;", sig := { parameters := [.char], returnType := some (.object "java/lang/String") }, accessFlags := 9, code := some k7c4 }
def k7c5 : Code := { maxStack := 4, maxLocals := 6, code := jdk_42_method_149_code, exceptionTable := #[], attributes := #[] }
def k7m5 : Method := { name := "<init>", desc := "([CIILjava/lang/Void;)V", sig := { parameters := [(.array .char), .int, .int, (.object "java/lang/Void")], returnType := none }, accessFlags := 2, code := some k7c5 }
def k7c6 : Code := { maxStack := 2, maxLocals := 3, code := jdk_42_method_151_code, exceptionTable := #[], attributes := #[] }
def k7m6 : Method := { name := "<init>", desc := "([BB)V", sig := { parameters := [(.array .byte), .byte], returnType := none }, accessFlags := 0, code := some k7c6 }
def k7c7 : Code := { maxStack := 1, maxLocals := 1, code := jdk_42_method_152_code, exceptionTable := #[], attributes := #[] }
def k7m7 : Method := { name := "coder", desc := "()B", sig := { parameters := [], returnType := some .byte }, accessFlags := 0, code := some k7c7 }
/-- java/lang/String -/
def k7 : Class := { plain "java/lang/String" (some 0) with
  accessFlags := 49
  interfaces := #[2, 3, 4, 5, 6]
  cf := some (fileOf pool7 10 #[.nestMembers #[1103]] #[{ accessFlags := 1, nameIndex := 5, descriptorIndex := 6, attributes := #[] }, { accessFlags := 1, nameIndex := 5, descriptorIndex := 1010, attributes := #[] }, { accessFlags := 1, nameIndex := 507, descriptorIndex := 334, attributes := #[] }, { accessFlags := 1, nameIndex := 692, descriptorIndex := 142, attributes := #[] }, { accessFlags := 9, nameIndex := 782, descriptorIndex := 783, attributes := #[] }, { accessFlags := 2, nameIndex := 5, descriptorIndex := 29, attributes := #[] }, { accessFlags := 0, nameIndex := 5, descriptorIndex := 211, attributes := #[] }, { accessFlags := 0, nameIndex := 17, descriptorIndex := 337, attributes := #[] }] 49 2 #[1106, 1108, 575, 1110, 1112] #[{ accessFlags := 18, nameIndex := 13, descriptorIndex := 14, attributes := #[] }, { accessFlags := 18, nameIndex := 17, descriptorIndex := 18, attributes := #[] }, { accessFlags := 2, nameIndex := 21, descriptorIndex := 22, attributes := #[] }, { accessFlags := 2, nameIndex := 25, descriptorIndex := 26, attributes := #[] }, { accessFlags := 26, nameIndex := 1116, descriptorIndex := 1117, attributes := #[] }, { accessFlags := 24, nameIndex := 40, descriptorIndex := 26, attributes := #[] }, { accessFlags := 26, nameIndex := 1101, descriptorIndex := 1102, attributes := #[] }, { accessFlags := 26, nameIndex := 1121, descriptorIndex := 1122, attributes := #[] }, { accessFlags := 25, nameIndex := 599, descriptorIndex := 600, attributes := #[] }, { accessFlags := 24, nameIndex := 1125, descriptorIndex := 18, attributes := #[] }, { accessFlags := 24, nameIndex := 1127, descriptorIndex := 18, attributes := #[] }])
  fields := #[{ name := "value", type := (.array .byte), accessFlags := 18, slot := 0, constantValue := 0 }, { name := "coder", type := .byte, accessFlags := 18, slot := 1, constantValue := 0 }, { name := "hash", type := .int, accessFlags := 2, slot := 2, constantValue := 0 }, { name := "hashIsZero", type := .boolean, accessFlags := 2, slot := 3, constantValue := 0 }, { name := "serialVersionUID", type := .long, accessFlags := 26, slot := 0, constantValue := 0 }, { name := "COMPACT_STRINGS", type := .boolean, accessFlags := 24, slot := 1, constantValue := 0 }, { name := "serialPersistentFields", type := (.array (.object "java/io/ObjectStreamField")), accessFlags := 26, slot := 2, constantValue := 0 }, { name := "REPL", type := .char, accessFlags := 26, slot := 3, constantValue := 0 }, { name := "CASE_INSENSITIVE_ORDER", type := (.object "java/util/Comparator"), accessFlags := 25, slot := 4, constantValue := 0 }, { name := "LATIN1", type := .byte, accessFlags := 24, slot := 5, constantValue := 0 }, { name := "UTF16", type := .byte, accessFlags := 24, slot := 6, constantValue := 0 }]
  methods := #[k7m0, k7m1, k7m2, k7m3, k7m4, k7m5, k7m6, k7m7]
  instanceTypes := #[(.array .byte), .byte, .int, .boolean]
  staticTypes := #[.long, .boolean, (.array (.object "java/io/ObjectStreamField")), .char, (.object "java/util/Comparator"), .byte, .byte]
  resolved := Array.replicate 1451 none
  statics := some 0 }

def pool8 : Array CpInfo := pool [(6, .class_ 8), (1, u "java/lang/Object"), (0, u "<init>"), (0, u "()V"), (0, .methodref 12 13), (0, .class_ 14), (0, .nameAndType 15 16), (0, u "java/lang/StringUTF16"), (0, u "newBytesLength"), (0, u "(I)I"), (3, .integer 1073741823), (23, .fieldref 12 45), (0, .nameAndType 46 47), (0, u "$assertionsDisabled"), (0, u "Z"), (11, .fieldref 12 60), (0, .nameAndType 61 62), (0, u "HI_BYTE_SHIFT"), (0, u "I"), (0, .fieldref 12 64), (0, .nameAndType 65 62), (0, u "LO_BYTE_SHIFT"), (5, .methodref 12 72), (0, .nameAndType 73 74), (0, u "getChar"), (0, u "([BI)C"), (32, .methodref 12 108), (0, .nameAndType 109 110), (0, u "newBytesFor"), (0, u "(I)[B"), (0, .methodref 12 112), (0, .nameAndType 113 114), (0, u "putChar"), (0, u "([BII)V"), (0, .methodref 12 116), (0, .nameAndType 117 118), (0, u "compress"), (0, u "([CI[BII)I"), (0, .methodref 12 120), (0, .nameAndType 121 122), (0, u "toBytes"), (0, u "([CII)[B"), (138, u "coderFromArrayLen"), (0, u "([BI)B"), (106, .class_ 371), (1, u "java/lang/StringUTF16$LinesSpliterator"), (58, u "MAX_LENGTH"), (44, u "(C)[B"), (151, .class_ 628), (0, u "java/lang/StringUTF16$CodePointsSpliterator"), (0, .class_ 630), (0, u "java/lang/StringUTF16$CharsSpliterator")] 4

def k8m0 : Method := { name := "<init>", desc := "()V", sig := { parameters := [], returnType := none }, accessFlags := 0, code := none }
def k8c1 : Code := { maxStack := 1, maxLocals := 1, code := jdk_52_method_2_code, exceptionTable := #[], attributes := #[] }
def k8m1 : Method := { name := "newBytesFor", desc := "(I)[B", sig := { parameters := [.int], returnType := some (.array .byte) }, accessFlags := 9, code := some k8c1 }
def k8c2 : Code := { maxStack := 4, maxLocals := 1, code := jdk_52_method_3_code, exceptionTable := #[], attributes := #[] }
def k8m2 : Method := { name := "newBytesLength", desc := "(I)I", sig := { parameters := [.int], returnType := some .int }, accessFlags := 9, code := some k8c2 }
def k8c3 : Code := { maxStack := 4, maxLocals := 3, code := jdk_52_method_4_code, exceptionTable := #[], attributes := #[] }
def k8m3 : Method := { name := "putChar", desc := "([BII)V", sig := { parameters := [(.array .byte), .int, .int], returnType := none }, accessFlags := 8, code := some k8c3 }
def k8c4 : Code := { maxStack := 3, maxLocals := 2, code := jdk_52_method_5_code, exceptionTable := #[], attributes := #[] }
def k8m4 : Method := { name := "getChar", desc := "([BI)C", sig := { parameters := [(.array .byte), .int], returnType := some .char }, accessFlags := 8, code := some k8c4 }
def k8c5 : Code := { maxStack := 4, maxLocals := 5, code := jdk_52_method_14_code, exceptionTable := #[], attributes := #[] }
def k8m5 : Method := { name := "toBytes", desc := "([CII)[B", sig := { parameters := [(.array .char), .int, .int], returnType := some (.array .byte) }, accessFlags := 9, code := some k8c5 }
def k8c6 : Code := { maxStack := 2, maxLocals := 2, code := jdk_52_method_15_code, exceptionTable := #[], attributes := #[] }
def k8m6 : Method := { name := "coderFromArrayLen", desc := "([BI)B", sig := { parameters := [(.array .byte), .int], returnType := some .byte }, accessFlags := 8, code := some k8c6 }
def k8c7 : Code := { maxStack := 5, maxLocals := 6, code := jdk_52_method_16_code, exceptionTable := #[], attributes := #[] }
def k8m7 : Method := { name := "compress", desc := "([CII)[B", sig := { parameters := [(.array .char), .int, .int], returnType := some (.array .byte) }, accessFlags := 9, code := some k8c7 }
def k8c8 : Code := { maxStack := 3, maxLocals := 7, code := jdk_52_method_21_code, exceptionTable := #[], attributes := #[] }
def k8m8 : Method := { name := "compress", desc := "([CI[BII)I", sig := { parameters := [(.array .char), .int, (.array .byte), .int, .int], returnType := some .int }, accessFlags := 9, code := some k8c8 }
def k8c9 : Code := { maxStack := 3, maxLocals := 2, code := jdk_52_method_24_code, exceptionTable := #[], attributes := #[] }
def k8m9 : Method := { name := "toBytes", desc := "(C)[B", sig := { parameters := [.char], returnType := some (.array .byte) }, accessFlags := 9, code := some k8c9 }
/-- java/lang/StringUTF16 -/
def k8 : Class := { plain "java/lang/StringUTF16" (some 0) with
  accessFlags := 48
  interfaces := #[]
  cf := some (fileOf pool8 12 #[.nestMembers #[627, 629, 369]] #[{ accessFlags := 0, nameIndex := 9, descriptorIndex := 10, attributes := #[] }, { accessFlags := 9, nameIndex := 109, descriptorIndex := 110, attributes := #[] }, { accessFlags := 9, nameIndex := 15, descriptorIndex := 16, attributes := #[] }, { accessFlags := 8, nameIndex := 113, descriptorIndex := 114, attributes := #[] }, { accessFlags := 8, nameIndex := 73, descriptorIndex := 74, attributes := #[] }, { accessFlags := 9, nameIndex := 121, descriptorIndex := 122, attributes := #[] }, { accessFlags := 8, nameIndex := 261, descriptorIndex := 262, attributes := #[] }, { accessFlags := 9, nameIndex := 117, descriptorIndex := 122, attributes := #[] }, { accessFlags := 9, nameIndex := 117, descriptorIndex := 118, attributes := #[] }, { accessFlags := 9, nameIndex := 121, descriptorIndex := 475, attributes := #[] }] 48 6 #[] #[{ accessFlags := 26, nameIndex := 61, descriptorIndex := 62, attributes := #[] }, { accessFlags := 26, nameIndex := 65, descriptorIndex := 62, attributes := #[] }, { accessFlags := 24, nameIndex := 430, descriptorIndex := 62, attributes := #[] }, { accessFlags := 4120, nameIndex := 46, descriptorIndex := 47, attributes := #[] }])
  fields := #[{ name := "HI_BYTE_SHIFT", type := .int, accessFlags := 26, slot := 0, constantValue := 0 }, { name := "LO_BYTE_SHIFT", type := .int, accessFlags := 26, slot := 1, constantValue := 0 }, { name := "MAX_LENGTH", type := .int, accessFlags := 24, slot := 2, constantValue := 0 }, { name := "$assertionsDisabled", type := .boolean, accessFlags := 4120, slot := 3, constantValue := 0 }]
  methods := #[k8m0, k8m1, k8m2, k8m3, k8m4, k8m5, k8m6, k8m7, k8m8, k8m9]
  instanceTypes := #[]
  staticTypes := #[.int, .int, .int, .boolean]
  resolved := Array.replicate 635 none
  statics := some 1 }

def pool9 : Array CpInfo := pool [(4, .class_ 6), (1, u "java/lang/Object"), (0, u "<init>"), (0, u "()V"), (5, .class_ 16), (1, u "java/lang/StringLatin1"), (73, u "canEncode"), (14, u "(C)Z"), (15, u "$assertionsDisabled"), (0, u "Z"), (98, .class_ 223), (1, u "java/lang/StringLatin1$LinesSpliterator"), (156, u "toBytes"), (1, u "(C)[B"), (7, .class_ 391), (0, u "java/lang/StringLatin1$CharsSpliterator")] 3

def k9m0 : Method := { name := "<init>", desc := "()V", sig := { parameters := [], returnType := none }, accessFlags := 0, code := none }
def k9c1 : Code := { maxStack := 2, maxLocals := 1, code := jdk_43_method_3_code, exceptionTable := #[], attributes := #[] }
def k9m1 : Method := { name := "canEncode", desc := "(C)Z", sig := { parameters := [.char], returnType := some .boolean }, accessFlags := 9, code := some k9c1 }
def k9c2 : Code := { maxStack := 4, maxLocals := 1, code := jdk_43_method_46_code, exceptionTable := #[], attributes := #[] }
def k9m2 : Method := { name := "toBytes", desc := "(C)[B", sig := { parameters := [.char], returnType := some (.array .byte) }, accessFlags := 9, code := some k9c2 }
/-- java/lang/StringLatin1 -/
def k9 : Class := { plain "java/lang/StringLatin1" (some 0) with
  accessFlags := 48
  interfaces := #[]
  cf := some (fileOf pool9 14 #[.nestMembers #[390, 221]] #[{ accessFlags := 0, nameIndex := 7, descriptorIndex := 8, attributes := #[] }, { accessFlags := 9, nameIndex := 90, descriptorIndex := 105, attributes := #[] }, { accessFlags := 9, nameIndex := 380, descriptorIndex := 382, attributes := #[] }] 48 4 #[] #[{ accessFlags := 4120, nameIndex := 121, descriptorIndex := 122, attributes := #[] }])
  fields := #[{ name := "$assertionsDisabled", type := .boolean, accessFlags := 4120, slot := 0, constantValue := 0 }]
  methods := #[k9m0, k9m1, k9m2]
  instanceTypes := #[]
  staticTypes := #[.boolean]
  resolved := Array.replicate 395 none
  statics := none }

def pool10 : Array CpInfo := pool [(2, .class_ 4), (1, u "java/lang/Object"), (0, u "<init>"), (0, u "()V"), (0, .methodref 8 9), (0, .class_ 10), (0, .nameAndType 11 12), (0, u "java/util/Objects"), (0, u "requireNonNull"), (0, u "(Ljava/lang/Object;Ljava/lang/String;)Ljava/lang/Object;"), (0, .methodref 14 15), (0, .class_ 16), (0, .nameAndType 17 18), (0, u "java/lang/String"), (0, u "isEmpty"), (0, u "()Z"), (9, .class_ 29), (0, u "com/example/nuthatch/nuthatch/Arguments"), (54, u "LARGEST_MILLIS"), (0, u "Ljava/time/Duration;"), (8, u "(Ljava/lang/String;Ljava/lang/String;)Ljava/lang/String;"), (15, u "LARGEST"), (0, u "J"), (1, u "LONGEST_FILL"), (0, u "NANOS_PER_MILLI"), (0, u "I"), (2, u "requireNonEmpty")] 35

def k10m0 : Method := { name := "<init>", desc := "()V", sig := { parameters := [], returnType := none }, accessFlags := 2, code := none }
def k10c1 : Code := { maxStack := 3, maxLocals := 2, code := prog_1_method_2_code, exceptionTable := #[], attributes := #[] }
def k10m1 : Method := { name := "requireNonEmpty", desc := "(Ljava/lang/String;Ljava/lang/String;)Ljava/lang/String;", sig := { parameters := [(.object "java/lang/String"), (.object "java/lang/String")], returnType := some (.object "java/lang/String") }, accessFlags := 8, code := some k10c1 }
/-- com/example/nuthatch/nuthatch/Arguments -/
def k10 : Class := { plain "com/example/nuthatch/nuthatch/Arguments" (some 0) with
  accessFlags := 32
  interfaces := #[]
  cf := some (fileOf pool10 28 #[] #[{ accessFlags := 2, nameIndex := 5, descriptorIndex := 6, attributes := #[] }, { accessFlags := 8, nameIndex := 118, descriptorIndex := 94, attributes := #[] }] 32 2 #[] #[{ accessFlags := 24, nameIndex := 110, descriptorIndex := 111, attributes := #[] }, { accessFlags := 24, nameIndex := 113, descriptorIndex := 111, attributes := #[] }, { accessFlags := 26, nameIndex := 114, descriptorIndex := 115, attributes := #[] }, { accessFlags := 26, nameIndex := 84, descriptorIndex := 85, attributes := #[] }])
  fields := #[{ name := "LARGEST", type := .long, accessFlags := 24, slot := 0, constantValue := 0 }, { name := "LONGEST_FILL", type := .long, accessFlags := 24, slot := 1, constantValue := 0 }, { name := "NANOS_PER_MILLI", type := .int, accessFlags := 26, slot := 2, constantValue := 0 }, { name := "LARGEST_MILLIS", type := (.object "java/time/Duration"), accessFlags := 26, slot := 3, constantValue := 0 }]
  methods := #[k10m0, k10m1]
  instanceTypes := #[]
  staticTypes := #[.long, .long, .int, (.object "java/time/Duration")]
  resolved := Array.replicate 154 none
  statics := none }

def pool11 : Array CpInfo := pool [(2, .class_ 4), (1, u "java/lang/Object"), (0, u "<init>"), (0, u "()V"), (35, .class_ 44), (1, u "java/util/Objects"), (0, u "requireNonNull"), (48, u "(Ljava/lang/Object;Ljava/lang/String;)Ljava/lang/Object;")] 89

def k11m0 : Method := { name := "<init>", desc := "()V", sig := { parameters := [], returnType := none }, accessFlags := 2, code := none }
def k11c1 : Code := { maxStack := 3, maxLocals := 2, code := jdk_31_method_11_code, exceptionTable := #[], attributes := #[] }
def k11m1 : Method := { name := "requireNonNull", desc := "(Ljava/lang/Object;Ljava/lang/String;)Ljava/lang/Object;", sig := { parameters := [(.object "java/lang/Object"), (.object "java/lang/String")], returnType := some (.object "java/lang/Object") }, accessFlags := 9, code := some k11c1 }
/-- java/util/Objects -/
def k11 : Class := { plain "java/util/Objects" (some 0) with
  accessFlags := 49
  interfaces := #[]
  cf := some (fileOf pool11 42 #[] #[{ accessFlags := 2, nameIndex := 5, descriptorIndex := 6, attributes := #[] }, { accessFlags := 9, nameIndex := 45, descriptorIndex := 94, attributes := #[] }] 49 2 #[] #[])
  fields := #[]
  methods := #[k11m0, k11m1]
  instanceTypes := #[]
  staticTypes := #[]
  resolved := Array.replicate 184 none
  statics := none }

def pool12 : Array CpInfo := pool [(2, .class_ 4), (1, u "java/lang/Object"), (0, u "<init>"), (0, u "()V"), (17, .class_ 26), (1, u "jdk/internal/util/Preconditions"), (28, .class_ 56), (0, u "jdk/internal/util/Preconditions$4"), (57, .class_ 115), (0, u "jdk/internal/util/Preconditions$1"), (7, u "SIOOBE_FORMATTER"), (0, u "Ljava/util/function/BiFunction;"), (0, .class_ 126), (0, u "jdk/internal/util/Preconditions$2"), (3, u "AIOOBE_FORMATTER"), (0, .class_ 132), (0, u "jdk/internal/util/Preconditions$3"), (3, u "IOOBE_FORMATTER")] 57

def k12m0 : Method := { name := "<init>", desc := "()V", sig := { parameters := [], returnType := none }, accessFlags := 1, code := none }
/-- jdk/internal/util/Preconditions -/
def k12 : Class := { plain "jdk/internal/util/Preconditions" (some 0) with
  accessFlags := 33
  interfaces := #[]
  cf := some (fileOf pool12 24 #[.nestMembers #[55, 131, 125, 114]] #[{ accessFlags := 1, nameIndex := 5, descriptorIndex := 6, attributes := #[] }] 33 2 #[] #[{ accessFlags := 25, nameIndex := 123, descriptorIndex := 124, attributes := #[] }, { accessFlags := 25, nameIndex := 130, descriptorIndex := 124, attributes := #[] }, { accessFlags := 25, nameIndex := 136, descriptorIndex := 124, attributes := #[] }])
  fields := #[{ name := "SIOOBE_FORMATTER", type := (.object "java/util/function/BiFunction"), accessFlags := 25, slot := 0, constantValue := 0 }, { name := "AIOOBE_FORMATTER", type := (.object "java/util/function/BiFunction"), accessFlags := 25, slot := 1, constantValue := 0 }, { name := "IOOBE_FORMATTER", type := (.object "java/util/function/BiFunction"), accessFlags := 25, slot := 2, constantValue := 0 }]
  methods := #[k12m0]
  instanceTypes := #[]
  staticTypes := #[(.object "java/util/function/BiFunction"), (.object "java/util/function/BiFunction"), (.object "java/util/function/BiFunction")]
  resolved := Array.replicate 194 none
  statics := some 2 }

def pool13 : Array CpInfo := pool [(9, u "<init>"), (6, .class_ 18), (1, u "java/lang/Object"), (0, u "()V"), (1, .class_ 23), (1, u "jdk/internal/util/ArraysSupport"), (0, u "LOG2_ARRAY_LONG_INDEX_SCALE"), (0, u "I"), (2, u "U"), (0, u "Ljdk/internal/misc/Unsafe;"), (8, u "BIG_ENDIAN"), (0, u "Z"), (8, u "LOG2_BYTE_BIT_SIZE"), (4, u "LOG2_ARRAY_INT_INDEX_SCALE"), (54, u "JLA"), (0, u "Ljdk/internal/access/JavaLangAccess;"), (11, u "LOG2_ARRAY_BOOLEAN_INDEX_SCALE"), (9, u "LOG2_ARRAY_BYTE_INDEX_SCALE"), (5, u "LOG2_ARRAY_CHAR_INDEX_SCALE"), (5, u "LOG2_ARRAY_SHORT_INDEX_SCALE"), (18, u "LOG2_ARRAY_FLOAT_INDEX_SCALE"), (24, u "LOG2_ARRAY_DOUBLE_INDEX_SCALE"), (89, u "T_BOOLEAN"), (2, u "T_CHAR"), (1, u "T_FLOAT"), (1, u "T_DOUBLE"), (1, u "T_BYTE"), (1, u "T_SHORT"), (1, u "T_INT"), (1, u "T_LONG"), (1, u "SOFT_MAX_ARRAY_LENGTH")] 83

def k13m0 : Method := { name := "<init>", desc := "()V", sig := { parameters := [], returnType := none }, accessFlags := 2, code := none }
/-- jdk/internal/util/ArraysSupport -/
def k13 : Class := { plain "jdk/internal/util/ArraysSupport" (some 0) with
  accessFlags := 33
  interfaces := #[]
  cf := some (fileOf pool13 21 #[] #[{ accessFlags := 2, nameIndex := 9, descriptorIndex := 19, attributes := #[] }] 33 16 #[] #[{ accessFlags := 24, nameIndex := 28, descriptorIndex := 29, attributes := #[] }, { accessFlags := 26, nameIndex := 38, descriptorIndex := 39, attributes := #[] }, { accessFlags := 25, nameIndex := 121, descriptorIndex := 25, attributes := #[] }, { accessFlags := 25, nameIndex := 131, descriptorIndex := 25, attributes := #[] }, { accessFlags := 25, nameIndex := 137, descriptorIndex := 25, attributes := #[] }, { accessFlags := 25, nameIndex := 143, descriptorIndex := 25, attributes := #[] }, { accessFlags := 25, nameIndex := 53, descriptorIndex := 25, attributes := #[] }, { accessFlags := 25, nameIndex := 24, descriptorIndex := 25, attributes := #[] }, { accessFlags := 25, nameIndex := 162, descriptorIndex := 25, attributes := #[] }, { accessFlags := 25, nameIndex := 187, descriptorIndex := 25, attributes := #[] }, { accessFlags := 26, nameIndex := 48, descriptorIndex := 25, attributes := #[] }, { accessFlags := 25, nameIndex := 277, descriptorIndex := 25, attributes := #[] }, { accessFlags := 25, nameIndex := 280, descriptorIndex := 25, attributes := #[] }, { accessFlags := 25, nameIndex := 282, descriptorIndex := 25, attributes := #[] }, { accessFlags := 25, nameIndex := 284, descriptorIndex := 25, attributes := #[] }, { accessFlags := 25, nameIndex := 286, descriptorIndex := 25, attributes := #[] }, { accessFlags := 25, nameIndex := 288, descriptorIndex := 25, attributes := #[] }, { accessFlags := 25, nameIndex := 290, descriptorIndex := 25, attributes := #[] }, { accessFlags := 25, nameIndex := 292, descriptorIndex := 25, attributes := #[] }, { accessFlags := 26, nameIndex := 108, descriptorIndex := 109, attributes := #[] }, { accessFlags := 25, nameIndex := 294, descriptorIndex := 25, attributes := #[] }])
  fields := #[{ name := "U", type := (.object "jdk/internal/misc/Unsafe"), accessFlags := 24, slot := 0, constantValue := 0 }, { name := "BIG_ENDIAN", type := .boolean, accessFlags := 26, slot := 1, constantValue := 0 }, { name := "LOG2_ARRAY_BOOLEAN_INDEX_SCALE", type := .int, accessFlags := 25, slot := 2, constantValue := 0 }, { name := "LOG2_ARRAY_BYTE_INDEX_SCALE", type := .int, accessFlags := 25, slot := 3, constantValue := 0 }, { name := "LOG2_ARRAY_CHAR_INDEX_SCALE", type := .int, accessFlags := 25, slot := 4, constantValue := 0 }, { name := "LOG2_ARRAY_SHORT_INDEX_SCALE", type := .int, accessFlags := 25, slot := 5, constantValue := 0 }, { name := "LOG2_ARRAY_INT_INDEX_SCALE", type := .int, accessFlags := 25, slot := 6, constantValue := 0 }, { name := "LOG2_ARRAY_LONG_INDEX_SCALE", type := .int, accessFlags := 25, slot := 7, constantValue := 0 }, { name := "LOG2_ARRAY_FLOAT_INDEX_SCALE", type := .int, accessFlags := 25, slot := 8, constantValue := 0 }, { name := "LOG2_ARRAY_DOUBLE_INDEX_SCALE", type := .int, accessFlags := 25, slot := 9, constantValue := 0 }, { name := "LOG2_BYTE_BIT_SIZE", type := .int, accessFlags := 26, slot := 10, constantValue := 0 }, { name := "T_BOOLEAN", type := .int, accessFlags := 25, slot := 11, constantValue := 0 }, { name := "T_CHAR", type := .int, accessFlags := 25, slot := 12, constantValue := 0 }, { name := "T_FLOAT", type := .int, accessFlags := 25, slot := 13, constantValue := 0 }, { name := "T_DOUBLE", type := .int, accessFlags := 25, slot := 14, constantValue := 0 }, { name := "T_BYTE", type := .int, accessFlags := 25, slot := 15, constantValue := 0 }, { name := "T_SHORT", type := .int, accessFlags := 25, slot := 16, constantValue := 0 }, { name := "T_INT", type := .int, accessFlags := 25, slot := 17, constantValue := 0 }, { name := "T_LONG", type := .int, accessFlags := 25, slot := 18, constantValue := 0 }, { name := "JLA", type := (.object "jdk/internal/access/JavaLangAccess"), accessFlags := 26, slot := 19, constantValue := 0 }, { name := "SOFT_MAX_ARRAY_LENGTH", type := .int, accessFlags := 25, slot := 20, constantValue := 0 }]
  methods := #[k13m0]
  instanceTypes := #[]
  staticTypes := #[(.object "jdk/internal/misc/Unsafe"), .boolean, .int, .int, .int, .int, .int, .int, .int, .int, .int, .int, .int, .int, .int, .int, .int, .int, .int, (.object "jdk/internal/access/JavaLangAccess"), .int]
  resolved := Array.replicate 378 none
  statics := none }

def pool14 : Array CpInfo := pool [(1, u "java/lang/Cloneable"), (0, .class_ 1), (0, u "java/lang/Object"), (0, .class_ 3)] 3

/-- java/lang/Cloneable -/
def k14 : Class := { plain "java/lang/Cloneable" (some 0) with
  accessFlags := 1537
  interfaces := #[]
  cf := some (fileOf pool14 2 #[] #[] 1537 4 #[] #[])
  fields := #[]
  methods := #[]
  instanceTypes := #[]
  staticTypes := #[]
  resolved := Array.replicate 8 none
  statics := none }

/-- the primitive byte -/
def k15 : Class := { plain "byte" none with kind := .primitive 'B', accessFlags := 0x411 }
/-- [B -/
def k16 : Class := { plain "[B" (some 0) with kind := .array 15 .byte, interfaces := #[14, 2], accessFlags := 1041 }

/-- the primitive char -/
def k17 : Class := { plain "char" none with kind := .primitive 'C', accessFlags := 0x411 }
/-- [C -/
def k18 : Class := { plain "[C" (some 0) with kind := .array 17 .char, interfaces := #[14, 2], accessFlags := 1041 }

/-- the primitive int -/
def k19 : Class := { plain "int" none with kind := .primitive 'I', accessFlags := 0x411 }
/-- [I -/
def k20 : Class := { plain "[I" (some 0) with kind := .array 19 .int, interfaces := #[14, 2], accessFlags := 1041 }

def heap : Heap := #[{ cls := 7, slots := #[.long 0, .int 1, .null, .int 0, .null, .int 0, .int 0], vm := .statics 7 },
  { cls := 8, slots := #[.int 0, .int 8, .int 0, .int 1], vm := .statics 8 },
  { cls := 12, slots := #[.null, .null, .null], vm := .statics 12 }]
def classes : Array Class := #[k0, k1, k2, k3, k4, k5, k6, k7, k8, k9, k10, k11, k12, k13, k14, k15, k16, k17, k18, k19, k20]
def interned : List (Array UInt16 × Addr) := []
def slotsUsed : Nat := 14
def theMethod : MethodId := ⟨1, 1⟩
def args0 : Array Value := #[.int 5, .int 3, .int 2, .int 70]
def aboutOver (below : List Frame) : State where
  vm := { classes := classes, interned := interned.toArray }
  heap := heap
  slotsUsed := slotsUsed
  threads := #[{ frames := .invoking theMethod args0 :: below }]
def below0 : List Frame := [.native { method := ⟨0, 0⟩, args := #[] }]
def about1 : State := aboutOver below0
def p0 : Program := .bare "" "" ""
def e0 : Env := launch0.env 0 0 0
theorem w_frames : about1.frames = Frame.invoking theMethod args0 :: below0 := rfl
set_option maxRecDepth 65536 in
theorem w_args : argsFit about1.vm theMethod args0 = true := by decide +kernel
set_option maxRecDepth 65536 in
theorem w_heap : heapFits about1 = true := by decide +kernel
set_option maxRecDepth 65536 in
theorem w_runnable : about1.curStatus? = some .runnable := by decide +kernel
set_option maxRecDepth 65536 in
theorem w_alone : about1.alone = true := by decide +kernel
set_option maxRecDepth 65536 in
theorem w_named : about1.methodNamed? x = some theMethod := by decide +kernel
set_option maxRecDepth 65536 in
theorem w_hears : about1.hears theMethod below0 = true := by decide +kernel
set_option maxRecDepth 65536 in
theorem w_ripe : about1.ripe theMethod args0 below0 = true := by decide +kernel
theorem w_running : about1.status = .running := rfl
set_option maxRecDepth 65536 in
theorem w_room : about1.hasRoom e0.platform room_1 = true :=
  launch0.hasRoom_least _ room_1 (by decide +kernel) (by decide +kernel) (by decide +kernel) (by decide +kernel) (by decide +kernel) (by decide +kernel)
theorem allAtoms_all (ts : List Jvm.Cond) (a : Array Jvm.Value) (st : Jvm.State) : (allAtoms ts).before a st = ts.all (fun c => c.before a st) := by
  induction ts with
  | nil => rfl
  | cons c t ih =>
    show (Jvm.Cond.and c (allAtoms t)).before a st = _
    rw [Jvm.Cond.before_and, ih, List.all_cons]
def words1 : List Jvm.Cond := Jvm.Cond.code x code maxLocals ret :: tables_1
/-- a 'code' word, met by the world's own term for the bytes: nothing is compared byte by byte -/
theorem code_word {y : MethodName} {bytes : ByteArray} {mx : Nat} {rt : Option FieldType} {a : Array Value} {s : State} {m : MethodId} {meth : Method} {c : Code} (h1 : s.methodNamed? y = some m) (h2 : s.vm.method? m = some meth) (h3 : meth.code = some c) (h4 : c.code = bytes)
    (h5 : (c.maxLocals == mx && c.exceptionTable.isEmpty && decide (c.maxStack ≤ mostOperands) && decide (meth.sig.returnType = rt) && !meth.locks && decide (parseMethodDescriptor y.desc = some meth.sig)) = true) : (Jvm.Cond.code y bytes mx rt).before a s = true := by
  simp only [Bool.and_eq_true, beq_iff_eq, Bool.not_eq_true', decide_eq_true_eq] at h5
  obtain ⟨⟨⟨⟨⟨g1, g2⟩, g3⟩, g4⟩, g5⟩, g6⟩ := h5
  simp [Cond.before, Cond.holds, Cond.value, h1, h2, h3, h4, g1, g2, g3, g4, g5, g6]
def isCode : Jvm.Cond → Bool
  | .code _ _ _ _ => true
  | _ => false
theorem all_split {L : List Jvm.Cond} {P : Jvm.Cond → Bool} (h1 : L.all (fun c => isCode c || P c) = true) (h2 : ∀ c ∈ L.filter isCode, P c = true) : L.all P = true := by
  refine List.all_eq_true.mpr fun c hc => ?_
  have h := List.all_eq_true.mp h1 c hc
  rcases Bool.eq_false_or_eq_true (isCode c) with hi | hi
  · exact h2 c (List.mem_filter.mpr ⟨hc, hi⟩)
  · simpa [hi] using h
set_option maxRecDepth 65536 in
theorem w_c0 : (Jvm.Cond.code x code maxLocals ret).before args0 about1 = true := code_word (m := ⟨1, 1⟩) (meth := k1m1) (c := k1c1) (by decide +kernel) rfl rfl rfl (by decide +kernel)
set_option maxRecDepth 65536 in
theorem w_c1 : (Jvm.Cond.code ({ cls := "java/lang/String", name := "<init>", desc := "([C)V" } : Jvm.MethodName) jdk_42_method_3_code (2 : Nat) (Option.none : Option Jvm.ClassFile.FieldType)).before args0 about1 = true := code_word (m := ⟨7, 1⟩) (meth := k7m1) (c := k7c1) (by decide +kernel) rfl rfl rfl (by decide +kernel)
set_option maxRecDepth 65536 in
theorem w_c2 : (Jvm.Cond.code ({ cls := "java/lang/String", name := "<init>", desc := "([CIILjava/lang/Void;)V" } : Jvm.MethodName) jdk_42_method_149_code (6 : Nat) (Option.none : Option Jvm.ClassFile.FieldType)).before args0 about1 = true := code_word (m := ⟨7, 5⟩) (meth := k7m5) (c := k7c5) (by decide +kernel) rfl rfl rfl (by decide +kernel)
set_option maxRecDepth 65536 in
theorem w_c3 : (Jvm.Cond.code ({ cls := "java/lang/Object", name := "<init>", desc := "()V" } : Jvm.MethodName) object_method_1_code (1 : Nat) (Option.none : Option Jvm.ClassFile.FieldType)).before args0 about1 = true := code_word (m := ⟨0, 0⟩) (meth := k0m0) (c := k0c0) (by decide +kernel) rfl rfl rfl (by decide +kernel)
set_option maxRecDepth 65536 in
theorem w_c4 : (Jvm.Cond.code ({ cls := "java/lang/StringUTF16", name := "compress", desc := "([CII)[B" } : Jvm.MethodName) jdk_52_method_16_code (6 : Nat) (Option.some (Jvm.ClassFile.FieldType.array Jvm.ClassFile.FieldType.byte))).before args0 about1 = true := code_word (m := ⟨8, 7⟩) (meth := k8m7) (c := k8c7) (by decide +kernel) rfl rfl rfl (by decide +kernel)
set_option maxRecDepth 65536 in
theorem w_c5 : (Jvm.Cond.code ({ cls := "java/lang/StringUTF16", name := "compress", desc := "([CI[BII)I" } : Jvm.MethodName) jdk_52_method_21_code (7 : Nat) (Option.some Jvm.ClassFile.FieldType.int)).before args0 about1 = true := code_word (m := ⟨8, 8⟩) (meth := k8m8) (c := k8c8) (by decide +kernel) rfl rfl rfl (by decide +kernel)
set_option maxRecDepth 65536 in
theorem w_c6 : (Jvm.Cond.code ({ cls := "java/lang/StringUTF16", name := "coderFromArrayLen", desc := "([BI)B" } : Jvm.MethodName) jdk_52_method_15_code (2 : Nat) (Option.some Jvm.ClassFile.FieldType.byte)).before args0 about1 = true := code_word (m := ⟨8, 6⟩) (meth := k8m6) (c := k8c6) (by decide +kernel) rfl rfl rfl (by decide +kernel)
set_option maxRecDepth 65536 in
theorem w_c7 : (Jvm.Cond.code ({ cls := "java/lang/String", name := "valueOf", desc := "(C)Ljava/lang/String;" } : Jvm.MethodName) jdk_42_method_139_code (1 : Nat) (Option.some (Jvm.ClassFile.FieldType.object "java/lang/String"))).before args0 about1 = true := code_word (m := ⟨7, 4⟩) (meth := k7m4) (c := k7c4) (by decide +kernel) rfl rfl rfl (by decide +kernel)
set_option maxRecDepth 65536 in
theorem w_c8 : (Jvm.Cond.code ({ cls := "java/lang/StringLatin1", name := "canEncode", desc := "(C)Z" } : Jvm.MethodName) jdk_43_method_3_code (1 : Nat) (Option.some Jvm.ClassFile.FieldType.boolean)).before args0 about1 = true := code_word (m := ⟨9, 1⟩) (meth := k9m1) (c := k9c1) (by decide +kernel) rfl rfl rfl (by decide +kernel)
set_option maxRecDepth 65536 in
theorem w_c9 : (Jvm.Cond.code ({ cls := "java/lang/StringLatin1", name := "toBytes", desc := "(C)[B" } : Jvm.MethodName) jdk_43_method_46_code (1 : Nat) (Option.some (Jvm.ClassFile.FieldType.array Jvm.ClassFile.FieldType.byte))).before args0 about1 = true := code_word (m := ⟨9, 2⟩) (meth := k9m2) (c := k9c2) (by decide +kernel) rfl rfl rfl (by decide +kernel)
set_option maxRecDepth 65536 in
theorem w_c10 : (Jvm.Cond.code ({ cls := "java/lang/String", name := "<init>", desc := "([BB)V" } : Jvm.MethodName) jdk_42_method_151_code (3 : Nat) (Option.none : Option Jvm.ClassFile.FieldType)).before args0 about1 = true := code_word (m := ⟨7, 6⟩) (meth := k7m6) (c := k7c6) (by decide +kernel) rfl rfl rfl (by decide +kernel)
set_option maxRecDepth 65536 in
theorem w_c11 : (Jvm.Cond.code ({ cls := "com/example/nuthatch/nuthatch/Arguments", name := "requireNonEmpty", desc := "(Ljava/lang/String;Ljava/lang/String;)Ljava/lang/String;" } : Jvm.MethodName) prog_1_method_2_code (2 : Nat) (Option.some (Jvm.ClassFile.FieldType.object "java/lang/String"))).before args0 about1 = true := code_word (m := ⟨10, 1⟩) (meth := k10m1) (c := k10c1) (by decide +kernel) rfl rfl rfl (by decide +kernel)
set_option maxRecDepth 65536 in
theorem w_c12 : (Jvm.Cond.code ({ cls := "java/util/Objects", name := "requireNonNull", desc := "(Ljava/lang/Object;Ljava/lang/String;)Ljava/lang/Object;" } : Jvm.MethodName) jdk_31_method_11_code (2 : Nat) (Option.some (Jvm.ClassFile.FieldType.object "java/lang/Object"))).before args0 about1 = true := code_word (m := ⟨11, 1⟩) (meth := k11m1) (c := k11c1) (by decide +kernel) rfl rfl rfl (by decide +kernel)
set_option maxRecDepth 65536 in
theorem w_c13 : (Jvm.Cond.code ({ cls := "java/lang/String", name := "isEmpty", desc := "()Z" } : Jvm.MethodName) jdk_42_method_55_code (1 : Nat) (Option.some Jvm.ClassFile.FieldType.boolean)).before args0 about1 = true := code_word (m := ⟨7, 3⟩) (meth := k7m3) (c := k7c3) (by decide +kernel) rfl rfl rfl (by decide +kernel)
set_option maxRecDepth 65536 in
theorem w_c14 : (Jvm.Cond.code ({ cls := "java/lang/String", name := "length", desc := "()I" } : Jvm.MethodName) jdk_42_method_54_code (1 : Nat) (Option.some Jvm.ClassFile.FieldType.int)).before args0 about1 = true := code_word (m := ⟨7, 2⟩) (meth := k7m2) (c := k7c2) (by decide +kernel) rfl rfl rfl (by decide +kernel)
set_option maxRecDepth 65536 in
theorem w_c15 : (Jvm.Cond.code ({ cls := "java/lang/String", name := "coder", desc := "()B" } : Jvm.MethodName) jdk_42_method_152_code (1 : Nat) (Option.some Jvm.ClassFile.FieldType.byte)).before args0 about1 = true := code_word (m := ⟨7, 7⟩) (meth := k7m7) (c := k7c7) (by decide +kernel) rfl rfl rfl (by decide +kernel)
set_option maxRecDepth 65536 in
theorem w_c16 : (Jvm.Cond.code ({ cls := "java/lang/StringUTF16", name := "toBytes", desc := "([CII)[B" } : Jvm.MethodName) jdk_52_method_14_code (5 : Nat) (Option.some (Jvm.ClassFile.FieldType.array Jvm.ClassFile.FieldType.byte))).before args0 about1 = true := code_word (m := ⟨8, 5⟩) (meth := k8m5) (c := k8c5) (by decide +kernel) rfl rfl rfl (by decide +kernel)
set_option maxRecDepth 65536 in
theorem w_c17 : (Jvm.Cond.code ({ cls := "java/lang/StringUTF16", name := "newBytesFor", desc := "(I)[B" } : Jvm.MethodName) jdk_52_method_2_code (1 : Nat) (Option.some (Jvm.ClassFile.FieldType.array Jvm.ClassFile.FieldType.byte))).before args0 about1 = true := code_word (m := ⟨8, 1⟩) (meth := k8m1) (c := k8c1) (by decide +kernel) rfl rfl rfl (by decide +kernel)
set_option maxRecDepth 65536 in
theorem w_c18 : (Jvm.Cond.code ({ cls := "java/lang/StringUTF16", name := "newBytesLength", desc := "(I)I" } : Jvm.MethodName) jdk_52_method_3_code (1 : Nat) (Option.some Jvm.ClassFile.FieldType.int)).before args0 about1 = true := code_word (m := ⟨8, 2⟩) (meth := k8m2) (c := k8c2) (by decide +kernel) rfl rfl rfl (by decide +kernel)
set_option maxRecDepth 65536 in
theorem w_c19 : (Jvm.Cond.code ({ cls := "java/lang/StringUTF16", name := "putChar", desc := "([BII)V" } : Jvm.MethodName) jdk_52_method_4_code (3 : Nat) (Option.none : Option Jvm.ClassFile.FieldType)).before args0 about1 = true := code_word (m := ⟨8, 3⟩) (meth := k8m3) (c := k8c3) (by decide +kernel) rfl rfl rfl (by decide +kernel)
set_option maxRecDepth 65536 in
theorem w_c20 : (Jvm.Cond.code ({ cls := "java/lang/StringUTF16", name := "getChar", desc := "([BI)C" } : Jvm.MethodName) jdk_52_method_5_code (2 : Nat) (Option.some Jvm.ClassFile.FieldType.char)).before args0 about1 = true := code_word (m := ⟨8, 4⟩) (meth := k8m4) (c := k8c4) (by decide +kernel) rfl rfl rfl (by decide +kernel)
set_option maxRecDepth 65536 in
theorem w_c21 : (Jvm.Cond.code ({ cls := "java/lang/StringUTF16", name := "toBytes", desc := "(C)[B" } : Jvm.MethodName) jdk_52_method_24_code (2 : Nat) (Option.some (Jvm.ClassFile.FieldType.array Jvm.ClassFile.FieldType.byte))).before args0 about1 = true := code_word (m := ⟨8, 9⟩) (meth := k8m9) (c := k8c9) (by decide +kernel) rfl rfl rfl (by decide +kernel)
def codes1 : List Jvm.Cond := [Jvm.Cond.code x code maxLocals ret, Jvm.Cond.code ({ cls := "java/lang/String", name := "<init>", desc := "([C)V" } : Jvm.MethodName) jdk_42_method_3_code (2 : Nat) (Option.none : Option Jvm.ClassFile.FieldType), Jvm.Cond.code ({ cls := "java/lang/String", name := "<init>", desc := "([CIILjava/lang/Void;)V" } : Jvm.MethodName) jdk_42_method_149_code (6 : Nat) (Option.none : Option Jvm.ClassFile.FieldType), Jvm.Cond.code ({ cls := "java/lang/Object", name := "<init>", desc := "()V" } : Jvm.MethodName) object_method_1_code (1 : Nat) (Option.none : Option Jvm.ClassFile.FieldType), Jvm.Cond.code ({ cls := "java/lang/StringUTF16", name := "compress", desc := "([CII)[B" } : Jvm.MethodName) jdk_52_method_16_code (6 : Nat) (Option.some (Jvm.ClassFile.FieldType.array Jvm.ClassFile.FieldType.byte)), Jvm.Cond.code ({ cls := "java/lang/StringUTF16", name := "compress", desc := "([CI[BII)I" } : Jvm.MethodName) jdk_52_method_21_code (7 : Nat) (Option.some Jvm.ClassFile.FieldType.int), Jvm.Cond.code ({ cls := "java/lang/StringUTF16", name := "coderFromArrayLen", desc := "([BI)B" } : Jvm.MethodName) jdk_52_method_15_code (2 : Nat) (Option.some Jvm.ClassFile.FieldType.byte), Jvm.Cond.code ({ cls := "java/lang/String", name := "valueOf", desc := "(C)Ljava/lang/String;" } : Jvm.MethodName) jdk_42_method_139_code (1 : Nat) (Option.some (Jvm.ClassFile.FieldType.object "java/lang/String")), Jvm.Cond.code ({ cls := "java/lang/StringLatin1", name := "canEncode", desc := "(C)Z" } : Jvm.MethodName) jdk_43_method_3_code (1 : Nat) (Option.some Jvm.ClassFile.FieldType.boolean), Jvm.Cond.code ({ cls := "java/lang/StringLatin1", name := "toBytes", desc := "(C)[B" } : Jvm.MethodName) jdk_43_method_46_code (1 : Nat) (Option.some (Jvm.ClassFile.FieldType.array Jvm.ClassFile.FieldType.byte)), Jvm.Cond.code ({ cls := "java/lang/String", name := "<init>", desc := "([BB)V" } : Jvm.MethodName) jdk_42_method_151_code (3 : Nat) (Option.none : Option Jvm.ClassFile.FieldType), Jvm.Cond.code ({ cls := "com/example/nuthatch/nuthatch/Arguments", name := "requireNonEmpty", desc := "(Ljava/lang/String;Ljava/lang/String;)Ljava/lang/String;" } : Jvm.MethodName) prog_1_method_2_code (2 : Nat) (Option.some (Jvm.ClassFile.FieldType.object "java/lang/String")), Jvm.Cond.code ({ cls := "java/util/Objects", name := "requireNonNull", desc := "(Ljava/lang/Object;Ljava/lang/String;)Ljava/lang/Object;" } : Jvm.MethodName) jdk_31_method_11_code (2 : Nat) (Option.some (Jvm.ClassFile.FieldType.object "java/lang/Object")), Jvm.Cond.code ({ cls := "java/lang/String", name := "isEmpty", desc := "()Z" } : Jvm.MethodName) jdk_42_method_55_code (1 : Nat) (Option.some Jvm.ClassFile.FieldType.boolean), Jvm.Cond.code ({ cls := "java/lang/String", name := "length", desc := "()I" } : Jvm.MethodName) jdk_42_method_54_code (1 : Nat) (Option.some Jvm.ClassFile.FieldType.int), Jvm.Cond.code ({ cls := "java/lang/String", name := "coder", desc := "()B" } : Jvm.MethodName) jdk_42_method_152_code (1 : Nat) (Option.some Jvm.ClassFile.FieldType.byte), Jvm.Cond.code ({ cls := "java/lang/StringUTF16", name := "toBytes", desc := "([CII)[B" } : Jvm.MethodName) jdk_52_method_14_code (5 : Nat) (Option.some (Jvm.ClassFile.FieldType.array Jvm.ClassFile.FieldType.byte)), Jvm.Cond.code ({ cls := "java/lang/StringUTF16", name := "newBytesFor", desc := "(I)[B" } : Jvm.MethodName) jdk_52_method_2_code (1 : Nat) (Option.some (Jvm.ClassFile.FieldType.array Jvm.ClassFile.FieldType.byte)), Jvm.Cond.code ({ cls := "java/lang/StringUTF16", name := "newBytesLength", desc := "(I)I" } : Jvm.MethodName) jdk_52_method_3_code (1 : Nat) (Option.some Jvm.ClassFile.FieldType.int), Jvm.Cond.code ({ cls := "java/lang/StringUTF16", name := "putChar", desc := "([BII)V" } : Jvm.MethodName) jdk_52_method_4_code (3 : Nat) (Option.none : Option Jvm.ClassFile.FieldType), Jvm.Cond.code ({ cls := "java/lang/StringUTF16", name := "getChar", desc := "([BI)C" } : Jvm.MethodName) jdk_52_method_5_code (2 : Nat) (Option.some Jvm.ClassFile.FieldType.char), Jvm.Cond.code ({ cls := "java/lang/StringUTF16", name := "toBytes", desc := "(C)[B" } : Jvm.MethodName) jdk_52_method_24_code (2 : Nat) (Option.some (Jvm.ClassFile.FieldType.array Jvm.ClassFile.FieldType.byte))]
set_option maxRecDepth 65536 in
theorem codes_eq : words1.filter isCode = codes1 := rfl
theorem w_codes : ∀ c ∈ words1.filter isCode, c.before args0 about1 = true := by
  rw [codes_eq]
  intro c hc
  simp only [codes1, List.mem_cons, List.not_mem_nil, or_false] at hc
  rcases hc with rfl | rfl | rfl | rfl | rfl | rfl | rfl | rfl | rfl | rfl | rfl | rfl | rfl | rfl | rfl | rfl | rfl | rfl | rfl | rfl | rfl | rfl
  · exact w_c0
  · exact w_c1
  · exact w_c2
  · exact w_c3
  · exact w_c4
  · exact w_c5
  · exact w_c6
  · exact w_c7
  · exact w_c8
  · exact w_c9
  · exact w_c10
  · exact w_c11
  · exact w_c12
  · exact w_c13
  · exact w_c14
  · exact w_c15
  · exact w_c16
  · exact w_c17
  · exact w_c18
  · exact w_c19
  · exact w_c20
  · exact w_c21
set_option maxRecDepth 65536 in
theorem w_t1 : (words1.take 24).all (fun c => isCode c || c.before args0 about1) = true := by decide +kernel
set_option maxRecDepth 65536 in
theorem w_t2 : ((words1.drop 24).take 24).all (fun c => isCode c || c.before args0 about1) = true := by decide +kernel
set_option maxRecDepth 65536 in
theorem w_t3 : (((words1.drop 24).drop 24).take 24).all (fun c => isCode c || c.before args0 about1) = true := by decide +kernel
set_option maxRecDepth 65536 in
theorem w_t4 : (((words1.drop 24).drop 24).drop 24).all (fun c => isCode c || c.before args0 about1) = true := by decide +kernel
theorem w_tables : (allAtoms (Jvm.Cond.code x code maxLocals ret :: tables_1)).before args0 about1 = true := by
  rw [allAtoms_all]
  show words1.all (fun c => c.before args0 about1) = true
  refine all_split ?_ w_codes
  rw [← List.take_append_drop 24 words1, List.all_append, w_t1, ← List.take_append_drop 24 (words1.drop 24), List.all_append, w_t2, ← List.take_append_drop 24 ((words1.drop 24).drop 24), List.all_append, w_t3, w_t4]
  rfl
set_option maxRecDepth 65536 in
theorem w_rest : rest_1_c.before args0 about1 = true := by decide +kernel
set_option maxRecDepth 65536 in
theorem w_case : (Jvm.Cond.and given_1 narrow_1).before args0 about1 = true := by decide +kernel
theorem w_applies : (headSpec (Jvm.Cond.code x code maxLocals ret :: tables_1) room_1).applies x e0.platform about1 = true :=
  (Spec.applies_iff w_frames).mpr ⟨w_running, w_runnable, w_alone, w_named, w_hears, w_ripe, w_room, w_tables⟩
theorem atStart : AtStart classFile x code maxLocals ret World_1 tables_1 room_1 Calls_1 rest_1 Pre_1 launch0 p0 e0 about1 theMethod args0 below0 :=
  ⟨lists_1, trivial, launch0.admits_env _ _ _, launch0.least_env, fairChoices_fair.cas, fairChoices_fair.clock, w_frames, w_args, w_heap, w_applies, trivial, w_rest, w_case⟩
end start1
theorem witness_1 : WitnessClaimed_1 := ⟨start1.p0, start1.e0, start1.about1, start1.theMethod, start1.args0, start1.below0, start1.atStart⟩
end Jvm.Pilot.@@N@@
