import JvmDerived
import JvmDerived.Pilot.@@N@@Statement
import JvmDerived.Pilot.@@N@@Code
set_option linter.unusedVariables false
set_option linter.unusedSimpArgs false
/- laws to paste: Road.backV, Road.eqW, Road.codOf (cut by pick.py; bodies as the Statement names them) -/
namespace Jvm.Pilot.@@N@@
namespace StrChars
open Jvm Sem ClassFile Op Lib Jvm.Stand Jvm.Free.XT Jvm.Free.ALB Jvm.Free.JM Jvm.Free
open Jvm.Lib.Cold (StaticIs)
/-- a char array whose places are chars -/
def Ch (a : Addr) (A : Cell) (U : State) : Prop := Arr .char a A U ∧ Typed .char A
theorem Ch.mv {a : Addr} {A : Cell} {U U' : State} (h : Ch a A U) (hal : U.vm.Alike U'.vm) (hh : U'.heap = U.heap) : Ch a A U' := ⟨h.1.mv hal hh, h.2⟩
theorem Ch.keep {a : Addr} {A : Cell} {U U' : State} (h : Ch a A U) (hal : U.vm.Alike U'.vm) (hk : U'.heap[a]? = some A) : Ch a A U' := ⟨h.1.keep hal hk, h.2⟩
/-- what place i of a char[]'s cell holds -/
def cv (A : Cell) (i : Nat) : Int32 := match A.slots[i]? with | some (.int x) => x | _ => 0
theorem Ch.get {a : Addr} {A : Cell} {U : State} (h : Ch a A U) {i : Nat} (hi : i < A.slots.size) : A.slots[i]? = some (.int (cv A i)) := by
  have e := Array.getElem?_eq_getElem hi
  have f := h.2 i _ e
  unfold cv; rw [e]
  generalize A.slots[i] = v at f
  cases v <;> simp [fits] at f ⊢
/-- the byte that i2b leaves of a char -/
def lo8 (x : Int32) : Int32 := x.toInt8.toInt32
theorem fits_lo8 (y : Int32) : fits .byte (.int (lo8 y)) = true := by
  have h1 := y.toInt8.le_toInt
  have h2 := y.toInt8.toInt_lt
  simp only [lo8, fits, Bool.and_eq_true, decide_eq_true_eq, Int32.le_iff_toInt_le, Int8.toInt_toInt32, show (-128 : Int32).toInt = -128 from by decide, show (127 : Int32).toInt = 127 from by decide]
  omega
/-- A' is A but that each place j of lo .. hi - 1 holds f j -/
def Laid (A A' : Cell) (lo hi : Nat) (f : Nat → Value) : Prop := A'.cls = A.cls ∧ A'.vm = A.vm ∧ A'.slots.size = A.slots.size ∧ ∀ i, A'.slots[i]? = if lo ≤ i ∧ i < hi then some (f i) else A.slots[i]?
theorem Laid.zero (A : Cell) (lo : Nat) (f : Nat → Value) : Laid A A lo (lo + 0) f := ⟨rfl, rfl, rfl, fun i => by rw [if_neg (by omega)]⟩
theorem Laid.step {A Ak : Cell} {lo k : Nat} {f : Nat → Value} {v : Value} (h : Laid A Ak lo k f) (hlo : lo ≤ k) (hk : k < Ak.slots.size) (hv : v = f k) : Laid A (Ak.setSlot k v) lo (k + 1) f := by
  refine ⟨h.1, h.2.1, by simpa [Cell.setSlot] using h.2.2.1, fun i => ?_⟩
  by_cases e : k = i
  · subst e; rw [Cell.slots_setSlot_self v hk, if_pos (by omega), hv]
  · rw [Cell.slots_setSlot_ne v e, h.2.2.2 i]
    by_cases q : lo ≤ i ∧ i < k
    · rw [if_pos q, if_pos (by omega)]
    · rw [if_neg q, if_neg (by omega)]
def U16 : String := "java/lang/StringUTF16"
namespace Cmp5
def yN : MethodName := ⟨"java/lang/StringUTF16", "compress", "([CI[BII)I"⟩
abbrev yB : ByteArray := jdk_52_method_21_code
theorem d0 : decode yB 0 = .ok (.iconst 0, 1) := by decide +kernel
theorem d1 : decode yB 1 = .ok (.istore 5, 2) := by decide +kernel
theorem d3 : decode yB 3 = .ok (.iload 5, 2) := by decide +kernel
theorem d5 : decode yB 5 = .ok (.iload 4, 2) := by decide +kernel
theorem d7 : decode yB 7 = .ok (.if_icmp (.ge) 37, 3) := by decide +kernel
theorem d10 : decode yB 10 = .ok (.aload_n 0, 1) := by decide +kernel
theorem d11 : decode yB 11 = .ok (.iload_n 1, 1) := by decide +kernel
theorem d12 : decode yB 12 = .ok (.caload, 1) := by decide +kernel
theorem d13 : decode yB 13 = .ok (.istore 6, 2) := by decide +kernel
theorem d15 : decode yB 15 = .ok (.iload 6, 2) := by decide +kernel
theorem d17 : decode yB 17 = .ok (.sipush 255, 3) := by decide +kernel
theorem d20 : decode yB 20 = .ok (.if_icmp (.le) 6, 3) := by decide +kernel
theorem d26 : decode yB 26 = .ok (.aload_n 2, 1) := by decide +kernel
theorem d27 : decode yB 27 = .ok (.iload_n 3, 1) := by decide +kernel
theorem d28 : decode yB 28 = .ok (.iload 6, 2) := by decide +kernel
theorem d30 : decode yB 30 = .ok (.i2b, 1) := by decide +kernel
theorem d31 : decode yB 31 = .ok (.bastore, 1) := by decide +kernel
theorem d32 : decode yB 32 = .ok (.iinc 1 1, 3) := by decide +kernel
theorem d35 : decode yB 35 = .ok (.iinc 3 1, 3) := by decide +kernel
theorem d38 : decode yB 38 = .ok (.iinc 5 1, 3) := by decide +kernel
theorem d41 : decode yB 41 = .ok (.goto (-38), 3) := by decide +kernel
theorem d44 : decode yB 44 = .ok (.iload 4, 2) := by decide +kernel
theorem d46 : decode yB 46 = .ok (.ireturn, 1) := by decide +kernel
def site : List Cond := []
def tab : Cond := tabOf yN yB 7 (some .int) site
def P (b : Addr) (A : Cell) (d : Addr) (B : Cell) (o q len : Nat) (args : Array Value) (s : State) : Prop := args = #[.ref b, .int (Int32.ofNat o), .ref d, .int (Int32.ofNat q), .int (Int32.ofNat len)] ∧ Ch b A s ∧ Arr .byte d B s ∧ b ≠ d ∧ o + len ≤ A.slots.size ∧ q + len ≤ B.slots.size ∧ ∀ i, i < len → ¬ 255 < cv A (o + i)
def E (b : Addr) (A : Cell) (d : Addr) (B : Cell) (o q len : Nat) (r : Option Value) (s u : State) : Prop := r = some (.int (Int32.ofNat len)) ∧ ∃ B', Put d B' s u ∧ Laid B B' q (q + len) (fun j => Value.int (lo8 (cv A (o + (j - q)))))
/-- no char of the range above 255: len; the places written hold each char's low byte -/
theorem law (l : Launch) (b : Addr) (A : Cell) (d : Addr) (B : Cell) (o q len : Nat) : Law l yN 5 5 0 0 yB 7 (some .int) site (P b A d B o q len) (E b A d B o q len) (copyLocs d q len) 0 0 := by
  refine Law.of_walk (plainFor_of_name (by decide +kernel)) (by decide +kernel) (by decide +kernel) (by decide) (fun _ _ h => by rw [h.1]; rfl) (fun _ U U' hal hh h => ⟨h.1, h.2.1.mv hal hh, h.2.2.1.mv hal hh, h.2.2.2⟩) (fun r U U' V V' h1 hal h2 h => ⟨h.1, h.2.elim fun B' q => ⟨B', q.1.mv h1 h2, q.2⟩⟩) ?_
  intro p e s m args below meth c s₁ X0 hexec hbytes hml hret hlk hnm hown hh0 W hP
  obtain ⟨rfl, hA, hB, hne, l1, l2, hp⟩ := hP
  have c1 : Steps p.tables e below (s₁.setTop (entryFrame m #[.ref b, .int (Int32.ofNat o), .ref d, .int (Int32.ofNat q), .int (Int32.ofNat len)] 7)) (s₁.setTop (mkF m 0 #[.val (.ref b), .val (.int (Int32.ofNat o)), .val (.ref d), .val (.int (Int32.ofNat q)), .val (.int (Int32.ofNat len)), .unset, .unset] [])) := entry rfl
  have hA0 := hA.1.mv X0.warmed.alike hh0
  have hB0 := hB.mv X0.warmed.alike hh0
  have a31 := hA.1.2.2.2
  have c2 : Steps p.tables e below (s₁.setTop (entryFrame m #[.ref b, .int (Int32.ofNat o), .ref d, .int (Int32.ofNat q), .int (Int32.ofNat len)] 7)) (s₁.setTop (mkF m 3 #[.val (.ref b), .val (.int (Int32.ofNat o)), .val (.ref d), .val (.int (Int32.ofNat q)), .val (.int (Int32.ofNat len)), .val (.int 0), .unset] [])) := c1.trans (by
    refine iconstV X0.here hexec rfl 0 (hb hbytes d0) (by decide) ?_
    refine XS.istore X0.here hexec rfl (hb hbytes d1) rfl rfl ?_
    exact Steps.refl _)
  have loop : ∀ (r i : Nat), i + r = len → ∀ (z : Slot), (z = .unset ∨ ∃ w, z = .val w ∧ w.category = 1) → ∀ (Tl : State) (Bk : Cell), Stand p l e { frames := 0, locals := 0, cells := 0, slots := 0 } s m #[.ref b, .int (Int32.ofNat o), .ref d, .int (Int32.ofNat q), .int (Int32.ofNat len)] below meth c Tl ([] ++ copyLocs d q i) 0 0 → Put d Bk s₁ Tl → Laid B Bk q (q + i) (fun j => Value.int (lo8 (cv A (o + (j - q))))) →
      Steps p.tables e below (s₁.setTop (entryFrame m #[.ref b, .int (Int32.ofNat o), .ref d, .int (Int32.ofNat q), .int (Int32.ofNat len)] 7)) (Tl.setTop (mkF m 3 #[.val (.ref b), .val (.int (Int32.ofNat (o + i))), .val (.ref d), .val (.int (Int32.ofNat (q + i))), .val (.int (Int32.ofNat len)), .val (.int (Int32.ofNat i)), z] [])) → ∃ (T' : State) (B' : Cell) (z' : Slot), Stand p l e { frames := 0, locals := 0, cells := 0, slots := 0 } s m #[.ref b, .int (Int32.ofNat o), .ref d, .int (Int32.ofNat q), .int (Int32.ofNat len)] below meth c T' ([] ++ copyLocs d q len) 0 0 ∧ Put d B' s₁ T' ∧ Laid B B' q (q + len) (fun j => Value.int (lo8 (cv A (o + (j - q))))) ∧
      Steps p.tables e below (s₁.setTop (entryFrame m #[.ref b, .int (Int32.ofNat o), .ref d, .int (Int32.ofNat q), .int (Int32.ofNat len)] 7)) (T'.setTop (mkF m 3 #[.val (.ref b), .val (.int (Int32.ofNat (o + len))), .val (.ref d), .val (.int (Int32.ofNat (q + len))), .val (.int (Int32.ofNat len)), .val (.int (Int32.ofNat len)), z'] [])) := by
    intro r
    induction r with
    | zero =>
      intro i hi z hz Tl Bk Xl pl fl cl
      have hil : i = len := by omega
      rw [hil] at Xl fl cl
      exact ⟨Tl, Bk, z, Xl, pl, fl, cl⟩
    | succ r ih =>
      intro i hi z hz Tl Bk Xl pl fl cl
      have all := X0.warmed.alike.symm.trans Xl.warmed.alike
      have hAl := hA0.keep all (pl.other hne hA0.1)
      have hBk := hB0.like all pl.1 fl.1 fl.2.1 fl.2.2.1
      have hlt : q + i < Bk.slots.size := by rw [fl.2.2.1]; omega
      have c3 : Steps p.tables e below (s₁.setTop (entryFrame m #[.ref b, .int (Int32.ofNat o), .ref d, .int (Int32.ofNat q), .int (Int32.ofNat len)] 7)) (Tl.setTop (mkF m 12 #[.val (.ref b), .val (.int (Int32.ofNat (o + i))), .val (.ref d), .val (.int (Int32.ofNat (q + i))), .val (.int (Int32.ofNat len)), .val (.int (Int32.ofNat i)), z] [.int (Int32.ofNat (o + i)), .ref b])) := cl.trans (by
        refine XS.iload Xl.here hexec rfl (hb hbytes d3) rfl ?_
        refine XS.iload Xl.here hexec rfl (hb hbytes d5) rfl ?_
        refine XS.icmpNo Xl.here hexec rfl (hb hbytes d7) rfl (ii_ge_f (lt32 (by omega) (by omega))) ?_
        refine XS.aloadN Xl.here hexec rfl (hb hbytes d10) rfl rfl ?_
        refine XS.iloadN Xl.here hexec rfl (hb hbytes d11) rfl ?_
        exact Steps.refl _)
      have c4 : Steps p.tables e below (s₁.setTop (entryFrame m #[.ref b, .int (Int32.ofNat o), .ref d, .int (Int32.ofNat q), .int (Int32.ofNat len)] 7)) (Tl.setTop (mkF m 13 #[.val (.ref b), .val (.int (Int32.ofNat (o + i))), .val (.ref d), .val (.int (Int32.ofNat (q + i))), .val (.int (Int32.ofNat len)), .val (.int (Int32.ofNat i)), z] [.int (cv A (o + i))])) := c3.trans (by
        refine Xl.aget hexec hAl rfl (hA.get (i := o + i) (by omega)) rfl rfl (hb hbytes d12) ?_
        exact Steps.refl _)
      have c5 : Steps p.tables e below (s₁.setTop (entryFrame m #[.ref b, .int (Int32.ofNat o), .ref d, .int (Int32.ofNat q), .int (Int32.ofNat len)] 7)) (Tl.setTop (mkF m 15 #[.val (.ref b), .val (.int (Int32.ofNat (o + i))), .val (.ref d), .val (.int (Int32.ofNat (q + i))), .val (.int (Int32.ofNat len)), .val (.int (Int32.ofNat i)), .val (.int (cv A (o + i)))] [])) := c4.trans (by
        refine XS.istoreS Xl.here hexec rfl (hb hbytes d13) rfl rfl hz ?_
        exact Steps.refl _)
      have c6 : Steps p.tables e below (s₁.setTop (entryFrame m #[.ref b, .int (Int32.ofNat o), .ref d, .int (Int32.ofNat q), .int (Int32.ofNat len)] 7)) (Tl.setTop (mkF m 31 #[.val (.ref b), .val (.int (Int32.ofNat (o + i))), .val (.ref d), .val (.int (Int32.ofNat (q + i))), .val (.int (Int32.ofNat len)), .val (.int (Int32.ofNat i)), .val (.int (cv A (o + i)))] [.int (lo8 (cv A (o + i))), .int (Int32.ofNat (q + i)), .ref d])) := c5.trans (by
        refine XS.iload Xl.here hexec rfl (hb hbytes d15) rfl ?_
        refine sipushV Xl.here hexec rfl 255 (hb hbytes d17) (by decide) ?_
        refine XS.icmpYes Xl.here hexec rfl (pc0 := 20) rfl (hb hbytes d20) rfl (ii_le_t (hp i (by omega))) (by decide) rfl ?_
        refine XS.aloadN Xl.here hexec rfl (hb hbytes d26) rfl rfl ?_
        refine XS.iloadN Xl.here hexec rfl (hb hbytes d27) rfl ?_
        refine XS.iload Xl.here hexec rfl (hb hbytes d28) rfl ?_
        refine i2b Xl.here hexec rfl (hb hbytes d30) rfl ?_
        exact Steps.refl _)
      obtain ⟨T7, X7, p7, st7⟩ := Xl.aput hexec hBk rfl hlt rfl (fits_lo8 (cv A (o + i))) (g := (mkF m 31 #[.val (.ref b), .val (.int (Int32.ofNat (o + i))), .val (.ref d), .val (.int (Int32.ofNat (q + i))), .val (.int (Int32.ofNat len)), .val (.int (Int32.ofNat i)), .val (.int (cv A (o + i)))] [.int (lo8 (cv A (o + i))), .int (Int32.ofNat (q + i)), .ref d])) rfl (rest := []) rfl (hb hbytes d31)
      have c8 : Steps p.tables e below (s₁.setTop (entryFrame m #[.ref b, .int (Int32.ofNat o), .ref d, .int (Int32.ofNat q), .int (Int32.ofNat len)] 7)) (T7.setTop (mkF m 32 #[.val (.ref b), .val (.int (Int32.ofNat (o + i))), .val (.ref d), .val (.int (Int32.ofNat (q + i))), .val (.int (Int32.ofNat len)), .val (.int (Int32.ofNat i)), .val (.int (cv A (o + i)))] [])) := c6.trans (st7 _ (Steps.refl _))
      have c9 : Steps p.tables e below (s₁.setTop (entryFrame m #[.ref b, .int (Int32.ofNat o), .ref d, .int (Int32.ofNat q), .int (Int32.ofNat len)] 7)) (T7.setTop (mkF m 3 #[.val (.ref b), .val (.int (Int32.ofNat (o + i) + 1)), .val (.ref d), .val (.int (Int32.ofNat (q + i) + 1)), .val (.int (Int32.ofNat len)), .val (.int (Int32.ofNat i + 1)), .val (.int (cv A (o + i)))] [])) := c8.trans (by
        refine iincV X7.here hexec rfl 1 (hb hbytes d32) (by decide) rfl rfl ?_
        refine iincV X7.here hexec rfl 1 (hb hbytes d35) (by decide) rfl rfl ?_
        refine iincV X7.here hexec rfl 1 (hb hbytes d38) (by decide) rfl rfl ?_
        refine XS.goto X7.here hexec rfl (pc0 := 41) rfl (hb hbytes d41) (by decide) rfl ?_
        exact Steps.refl _)
      have c10 : Steps p.tables e below (s₁.setTop (entryFrame m #[.ref b, .int (Int32.ofNat o), .ref d, .int (Int32.ofNat q), .int (Int32.ofNat len)] 7)) (T7.setTop (mkF m 3 #[.val (.ref b), .val (.int (Int32.ofNat (o + (i + 1)))), .val (.ref d), .val (.int (Int32.ofNat (q + (i + 1)))), .val (.int (Int32.ofNat len)), .val (.int (Int32.ofNat (i + 1))), .val (.int (cv A (o + i)))] [])) := by
        have := c9
        rw [succ32, succ32, succ32] at this
        exact this
      exact ih (i + 1) (by omega) _ (Or.inr ⟨_, rfl, rfl⟩) T7 _ (by rw [copyLocs_step, ← List.append_assoc]; exact X7) (pl.trans p7) (fl.step (by omega) hlt (by simp)) c10
  obtain ⟨T9, B9, z9, X9, p9, f9, g9⟩ := loop len 0 (by omega) .unset (Or.inl rfl) s₁ B (by simpa [copyLocs] using X0) ⟨hB0.1, fun _ _ => rfl, rfl⟩ (Laid.zero _ _ _) c2
  have c11 : Steps p.tables e below (s₁.setTop (entryFrame m #[.ref b, .int (Int32.ofNat o), .ref d, .int (Int32.ofNat q), .int (Int32.ofNat len)] 7)) (T9.setTop (mkF m 46 #[.val (.ref b), .val (.int (Int32.ofNat (o + len))), .val (.ref d), .val (.int (Int32.ofNat (q + len))), .val (.int (Int32.ofNat len)), .val (.int (Int32.ofNat len)), z9] [.int (Int32.ofNat len)])) := g9.trans (by
    refine XS.iload X9.here hexec rfl (hb hbytes d3) rfl ?_
    refine XS.iload X9.here hexec rfl (hb hbytes d5) rfl ?_
    refine XS.icmpYes X9.here hexec rfl (pc0 := 7) rfl (hb hbytes d7) rfl (ii_ge_t (nlt32 (by omega) (Nat.le_refl _))) (by decide) rfl ?_
    refine XS.iload X9.here hexec rfl (hb hbytes d44) rfl ?_
    exact Steps.refl _)
  exact ⟨T9, some (.int (Int32.ofNat len)), _, _, _, X9, by simp, rfl, rfl, (fun h => by cases h), ⟨rfl, B9, p9.from hh0, f9⟩, fun fs hl => c11.trans (X9.ireturnOut hexec hret rfl (Or.inl rfl) (hb hbytes d46) hl)⟩
end Cmp5
namespace Cmp3
def yN : MethodName := ⟨"java/lang/StringUTF16", "compress", "([CII)[B"⟩
abbrev yB : ByteArray := jdk_52_method_16_code
theorem d0 : decode yB 0 = .ok (.iload_n 2, 1) := by decide +kernel
theorem d1 : decode yB 1 = .ok (.newarray .byte, 2) := by decide +kernel
theorem d3 : decode yB 3 = .ok (.astore_n 3, 1) := by decide +kernel
theorem d4 : decode yB 4 = .ok (.aload_n 0, 1) := by decide +kernel
theorem d5 : decode yB 5 = .ok (.iload_n 1, 1) := by decide +kernel
theorem d6 : decode yB 6 = .ok (.aload_n 3, 1) := by decide +kernel
theorem d7 : decode yB 7 = .ok (.iconst 0, 1) := by decide +kernel
theorem d8 : decode yB 8 = .ok (.iload_n 2, 1) := by decide +kernel
theorem d9 : decode yB 9 = .ok (.invokestatic 115, 3) := by decide +kernel
theorem d12 : decode yB 12 = .ok (.istore 4, 2) := by decide +kernel
theorem d14 : decode yB 14 = .ok (.iload 4, 2) := by decide +kernel
theorem d16 : decode yB 16 = .ok (.iload_n 2, 1) := by decide +kernel
theorem d17 : decode yB 17 = .ok (.if_icmp (.eq) 40, 3) := by decide +kernel
theorem d57 : decode yB 57 = .ok (.aload_n 3, 1) := by decide +kernel
theorem d58 : decode yB 58 = .ok (.areturn, 1) := by decide +kernel
def site : List Cond := [.arrayClass .byte, Cmp5.tab] ++ staticW U16 115 Cmp5.yN
def tab : Cond := tabOf yN yB 6 (some (.array .byte)) site
def P (b : Addr) (A : Cell) (o len : Nat) (args : Array Value) (s : State) : Prop := args = #[.ref b, .int (Int32.ofNat o), .int (Int32.ofNat len)] ∧ Ch b A s ∧ o + len ≤ A.slots.size ∧ len ≤ 536870912 ∧ ∀ i, i < len → ¬ 255 < cv A (o + i)
def E (b : Addr) (A : Cell) (o len : Nat) (r : Option Value) (s u : State) : Prop := NewArr .byte "[B" len (fun j => .int (lo8 (cv A (o + j)))) r s u ∧ u.heap.size = s.heap.size + 1
/-- no char of the range above 255: a new byte[] of their low bytes -/
theorem law (l : Launch) (b : Addr) (A : Cell) (o len : Nat) : Law l yN 3 3 1 18 yB 6 (some (.array .byte)) site (P b A o len) (E b A o len) [] 1 len := by
  refine Law.of_walk (plainFor_of_name (by decide +kernel)) (by decide +kernel) (by decide +kernel) (by decide) (fun _ _ h => by rw [h.1]; rfl) (fun _ U U' hal hh h => ⟨h.1, h.2.1.mv hal hh, h.2.2⟩) (fun r U U' V V' h1 hal h2 h => ⟨NewArr.mv r U U' V V' h1 hal h2 h.1, by rw [h1, h2]; exact h.2⟩) ?_
  intro p e s m args below meth c s₁ X0 hexec hbytes hml hret hlk hnm hown hh0 W hP
  obtain ⟨rfl, hA, l1, l2, hp⟩ := hP
  have a31 := hA.1.2.2.2
  have c1 : Steps p.tables e below (s₁.setTop (entryFrame m #[.ref b, .int (Int32.ofNat o), .int (Int32.ofNat len)] 6)) (s₁.setTop (mkF m 0 #[.val (.ref b), .val (.int (Int32.ofNat o)), .val (.int (Int32.ofNat len)), .unset, .unset, .unset] [])) := entry rfl
  have c2 : Steps p.tables e below (s₁.setTop (entryFrame m #[.ref b, .int (Int32.ofNat o), .int (Int32.ofNat len)] 6)) (s₁.setTop (mkF m 1 #[.val (.ref b), .val (.int (Int32.ofNat o)), .val (.int (Int32.ofNat len)), .unset, .unset, .unset] [.int (Int32.ofNat len)])) := c1.trans (by
    refine XS.iloadN X0.here hexec rfl (hb hbytes d0) rfl ?_
    exact Steps.refl _)
  obtain ⟨T3, B3, X3, ba3, bs3, bv3, bh3, bf3, st3⟩ := X0.anew hexec (atype := .byte) (wk W (.arrayClass .byte)) rfl (by show len * 1 ≤ _; omega) (by omega) (g := (mkF m 1 #[.val (.ref b), .val (.int (Int32.ofNat o)), .val (.int (Int32.ofNat len)), .unset, .unset, .unset] [.int (Int32.ofNat len)])) rfl (hb hbytes d1) (rest := []) rfl (Nat.le_refl _) (by show 0 + len ≤ len; omega)
  rw [hh0] at ba3 st3
  have kp3 : XT.Kept s T3 := (XT.Kept.of_eq hh0).push bh3
  have hA3 := hA.keep X3.warmed.alike (kp3 _ _ hA.1.1)
  have hne : b ≠ s.heap.size := hA.1.ne
  have c4 : Steps p.tables e below (s₁.setTop (entryFrame m #[.ref b, .int (Int32.ofNat o), .int (Int32.ofNat len)] 6)) (T3.setTop (mkF m 3 #[.val (.ref b), .val (.int (Int32.ofNat o)), .val (.int (Int32.ofNat len)), .unset, .unset, .unset] [.ref s.heap.size])) := c2.trans (st3 _ (Steps.refl _))
  have c5 : Steps p.tables e below (s₁.setTop (entryFrame m #[.ref b, .int (Int32.ofNat o), .int (Int32.ofNat len)] 6)) (T3.setTop (mkF m 9 #[.val (.ref b), .val (.int (Int32.ofNat o)), .val (.int (Int32.ofNat len)), .val (.ref s.heap.size), .unset, .unset] [.int (Int32.ofNat len), .int 0, .ref s.heap.size, .int (Int32.ofNat o), .ref b])) := c4.trans (by
    refine XS.astoreN X3.here hexec rfl (hb hbytes d3) rfl rfl rfl ?_
    refine XS.aloadN X3.here hexec rfl (hb hbytes d4) rfl rfl ?_
    refine XS.iloadN X3.here hexec rfl (hb hbytes d5) rfl ?_
    refine XS.aloadN X3.here hexec rfl (hb hbytes d6) rfl rfl ?_
    refine iconstV X3.here hexec rfl 0 (hb hbytes d7) (by decide) ?_
    refine XS.iloadN X3.here hexec rfl (hb hbytes d8) rfl ?_
    exact Steps.refl _)
  obtain ⟨v6, T6, X6, E6, g6⟩ := X3.callS hexec (Cmp5.law l b A s.heap.size B3 o 0 len) hown (wks W (staticW U16 115 Cmp5.yN)) (wk W Cmp5.tab) (W := 0) (Nat.le_of_ble_eq_true rfl) (Nat.le_of_ble_eq_true rfl) (Nat.le_refl _) (by show 0 + len + 0 ≤ len; omega) (g := (mkF m 9 #[.val (.ref b), .val (.int (Int32.ofNat o)), .val (.int (Int32.ofNat len)), .val (.ref s.heap.size), .unset, .unset] [.int (Int32.ofNat len), .int (Int32.ofNat 0), .ref s.heap.size, .int (Int32.ofNat o), .ref b])) rfl (by rw [hml]; rfl) c5 (argsL := [.ref b, .int (Int32.ofNat o), .ref s.heap.size, .int (Int32.ofNat 0), .int (Int32.ofNat len)]) (rest := []) rfl rfl (by show 2 * 0 + 0 ≤ _; decide) (hb hbytes d9) (⟨rfl, hA3, ba3, hne, l1, by rw [bs3]; simp, hp⟩)
  obtain ⟨rfl, B6, p6, f6⟩ := E6
  have c7 : Steps p.tables e below (s₁.setTop (entryFrame m #[.ref b, .int (Int32.ofNat o), .int (Int32.ofNat len)] 6)) (T6.setTop (mkF m 12 #[.val (.ref b), .val (.int (Int32.ofNat o)), .val (.int (Int32.ofNat len)), .val (.ref s.heap.size), .unset, .unset] [.int (Int32.ofNat len)])) := g6
  have c8 : Steps p.tables e below (s₁.setTop (entryFrame m #[.ref b, .int (Int32.ofNat o), .int (Int32.ofNat len)] 6)) (T6.setTop (mkF m 58 #[.val (.ref b), .val (.int (Int32.ofNat o)), .val (.int (Int32.ofNat len)), .val (.ref s.heap.size), .val (.int (Int32.ofNat len)), .unset] [.ref s.heap.size])) := c7.trans (by
    refine XS.istore X6.here hexec rfl (hb hbytes d12) rfl rfl ?_
    refine XS.iload X6.here hexec rfl (hb hbytes d14) rfl ?_
    refine XS.iloadN X6.here hexec rfl (hb hbytes d16) rfl ?_
    refine XS.icmpYes X6.here hexec rfl (pc0 := 17) rfl (hb hbytes d17) rfl (ii_eq_t rfl) (by decide) rfl ?_
    refine XS.aloadN X6.here hexec rfl (hb hbytes d57) rfl rfl ?_
    exact Steps.refl _)
  have X8 := X6.wide (L' := []) (cells' := 1) (slots' := len) (fun x hx hlt => by
    simp only [List.nil_append, copyLocs, List.mem_map, List.mem_range] at hx
    obtain ⟨i, -, rfl⟩ := hx
    exact absurd hlt (Nat.lt_irrefl _)) (Nat.le_refl _) (by omega)
  exact ⟨T6, some (.ref s.heap.size), _, _, _, X8, rfl, rfl, rfl, (fun h => by cases h), ⟨⟨rfl, B6, ba3.like (X3.warmed.alike.symm.trans X6.warmed.alike) p6.1 f6.1 f6.2.1 f6.2.2.1, f6.2.1.trans bv3, by rw [X6.warmed.alike.findClass, f6.1]; exact bf3, by rw [f6.2.2.1, bs3]; simp, fun j hj => by rw [f6.2.2.2 j, if_pos (by omega)]; rfl, kp3.put p6 (Nat.le_refl _)⟩, by rw [p6.2.2, bh3, hh0]; simp⟩, fun fs hl => c8.trans (X8.areturnOut hexec rfl hret rfl (hb hbytes d58) hl)⟩
end Cmp3
namespace CodL
def yN : MethodName := ⟨"java/lang/StringUTF16", "coderFromArrayLen", "([BI)B"⟩
abbrev yB : ByteArray := jdk_52_method_15_code
theorem d0 : decode yB 0 = .ok (.iload_n 1, 1) := by decide +kernel
theorem d1 : decode yB 1 = .ok (.aload_n 0, 1) := by decide +kernel
theorem d2 : decode yB 2 = .ok (.arraylength, 1) := by decide +kernel
theorem d3 : decode yB 3 = .ok (.isub, 1) := by decide +kernel
theorem d4 : decode yB 4 = .ok (.bipush 31, 2) := by decide +kernel
theorem d6 : decode yB 6 = .ok (.iushr, 1) := by decide +kernel
theorem d7 : decode yB 7 = .ok (.i2b, 1) := by decide +kernel
theorem d8 : decode yB 8 = .ok (.ireturn, 1) := by decide +kernel
def site : List Cond := []
def tab : Cond := tabOf yN yB 2 (some .byte) site
def P (d : Addr) (B : Cell) (args : Array Value) (s : State) : Prop := args = #[.ref d, .int (Int32.ofNat B.slots.size)] ∧ Arr .byte d B s
def E (r : Option Value) (s u : State) : Prop := XT.PureE (some (.int 0)) r s u
/-- an array as long as the number of chars: LATIN1 -/
theorem law (l : Launch) (d : Addr) (B : Cell) : Law l yN 2 2 0 0 yB 2 (some .byte) site (P d B) E [] 0 0 := by
  refine Law.of_walk (plainFor_of_name (by decide +kernel)) (by decide +kernel) (by decide +kernel) (by decide) (fun _ _ h => by rw [h.1]; rfl) (fun _ U U' hal hh h => ⟨h.1, h.2.mv hal hh⟩) (fun r U U' V V' h1 hal h2 h => XT.PureE.mv r U U' V V' h1 hal h2 h) ?_
  intro p e s m args below meth c s₁ X0 hexec hbytes hml hret hlk hnm hown hh0 W hP
  obtain ⟨rfl, hB⟩ := hP
  have hB0 := hB.mv X0.warmed.alike hh0
  have c1 : Steps p.tables e below (s₁.setTop (entryFrame m #[.ref d, .int (Int32.ofNat B.slots.size)] 2)) (s₁.setTop (mkF m 0 #[.val (.ref d), .val (.int (Int32.ofNat B.slots.size))] [])) := entry rfl
  have c2 : Steps p.tables e below (s₁.setTop (entryFrame m #[.ref d, .int (Int32.ofNat B.slots.size)] 2)) (s₁.setTop (mkF m 2 #[.val (.ref d), .val (.int (Int32.ofNat B.slots.size))] [.ref d, .int (Int32.ofNat B.slots.size)])) := c1.trans (by
    refine XS.iloadN X0.here hexec rfl (hb hbytes d0) rfl ?_
    refine XS.aloadN X0.here hexec rfl (hb hbytes d1) rfl rfl ?_
    exact Steps.refl _)
  have c3 : Steps p.tables e below (s₁.setTop (entryFrame m #[.ref d, .int (Int32.ofNat B.slots.size)] 2)) (s₁.setTop (mkF m 8 #[.val (.ref d), .val (.int (Int32.ofNat B.slots.size))] [.int (lo8 (ushr (Int32.ofNat B.slots.size - Int32.ofNat B.slots.size) 31))])) := c2.trans (by
    refine X0.alen hexec hB0 rfl rfl (hb hbytes d2) ?_
    refine XS.isub X0.here hexec rfl (hb hbytes d3) rfl ?_
    refine bipushV X0.here hexec rfl 31 (hb hbytes d4) (by decide) ?_
    refine iushr X0.here hexec rfl (hb hbytes d6) rfl ?_
    refine i2b X0.here hexec rfl (hb hbytes d7) rfl ?_
    exact Steps.refl _)
  have e0 : lo8 (ushr (Int32.ofNat B.slots.size - Int32.ofNat B.slots.size) 31) = 0 := by rw [Int32.sub_self]; decide
  rw [e0] at c3
  exact ⟨s₁, some (.int 0), _, _, _, X0, rfl, rfl, rfl, (fun h => by cases h), ⟨rfl, hh0⟩, fun fs hl => c3.trans (X0.ireturnOut hexec hret rfl (Or.inr (Or.inr (Or.inl rfl))) (hb hbytes d8) hl)⟩
end CodL
/-- the String at a is Latin-1 over a new byte[] (the heap's one new cell): the low bytes of the len chars of A from o on; every cell but a is kept -/
def Got (a : Addr) (D : Cell) (fV fC : Field) (A : Cell) (o len : Nat) (r : Option Value) (s u : State) : Prop := r = none ∧ ∃ D' V : Cell, Blank "java/lang/String" a D' u ∧ Same D D' [fV.slot, fC.slot] ∧ D'.slots[fV.slot]? = some (.ref s.heap.size) ∧ D'.slots[fC.slot]? = some (.int 0) ∧ Arr .byte s.heap.size V u ∧ V.vm = .none ∧ u.vm.findClass "[B" = some V.cls ∧ V.slots.size = len ∧ (∀ j, j < len → V.slots[j]? = some (.int (lo8 (cv A (o + j))))) ∧ (∀ (y : Addr) (c : Cell), y ≠ a → s.heap[y]? = some c → u.heap[y]? = some c) ∧ u.heap.size = s.heap.size + 1
theorem Got.mv {a : Addr} {D A : Cell} {fV fC : Field} {o len : Nat} : ∀ r (U U' V V' : State), U'.heap = U.heap → V.vm.Alike V'.vm → V'.heap = V.heap → Got a D fV fC A o len r U V → Got a D fV fC A o len r U' V' :=
  fun r U U' V V' h1 hal h2 ⟨e0, D', X, a1, a2, a3, a4, a5, a6, a7, a8, a9, a10, a11⟩ => ⟨e0, D', X, a1.mv hal h2, a2, by rw [h1]; exact a3, a4, by rw [h1]; exact a5.mv hal h2, a6, by rw [hal.findClass]; exact a7, a8, a9, by rw [h1, h2]; exact a10, by rw [h1, h2]; exact a11⟩
namespace New4
def yN : MethodName := ⟨"java/lang/String", "<init>", "([CIILjava/lang/Void;)V"⟩
abbrev yB : ByteArray := jdk_42_method_149_code
theorem d0 : decode yB 0 = .ok (.aload_n 0, 1) := by decide +kernel
theorem d1 : decode yB 1 = .ok (.invokespecial 1, 3) := by decide +kernel
theorem d4 : decode yB 4 = .ok (.iload_n 3, 1) := by decide +kernel
theorem d5 : decode yB 5 = .ok (.ifCond (.ne) 22, 3) := by decide +kernel
theorem d27 : decode yB 27 = .ok (.getstatic 38, 3) := by decide +kernel
theorem d30 : decode yB 30 = .ok (.ifCond (.eq) 28, 3) := by decide +kernel
theorem d33 : decode yB 33 = .ok (.aload_n 1, 1) := by decide +kernel
theorem d34 : decode yB 34 = .ok (.iload_n 2, 1) := by decide +kernel
theorem d35 : decode yB 35 = .ok (.iload_n 3, 1) := by decide +kernel
theorem d36 : decode yB 36 = .ok (.invokestatic 177, 3) := by decide +kernel
theorem d39 : decode yB 39 = .ok (.astore 5, 2) := by decide +kernel
theorem d41 : decode yB 41 = .ok (.aload_n 0, 1) := by decide +kernel
theorem d42 : decode yB 42 = .ok (.aload 5, 2) := by decide +kernel
theorem d44 : decode yB 44 = .ok (.iload_n 3, 1) := by decide +kernel
theorem d45 : decode yB 45 = .ok (.invokestatic 47, 3) := by decide +kernel
theorem d48 : decode yB 48 = .ok (.putfield 15, 3) := by decide +kernel
theorem d51 : decode yB 51 = .ok (.aload_n 0, 1) := by decide +kernel
theorem d52 : decode yB 52 = .ok (.aload 5, 2) := by decide +kernel
theorem d54 : decode yB 54 = .ok (.putfield 9, 3) := by decide +kernel
theorem d57 : decode yB 57 = .ok (.return_, 1) := by decide +kernel
def site : List Cond := [.fieldLink "java/lang/String" 38 "java/lang/String" "COMPACT_STRINGS" "Z", Cmp3.tab, CodL.tab, .laysFinal "java/lang/String" "java/lang/String" "value" "[B", .fieldLink "java/lang/String" 9 "java/lang/String" "value" "[B", .laysFinal "java/lang/String" "java/lang/String" "coder" "B", .fieldLink "java/lang/String" 15 "java/lang/String" "coder" "B"] ++ objW "java/lang/String" 1 ++ staticW "java/lang/String" 177 Cmp3.yN ++ staticW "java/lang/String" 47 CodL.yN
def tab : Cond := tabOf yN yB 6 none site
def P (a : Addr) (D : Cell) (fV fC : Field) (b : Addr) (A : Cell) (z : Int32) (o len : Nat) (args : Array Value) (s : State) : Prop := args = #[.ref a, .ref b, .int (Int32.ofNat o), .int (Int32.ofNat len), .null] ∧ Blank "java/lang/String" a D s ∧ Found "java/lang/String" "value" "[B" fV s ∧ Found "java/lang/String" "coder" "B" fC s ∧ Ch b A s ∧ StaticIs s "java/lang/String" "COMPACT_STRINGS" "Z" (.int z) ∧ ¬ z = 0 ∧ 0 < len ∧ o + len ≤ A.slots.size ∧ len ≤ 536870912 ∧ ∀ i, i < len → ¬ 255 < cv A (o + i)
def E (a : Addr) (D : Cell) (fV fC : Field) (A : Cell) (o len : Nat) (r : Option Value) (s u : State) : Prop := Got a D fV fC A o len r s u
/-- len > 0, no char of the range above 255: a Latin-1 String of their low bytes -/
theorem law (l : Launch) (a : Addr) (D : Cell) (fV fC : Field) (b : Addr) (A : Cell) (z : Int32) (o len : Nat) : Law l yN 5 4 2 35 yB 6 none site (P a D fV fC b A z o len) (E a D fV fC A o len) [⟨a, fC.slot⟩, ⟨a, fV.slot⟩] 1 len := by
  refine Law.of_walk (plainFor_of_name (by decide +kernel)) (by decide +kernel) (by decide +kernel) (by decide) (fun _ _ h => by rw [h.1]; rfl) (fun _ U U' hal hh h => ⟨h.1, h.2.1.mv hal hh, h.2.2.1.al hal, h.2.2.2.1.al hal, h.2.2.2.2.1.mv hal hh, h.2.2.2.2.2.1.there hal hh, h.2.2.2.2.2.2⟩) (fun r U U' V V' h1 hal h2 h => Got.mv r U U' V V' h1 hal h2 h) ?_
  intro p e s m args below meth c s₁ X0 hexec hbytes hml hret hlk hnm hown hh0 W hP
  obtain ⟨rfl, hB, f1, f2, hA, s1, hz, l0, l1, l2, hp⟩ := hP
  have a31 := hA.1.2.2.2
  have c1 : Steps p.tables e below (s₁.setTop (entryFrame m #[.ref a, .ref b, .int (Int32.ofNat o), .int (Int32.ofNat len), .null] 6)) (s₁.setTop (mkF m 0 #[.val (.ref a), .val (.ref b), .val (.int (Int32.ofNat o)), .val (.int (Int32.ofNat len)), .val .null, .unset] [])) := entry rfl
  have c2 : Steps p.tables e below (s₁.setTop (entryFrame m #[.ref a, .ref b, .int (Int32.ofNat o), .int (Int32.ofNat len), .null] 6)) (s₁.setTop (mkF m 1 #[.val (.ref a), .val (.ref b), .val (.int (Int32.ofNat o)), .val (.int (Int32.ofNat len)), .val .null, .unset] [.ref a])) := c1.trans (by
    refine XS.aloadN X0.here hexec rfl (hb hbytes d0) rfl rfl ?_
    exact Steps.refl _)
  obtain ⟨T3, X3, q3, st3⟩ := X0.oinit hexec hown (wks W (objW "java/lang/String" 1)) (g := (mkF m 1 #[.val (.ref a), .val (.ref b), .val (.int (Int32.ofNat o)), .val (.int (Int32.ofNat len)), .val .null, .unset] [.ref a])) rfl (by rw [hml]; rfl) (rest := []) rfl (hb hbytes d1) (W := 0) (by show 2 * 0 + 0 ≤ _; decide) (Nat.le_of_ble_eq_true rfl) (Nat.le_of_ble_eq_true rfl)
  have hh3 := q3.trans hh0
  have c4 : Steps p.tables e below (s₁.setTop (entryFrame m #[.ref a, .ref b, .int (Int32.ofNat o), .int (Int32.ofNat len), .null] 6)) (T3.setTop (mkF m 27 #[.val (.ref a), .val (.ref b), .val (.int (Int32.ofNat o)), .val (.int (Int32.ofNat len)), .val .null, .unset] [])) := (c2.trans (st3 _ (Steps.refl _))).trans (by
    refine XS.iloadN X3.here hexec rfl (hb hbytes d4) rfl ?_
    refine XS.ifYes X3.here hexec rfl (pc0 := 5) rfl (hb hbytes d5) rfl (i0_ne_t (nz32 (by omega) l0)) (by decide) rfl ?_
    exact Steps.refl _)
  obtain ⟨T5, X5, q5, st5⟩ := X3.sget hexec hown (wk W (.fieldLink "java/lang/String" 38 "java/lang/String" "COMPACT_STRINGS" "Z")) s1 (fun _ _ h => by rw [hh3]; exact h) (g := (mkF m 27 #[.val (.ref a), .val (.ref b), .val (.int (Int32.ofNat o)), .val (.int (Int32.ofNat len)), .val .null, .unset] [])) rfl (hb hbytes d27)
  have hh5 := q5.trans hh3
  have c6 : Steps p.tables e below (s₁.setTop (entryFrame m #[.ref a, .ref b, .int (Int32.ofNat o), .int (Int32.ofNat len), .null] 6)) (T5.setTop (mkF m 30 #[.val (.ref a), .val (.ref b), .val (.int (Int32.ofNat o)), .val (.int (Int32.ofNat len)), .val .null, .unset] [.int z])) := c4.trans (st5 _ (Steps.refl _))
  have c7 : Steps p.tables e below (s₁.setTop (entryFrame m #[.ref a, .ref b, .int (Int32.ofNat o), .int (Int32.ofNat len), .null] 6)) (T5.setTop (mkF m 36 #[.val (.ref a), .val (.ref b), .val (.int (Int32.ofNat o)), .val (.int (Int32.ofNat len)), .val .null, .unset] [.int (Int32.ofNat len), .int (Int32.ofNat o), .ref b])) := c6.trans (by
    refine XS.ifNo X5.here hexec rfl (hb hbytes d30) rfl (i0_eq_f hz) ?_
    refine XS.aloadN X5.here hexec rfl (hb hbytes d33) rfl rfl ?_
    refine XS.iloadN X5.here hexec rfl (hb hbytes d34) rfl ?_
    refine XS.iloadN X5.here hexec rfl (hb hbytes d35) rfl ?_
    exact Steps.refl _)
  obtain ⟨v8, T8, X8, E8, g8⟩ := X5.callS hexec (Cmp3.law l b A o len) hown (wks W (staticW "java/lang/String" 177 Cmp3.yN)) (wk W Cmp3.tab) (W := 0) (Nat.le_of_ble_eq_true rfl) (Nat.le_of_ble_eq_true rfl) (Nat.le_refl _) (by show 0 + len ≤ len; omega) (g := (mkF m 36 #[.val (.ref a), .val (.ref b), .val (.int (Int32.ofNat o)), .val (.int (Int32.ofNat len)), .val .null, .unset] [.int (Int32.ofNat len), .int (Int32.ofNat o), .ref b])) rfl (by rw [hml]; rfl) c7 (argsL := [.ref b, .int (Int32.ofNat o), .int (Int32.ofNat len)]) (rest := []) rfl rfl (by show 2 * 0 + 0 ≤ _; decide) (hb hbytes d36) (⟨rfl, hA.mv X5.warmed.alike hh5, l1, l2, hp⟩)
  obtain ⟨e8, z8⟩ := E8
  obtain ⟨rfl, N, n1, n2, n3, n4, n5, n6⟩ := NewArr.mv _ T5 s _ _ hh5.symm (Vm.Alike.refl _) rfl e8
  rw [hh5] at z8
  have hB1 := hB.keep X8.warmed.alike (n6 _ _ hB.1)
  have hne : s.heap.size ≠ a := (Nat.ne_of_lt (Array.getElem?_eq_some_iff.mp hB.1).1).symm
  have c9 : Steps p.tables e below (s₁.setTop (entryFrame m #[.ref a, .ref b, .int (Int32.ofNat o), .int (Int32.ofNat len), .null] 6)) (T8.setTop (mkF m 39 #[.val (.ref a), .val (.ref b), .val (.int (Int32.ofNat o)), .val (.int (Int32.ofNat len)), .val .null, .unset] [.ref s.heap.size])) := g8
  have c10 : Steps p.tables e below (s₁.setTop (entryFrame m #[.ref a, .ref b, .int (Int32.ofNat o), .int (Int32.ofNat len), .null] 6)) (T8.setTop (mkF m 45 #[.val (.ref a), .val (.ref b), .val (.int (Int32.ofNat o)), .val (.int (Int32.ofNat len)), .val .null, .val (.ref s.heap.size)] [.int (Int32.ofNat N.slots.size), .ref s.heap.size, .ref a])) := by
    have hc : Steps p.tables e below (s₁.setTop (entryFrame m #[.ref a, .ref b, .int (Int32.ofNat o), .int (Int32.ofNat len), .null] 6)) (T8.setTop (mkF m 45 #[.val (.ref a), .val (.ref b), .val (.int (Int32.ofNat o)), .val (.int (Int32.ofNat len)), .val .null, .val (.ref s.heap.size)] [.int (Int32.ofNat len), .ref s.heap.size, .ref a])) := c9.trans (by
      refine XS.astore X8.here hexec rfl (hb hbytes d39) rfl rfl rfl ?_
      refine XS.aloadN X8.here hexec rfl (hb hbytes d41) rfl rfl ?_
      refine XS.aload X8.here hexec rfl (hb hbytes d42) rfl rfl ?_
      refine XS.iloadN X8.here hexec rfl (hb hbytes d44) rfl ?_
      exact Steps.refl _)
    rw [n4]; exact hc
  obtain ⟨v11, T11, X11, E11, g11⟩ := X8.callS hexec (CodL.law l s.heap.size N) hown (wks W (staticW "java/lang/String" 47 CodL.yN)) (wk W CodL.tab) (W := 1) (Nat.le_of_ble_eq_true rfl) (Nat.le_of_ble_eq_true rfl) (Nat.le_refl _) (by show 0 + len + 0 ≤ len; omega) (g := (mkF m 45 #[.val (.ref a), .val (.ref b), .val (.int (Int32.ofNat o)), .val (.int (Int32.ofNat len)), .val .null, .val (.ref s.heap.size)] [.int (Int32.ofNat N.slots.size), .ref s.heap.size, .ref a])) rfl (by rw [hml]; rfl) c10 (argsL := [.ref s.heap.size, .int (Int32.ofNat N.slots.size)]) (rest := [.ref a]) rfl rfl (by show 2 * 0 + (1 + 0) ≤ _; decide) (hb hbytes d45) (⟨rfl, n1⟩)
  obtain ⟨rfl, q11⟩ := E11
  have hB11 := hB1.mv (X8.warmed.alike.symm.trans X11.warmed.alike) q11
  have c12 : Steps p.tables e below (s₁.setTop (entryFrame m #[.ref a, .ref b, .int (Int32.ofNat o), .int (Int32.ofNat len), .null] 6)) (T11.setTop (mkF m 48 #[.val (.ref a), .val (.ref b), .val (.int (Int32.ofNat o)), .val (.int (Int32.ofNat len)), .val .null, .val (.ref s.heap.size)] [.int 0, .ref a])) := g11
  obtain ⟨T13, X13, p13, bl13, sl13, st13⟩ := X11.finit hexec hown (wk W (.fieldLink "java/lang/String" 15 "java/lang/String" "coder" "B")) (Or.inr ⟨_, (wk W (.laysFinal "java/lang/String" "java/lang/String" "coder" "B"))⟩) (Or.inl ⟨rfl, hnm⟩) f2 (Or.inl rfl) hB11 (t := .byte) (by decide +kernel) rfl (g := (mkF m 48 #[.val (.ref a), .val (.ref b), .val (.int (Int32.ofNat o)), .val (.int (Int32.ofNat len)), .val .null, .val (.ref s.heap.size)] [.int 0, .ref a])) rfl (rest := []) rfl (hb hbytes d48)
  have c14 : Steps p.tables e below (s₁.setTop (entryFrame m #[.ref a, .ref b, .int (Int32.ofNat o), .int (Int32.ofNat len), .null] 6)) (T13.setTop (mkF m 54 #[.val (.ref a), .val (.ref b), .val (.int (Int32.ofNat o)), .val (.int (Int32.ofNat len)), .val .null, .val (.ref s.heap.size)] [.ref s.heap.size, .ref a])) := (c12.trans (st13 _ (Steps.refl _))).trans (by
    refine XS.aloadN X13.here hexec rfl (hb hbytes d51) rfl rfl ?_
    refine XS.aload X13.here hexec rfl (hb hbytes d52) rfl rfl ?_
    exact Steps.refl _)
  obtain ⟨T15, X15, p15, bl15, sl15, st15⟩ := X13.finit hexec hown (wk W (.fieldLink "java/lang/String" 9 "java/lang/String" "value" "[B")) (Or.inr ⟨_, (wk W (.laysFinal "java/lang/String" "java/lang/String" "value" "[B"))⟩) (Or.inl ⟨rfl, hnm⟩) f1 (Or.inl rfl) bl13 (t := (.array .byte)) (by decide +kernel) rfl (g := (mkF m 54 #[.val (.ref a), .val (.ref b), .val (.int (Int32.ofNat o)), .val (.int (Int32.ofNat len)), .val .null, .val (.ref s.heap.size)] [.ref s.heap.size, .ref a])) rfl (rest := []) rfl (hb hbytes d54)
  have c16 : Steps p.tables e below (s₁.setTop (entryFrame m #[.ref a, .ref b, .int (Int32.ofNat o), .int (Int32.ofNat len), .null] 6)) (T15.setTop (mkF m 57 #[.val (.ref a), .val (.ref b), .val (.int (Int32.ofNat o)), .val (.int (Int32.ofNat len)), .val .null, .val (.ref s.heap.size)] [])) := c14.trans (st15 _ (Steps.refl _))
  have ap := apart (Or.inr ⟨_, (wk W (.laysFinal "java/lang/String" "java/lang/String" "value" "[B"))⟩) (Or.inr ⟨_, (wk W (.laysFinal "java/lang/String" "java/lang/String" "coder" "B"))⟩) f1 f2 (t₁ := .array .byte) (t₂ := .byte) (by decide +kernel) (by decide +kernel) (by decide)
  have al := X8.warmed.alike.symm.trans X15.warmed.alike
  have n7 : T11.heap[s.heap.size]? = some N := by rw [q11]; exact n1.1
  exact ⟨T15, none, _, _, _, X15, by simp, rfl, by omega, (fun _ => rfl), ⟨rfl, _, N, bl15, ((Same.refl D _).set _ (by simp)).set _ (by simp), sl15, (Cell.slots_setSlot_ne _ ap).trans sl13, n1.keep al (p15.other hne (p13.other hne n7)), n2, by rw [al.findClass]; exact n3, n4, n5, fun y c h1 h2 => p15.other h1 (p13.other h1 (by rw [q11]; exact n6 y c h2)), by rw [p15.2.2, p13.2.2, q11]; exact z8⟩, fun fs hl => c16.trans (X15.returnOut hexec hret (hb hbytes d57) hl)⟩
end New4
namespace New1
def yN : MethodName := ⟨"java/lang/String", "<init>", "([C)V"⟩
abbrev yB : ByteArray := jdk_42_method_3_code
theorem d0 : decode yB 0 = .ok (.aload_n 0, 1) := by decide +kernel
theorem d1 : decode yB 1 = .ok (.aload_n 1, 1) := by decide +kernel
theorem d2 : decode yB 2 = .ok (.iconst 0, 1) := by decide +kernel
theorem d3 : decode yB 3 = .ok (.aload_n 1, 1) := by decide +kernel
theorem d4 : decode yB 4 = .ok (.arraylength, 1) := by decide +kernel
theorem d5 : decode yB 5 = .ok (.aconst_null, 1) := by decide +kernel
theorem d6 : decode yB 6 = .ok (.invokespecial 27, 3) := by decide +kernel
theorem d9 : decode yB 9 = .ok (.return_, 1) := by decide +kernel
def site : List Cond := [New4.tab] ++ initW "java/lang/String" 27 New4.yN
def tab : Cond := tabOf yN yB 2 none site
def P (a : Addr) (D : Cell) (fV fC : Field) (b : Addr) (A : Cell) (z : Int32) (args : Array Value) (s : State) : Prop := args = #[.ref a, .ref b] ∧ Blank "java/lang/String" a D s ∧ Found "java/lang/String" "value" "[B" fV s ∧ Found "java/lang/String" "coder" "B" fC s ∧ Ch b A s ∧ StaticIs s "java/lang/String" "COMPACT_STRINGS" "Z" (.int z) ∧ ¬ z = 0 ∧ 0 < A.slots.size ∧ A.slots.size ≤ 536870912 ∧ ∀ i, i < A.slots.size → ¬ 255 < cv A i
def E (a : Addr) (D : Cell) (fV fC : Field) (A : Cell) (r : Option Value) (s u : State) : Prop := Got a D fV fC A 0 A.slots.size r s u
/-- new String(chars), not empty, no char above 255: a Latin-1 String of their low bytes -/
theorem law (l : Launch) (a : Addr) (D : Cell) (fV fC : Field) (b : Addr) (A : Cell) (z : Int32) : Law l yN 2 1 3 52 yB 2 none site (P a D fV fC b A z) (E a D fV fC A) [⟨a, fC.slot⟩, ⟨a, fV.slot⟩] 1 A.slots.size := by
  refine Law.of_walk (plainFor_of_name (by decide +kernel)) (by decide +kernel) (by decide +kernel) (by decide) (fun _ _ h => by rw [h.1]; rfl) (fun _ U U' hal hh h => ⟨h.1, h.2.1.mv hal hh, h.2.2.1.al hal, h.2.2.2.1.al hal, h.2.2.2.2.1.mv hal hh, h.2.2.2.2.2.1.there hal hh, h.2.2.2.2.2.2⟩) (fun r U U' V V' h1 hal h2 h => Got.mv r U U' V V' h1 hal h2 h) ?_
  intro p e s m args below meth c s₁ X0 hexec hbytes hml hret hlk hnm hown hh0 W hP
  obtain ⟨rfl, hB, f1, f2, hA, s1, hz, l0, l2, hp⟩ := hP
  have c1 : Steps p.tables e below (s₁.setTop (entryFrame m #[.ref a, .ref b] 2)) (s₁.setTop (mkF m 0 #[.val (.ref a), .val (.ref b)] [])) := entry rfl
  have c2 : Steps p.tables e below (s₁.setTop (entryFrame m #[.ref a, .ref b] 2)) (s₁.setTop (mkF m 6 #[.val (.ref a), .val (.ref b)] [.null, .int (Int32.ofNat A.slots.size), .int 0, .ref b, .ref a])) := c1.trans (by
    refine XS.aloadN X0.here hexec rfl (hb hbytes d0) rfl rfl ?_
    refine XS.aloadN X0.here hexec rfl (hb hbytes d1) rfl rfl ?_
    refine iconstV X0.here hexec rfl 0 (hb hbytes d2) (by decide) ?_
    refine XS.aloadN X0.here hexec rfl (hb hbytes d3) rfl rfl ?_
    refine X0.alen hexec (hA.1.mv X0.warmed.alike hh0) rfl rfl (hb hbytes d4) ?_
    refine XS.aconstNull X0.here hexec rfl (hb hbytes d5) ?_
    exact Steps.refl _)
  obtain ⟨v3, T3, X3, E3, g3⟩ := X0.callN hexec (New4.law l a D fV fC b A z 0 A.slots.size) rfl hown (wks W (initW "java/lang/String" 27 New4.yN)) (W New4.tab (by simp only [site, List.mem_cons, List.mem_append, true_or, or_true])) (W := 0) (Nat.le_of_ble_eq_true rfl) (Nat.le_of_ble_eq_true rfl) (Nat.le_refl _) (by show 0 + A.slots.size ≤ A.slots.size; omega) (g := (mkF m 6 #[.val (.ref a), .val (.ref b)] [.null, .int (Int32.ofNat A.slots.size), .int (Int32.ofNat 0), .ref b, .ref a])) rfl (by rw [hml]; rfl) c2 (argsL := [.ref b, .int (Int32.ofNat 0), .int (Int32.ofNat A.slots.size), .null]) (rest := []) rfl rfl (by show 2 * 0 + 0 ≤ _; decide) (hb hbytes d6) (⟨rfl, hB.mv X0.warmed.alike hh0, f1.al X0.warmed.alike, f2.al X0.warmed.alike, hA.mv X0.warmed.alike hh0, s1.there X0.warmed.alike hh0, hz, l0, by omega, l2, fun i hi => by rw [Nat.zero_add]; exact hp i hi⟩)
  have e0 := Got.mv _ s₁ s _ _ hh0.symm (Vm.Alike.refl _) rfl E3
  obtain rfl := e0.1
  have c4 : Steps p.tables e below (s₁.setTop (entryFrame m #[.ref a, .ref b] 2)) (T3.setTop (mkF m 9 #[.val (.ref a), .val (.ref b)] [])) := g3
  exact ⟨T3, none, _, _, _, X3, by simp, rfl, by omega, (fun _ => rfl), e0, fun fs hl => c4.trans (X3.returnOut hexec hret (hb hbytes d9) hl)⟩
theorem pays {l : Launch} {R : Room} {p : Program} {e : Env} {below : List Frame} {s : State} {sargs : Array Value} {len W : Nat} (a : Addr) (D : Cell) (fV fC : Field) (b : Addr) (A : Cell) (z : Int32) (htab : tab.before sargs s = true) (hfr : 4 ≤ R.frames) (hlo : W + 65 ≤ R.locals) :
    Back l R p e below s sargs yN len W (fun A₁ a₁ => A₁.cells + 1 ≤ R.cells ∧ A₁.slots + A.slots.size ≤ R.slots ∧ P a D fV fC b A z a₁ A₁.U) (fun A₁ _ v₁ B₁ => E a D fV fC A v₁ A₁.U B₁.U ∧ B₁.locs = A₁.locs ++ [⟨a, fC.slot⟩, ⟨a, fV.slot⟩] ∧ B₁.cells = A₁.cells + 1 ∧ B₁.slots = A₁.slots + A.slots.size) :=
  (law l a D fV fC b A z).pays htab hfr (by omega)
end New1
/-- the byte, read back as charAt reads it, is the char -/
theorem lo8_mask {x : Int32} (h0 : ¬ x < 0) (h1 : ¬ 255 < x) : lo8 x &&& 255 = x := by
  have t : ∀ k : Fin 256, lo8 (Int32.ofNat k.val) &&& 255 = Int32.ofNat k.val := by decide +kernel
  rw [Int32.lt_iff_toInt_lt] at h0 h1
  have e0 : (0 : Int32).toInt = 0 := rfl
  have e1 : (255 : Int32).toInt = 255 := rfl
  obtain ⟨k, hk⟩ : ∃ k : Nat, x.toInt = k := ⟨x.toInt.toNat, by omega⟩
  have hx : x = Int32.ofNat k := Int32.toInt_inj.mp (by rw [hk, Int32.toInt_ofNat_small (by omega)])
  rw [hx]
  exact t ⟨k, by omega⟩
end StrChars
namespace StrChars.Road
open Jvm Sem ClassFile Op Lib Jvm.Stand Jvm.Free Jvm.Free.XT
open Jvm.Lib.Cold (StaticIs)
abbrev ST : String := "java/lang/String"
/-- every table word that New1's law asks, flat -/
abbrev words : List Jvm.Cond := [.code New1.yN New1.yB 2 none, .initialized ST, .methodLink ST 27 New4.yN, .instanceMethod New4.yN,
  .code New4.yN New4.yB 6 none, .fieldLink ST 38 ST "COMPACT_STRINGS" "Z", .laysFinal ST ST "value" "[B", .fieldLink ST 9 ST "value" "[B", .laysFinal ST ST "coder" "B", .fieldLink ST 15 ST "coder" "B",
  .methodLink ST 1 Lib.objectInit, .instanceMethod Lib.objectInit, .code Lib.objectInit ⟨#[0xb1]⟩ 1 none, .methodLink ST 177 Cmp3.yN, .static Cmp3.yN, .methodLink ST 47 CodL.yN, .static CodL.yN,
  .code Cmp3.yN Cmp3.yB 6 (some (.array .byte)), .initialized U16, .arrayClass .byte, .methodLink U16 115 Cmp5.yN, .static Cmp5.yN, .code Cmp5.yN Cmp5.yB 7 (some .int), .code CodL.yN CodL.yB 2 (some .byte)]
theorem tab_of {a : Array Value} {s : State} (h : ∀ w ∈ words, w.before a s = true) : New1.tab.before a s = true := by
  have h5 : Cmp5.tab.before a s = true := unparts (wk h (.code Cmp5.yN Cmp5.yB 7 (some .int))) (wks h (.initialized Cmp5.yN.cls :: Cmp5.site))
  have hc : CodL.tab.before a s = true := unparts (wk h (.code CodL.yN CodL.yB 2 (some .byte))) (wks h (.initialized CodL.yN.cls :: CodL.site))
  have q5 : ∀ w ∈ Cmp5.tab :: words, w.before a s = true := fun w hw => (List.mem_cons.mp hw).elim (fun e => e ▸ h5) (h w)
  have h3 : Cmp3.tab.before a s = true := unparts (wk q5 (.code Cmp3.yN Cmp3.yB 6 (some (.array .byte)))) (wks q5 (.initialized Cmp3.yN.cls :: Cmp3.site))
  have q3 : ∀ w ∈ Cmp3.tab :: CodL.tab :: words, w.before a s = true := fun w hw => (List.mem_cons.mp hw).elim (fun e => e ▸ h3) fun hw => (List.mem_cons.mp hw).elim (fun e => e ▸ hc) (h w)
  have h4 : New4.tab.before a s = true := unparts (wk q3 (.code New4.yN New4.yB 6 none)) (wks q3 (.initialized New4.yN.cls :: New4.site))
  have q4 : ∀ w ∈ New4.tab :: words, w.before a s = true := fun w hw => (List.mem_cons.mp hw).elim (fun e => e ▸ h4) (h w)
  exact unparts (wk q4 (.code New1.yN New1.yB 2 none)) (wks q4 (.initialized New1.yN.cls :: New1.site))
/-- the words ride from the start Z to the walk's own state -/
theorem moved {Z s : State} {a0 args : Array Value} (hZ : Z.Warmed39 s.vm) (hw : ∀ d ∈ words, d.before a0 Z = true) : ∀ d ∈ words, d.before args s = true := fun d hd => by
  have q := hw d hd
  have t : ∀ d ∈ words, d = .arrayClass .byte ∨ (d.onTables && d.keepsFace) = true := by decide +kernel
  rcases t d hd with rfl | t
  · exact RoadKit.mvA hZ q
  · exact RoadKit.mv hZ q t
/-- WHAT COMES BACK, over the tables of the start Z: h the heap at the call, h' behind it -/
def Q (Z : State) (x : Addr) (A : Cell) (h : Heap) (v : Option Value) (h' : Heap) (L : List Loc) : Prop := v = none ∧ (∀ y ∈ L, y.base = x) ∧ RoadKit.Keep h h' [x] ∧ h'.size = h.size + 1 ∧ RoadKit.Exa Z h' x ST ∧ RoadKit.Fld Z h' x ST "value" "[B" (.ref h.size) ∧ RoadKit.Fld Z h' x ST "coder" "B" (.int 0) ∧
  (∃ V : Cell, RoadKit.Arr Z h' h.size V .byte ∧ V.vm = .none ∧ Z.vm.findClass "[B" = some V.cls ∧ V.slots.size = A.slots.size ∧ ∀ j, j < A.slots.size → V.slots[j]? = some (.int (lo8 (cv A j)))) ∧
  ∀ (O n d : String) (w : Value), RoadKit.Fld Z h x O n d w → RoadKit.slotOf Z O n d ≠ RoadKit.slotOf Z ST "value" "[B" → RoadKit.slotOf Z O n d ≠ RoadKit.slotOf Z ST "coder" "B" → RoadKit.Fld Z h' x O n d w
/-- **new String(chars) AT A CALL, IN THE ROAD'S FORM**: for specialBack behind newO: x the fresh String, b the char[] with the cell A -/
theorem back {p : Program} {l : Launch} {e : Env} {R : Room} {s : State} {args : Array Value} {below : List Frame} {len W : Nat} {Z : State} {a0 : Array Value} {h : Heap} (hZ : Z.Warmed39 s.vm) (hw : ∀ d ∈ words, d.before a0 Z = true) {kI : Nat} (wi : (Jvm.Cond.instantiable ST kI).before a0 Z = true)
    {x b : Addr} {A : Cell} {z : Int32} {v0 c0 : Value} (E : RoadKit.Exa Z h x ST) (V : RoadKit.Fld Z h x ST "value" "[B" v0) (C : RoadKit.Fld Z h x ST "coder" "B" c0) (K : RoadKit.Arr Z h b A .char) (hty : Typed .char A) (S : RoadKit.Sta Z h ST "COMPACT_STRINGS" "Z" (.int z)) (hz : ¬ z = 0)
    (l0 : 0 < A.slots.size) (l2 : A.slots.size ≤ 536870912) (hp : ∀ i, i < A.slots.size → ¬ 255 < cv A i) (hfr : 4 ≤ R.frames) (hlo : W + 65 ≤ R.locals) :
    Back l R p e below s args New1.yN len W (fun P a => a = #[.ref x, .ref b] ∧ P.U.heap = h ∧ P.cells + 1 ≤ R.cells ∧ P.slots + A.slots.size ≤ R.slots)
      (fun P _ v B => ∃ L, Q Z x A h v B.U.heap L ∧ B.locs = P.locs ++ L ∧ B.cells = P.cells + 1 ∧ B.slots = P.slots + A.slots.size) := by
  intro m meth c P g ig mk a X hg hsize hdg hW hn hp'
  obtain ⟨rfl, rfl, r1, r2⟩ := hp'
  have al : Z.vm.Alike P.U.vm := hZ.alike.trans X.warmed.alike
  obtain ⟨D, cfV, kV, iV, fV, hD, gV, stV, knV, obV, asV, slV⟩ := id V
  obtain ⟨D', cfC, kC, iC, fC, hD', gC, stC, -, -, asC, slC⟩ := id C
  cases hD.symm.trans hD'
  obtain ⟨D2, kD, e1, e2, e3, e4, e5⟩ := id E
  cases hD.symm.trans e1
  obtain ⟨c2, k2, i1, i2, i3, -⟩ := Cond.instantiable_spec wi
  cases e2.symm.trans i1
  cases e3.symm.trans i2
  obtain ⟨kU, u1, u2⟩ := al.2.2 _ _ e3
  have hB : Blank ST x D P.U := ⟨hD, ⟨knV, fun q hq => by rw [hq] at obV; cases obV⟩, by rw [al.findClass]; exact e2, kU, u1, by rw [u2]; exact i3, by rw [u2]; exact e5 i3⟩
  have F1 : Found ST "value" "[B" fV P.U := ⟨SBG.found_only al ⟨cfV, kV, iV, gV⟩, stV⟩
  have F2 : Found ST "coder" "B" fC P.U := ⟨SBG.found_only al ⟨cfC, kC, iC, gC⟩, stC⟩
  have hA : Ch b A P.U := ⟨⟨K.1, State.isArrayOf_alike al K.2.1, K.2.2, by omega⟩, hty⟩
  have hS : StaticIs P.U ST "COMPACT_STRINGS" "Z" (.int z) := by
    obtain ⟨cfS, iS, kS, fS, st, cS, t1, t2, t3, t4, t5, t6, t7⟩ := S
    exact StaticIs.there (s := { Z with heap := P.U.heap }) ⟨cfS, iS, kS, fS, st, cS, t1, t2, t3, t4, t5, (fun q => by rw [q] at t6; cases t6), t7⟩ al rfl
  obtain ⟨v, B, X', ⟨⟨hv, E', V', q1, q2, q3, q4, q5, q6, q7, q8, q9, q10, q11⟩, hl, hc, hs⟩, st⟩ := New1.pays x D fV fC b A z (tab_of (moved hZ hw)) hfr hlo m meth c P g ig mk _ X hg hsize hdg hW hn ⟨r1, r2, rfl, hB, F1, F2, hA, hS, hz, l0, l2, hp⟩
  have al' : Z.vm.Alike B.U.vm := hZ.alike.trans X'.warmed.alike
  have hsz : E'.slots.size = D.slots.size := by
    obtain ⟨-, -, -, kB, w1, w2, w3⟩ := q1
    obtain ⟨kB', y1, y2⟩ := al'.2.2 _ _ e3
    rw [q2.2.1] at w1
    cases w1.symm.trans y1
    rw [w3, e5 i3, y2]
  refine ⟨v, B, X', ⟨_, ⟨hv, ?_, ⟨by omega, fun y cy hy hn' => q10 y cy (by simpa using hn') hy, fun y cy hy => ?_⟩, q11, ⟨E', _, q1.1, by rw [q2.2.1]; exact e2, by rw [q2.2.1]; exact e3, by rw [q2.1]; exact obV, fun _ => by rw [hsz]; exact e5 i3⟩,
    ⟨E', cfV, kV, iV, fV, q1.1, gV, stV, by rw [q2.1]; exact knV, by rw [q2.1]; exact obV, by rw [q2.2.1]; exact asV, q3⟩, ⟨E', cfC, kC, iC, fC, q1.1, gC, stC, by rw [q2.1]; exact knV, by rw [q2.1]; exact obV, by rw [q2.2.1]; exact asC, q4⟩,
    ⟨V', ⟨q5.1, State.isArrayOf_alike al'.symm q5.2.1, q5.2.2.1⟩, q6, by rw [← al'.findClass]; exact q7, q8, fun j hj => by have := q9 j hj; rwa [Nat.zero_add] at this⟩, fun O n d w F n1 n2 => ?_⟩, hl, hc, hs⟩, st⟩
  · intro y hy
    simp only [List.mem_cons, List.not_mem_nil, or_false] at hy
    rcases hy with rfl | rfl <;> rfl
  · by_cases q : y = x
    · subst q
      cases hD.symm.trans hy
      exact ⟨E', q1.1, q2.2.1, q2.1, hsz⟩
    · exact ⟨cy, q10 y cy q hy, rfl, rfl, rfl⟩
  · obtain ⟨D3, cf, k, i, f, g1, g2, g3, g4, g5, g6, g7⟩ := F
    cases hD.symm.trans g1
    simp only [RoadKit.slotOf, g2, gV, gC, Option.map_some, Option.getD_some] at n1 n2
    exact ⟨E', cf, k, i, f, q1.1, g2, g3, by rw [q2.1]; exact g4, by rw [q2.1]; exact g5, by rw [q2.2.1]; exact g6, by rw [q2.2.2 f.slot (by simp [n1, n2])]; exact g7⟩
end StrChars.Road
namespace StrChars.Road
open Jvm Sem ClassFile Op Lib Jvm.Stand Jvm.Free Jvm.Free.XT
/-- WHAT COMES BACK, the byte[] as a list of values -/
def QA (Z : State) (x : Addr) (zn : Int32) (cs : List Int32) (h : Heap) (v : Option Value) (h' : Heap) (L : List Loc) : Prop := v = none ∧ (∀ y ∈ L, y.base = x) ∧ RoadKit.Keep h h' [x] ∧ h'.size = h.size + 1 ∧ RoadKit.Exa Z h' x ST ∧ RoadKit.Fld Z h' x ST "value" "[B" (.ref h.size) ∧ RoadKit.Fld Z h' x ST "coder" "B" (.int 0) ∧
  (∃ kb, Z.vm.findClass "[B" = some kb ∧ RoadKit.Arv Z h' h.size kb .byte zn (cs.map fun c => .int (lo8 c)) (.int 0)) ∧
  ∀ (O n d : String) (w : Value), RoadKit.Fld Z h x O n d w → RoadKit.slotOf Z O n d ≠ RoadKit.slotOf Z ST "value" "[B" → RoadKit.slotOf Z O n d ≠ RoadKit.slotOf Z ST "coder" "B" → RoadKit.Fld Z h' x O n d w
/-- **new String(chars) AT A CALL, THE ARRAYS AS LISTS**: the char[] at b holds cs, not empty, no char above 255 -/
theorem backArv {p : Program} {l : Launch} {e : Env} {R : Room} {s : State} {args : Array Value} {below : List Frame} {len W : Nat} {Z : State} {a0 : Array Value} {h : Heap} (hZ : Z.Warmed39 s.vm) (hw : ∀ d ∈ words, d.before a0 Z = true) {kI : Nat} (wi : (Jvm.Cond.instantiable ST kI).before a0 Z = true)
    {x b : Addr} {k : ClassId} {zn z : Int32} {cs : List Int32} {dv v0 c0 : Value} (E : RoadKit.Exa Z h x ST) (V : RoadKit.Fld Z h x ST "value" "[B" v0) (C : RoadKit.Fld Z h x ST "coder" "B" c0) (K : RoadKit.Arv Z h b k .char zn (cs.map Value.int) dv) (S : RoadKit.Sta Z h ST "COMPACT_STRINGS" "Z" (.int z)) (hz : ¬ z = 0)
    (hlen : zn.toNatClampNeg = cs.length) (h0 : 0 < cs.length) (hbig : cs.length ≤ 536870912) (hall : ∀ c ∈ cs, ¬ 255 < c) (hfr : 4 ≤ R.frames) (hlo : W + 65 ≤ R.locals) :
    Back l R p e below s args New1.yN len W (fun P a => a = #[.ref x, .ref b] ∧ P.U.heap = h ∧ P.cells + 1 ≤ R.cells ∧ P.slots + cs.length ≤ R.slots)
      (fun P _ v B => ∃ L, QA Z x zn cs h v B.U.heap L ∧ B.locs = P.locs ++ L ∧ B.cells = P.cells + 1 ∧ B.slots = P.slots + cs.length) := by
  obtain ⟨A, K1, K2, K3, K4, K5, K6⟩ := K
  have e : A.slots.size = cs.length := K3.trans hlen
  have hat : ∀ (i : Nat) (hi : i < cs.length), A.slots[i]? = some (.int cs[i]) := fun i hi => by rw [K5 i (by omega)]; simp [List.getD_eq_getElem?_getD, hi]
  have hcv : ∀ (i : Nat) (hi : i < cs.length), cv A i = cs[i] := fun i hi => by unfold cv; rw [hat i hi]
  have hty : Typed .char A := fun i v hv => by
    have hi : i < A.slots.size := (Array.getElem?_eq_some_iff.mp hv).1
    have q := K5 i hi
    rw [hv] at q
    rw [Option.some.inj q]
    exact K6 i hi
  refine Back.mono (back hZ hw wi E V C K1 hty S hz (by omega) (by omega) (fun i hi => by rw [hcv i (by omega)]; exact hall _ (List.getElem_mem _)) hfr hlo) (fun P a hp => ⟨hp.1, hp.2.1, hp.2.2.1, by rw [e]; exact hp.2.2.2⟩) (fun P a v B hp hq => ?_)
  obtain ⟨L, ⟨q1, q2, q3, q4, q5, q6, q7, ⟨V', v1, v2, v3, v4, v5⟩, q9⟩, hl, hc, hs⟩ := hq
  refine ⟨L, ⟨q1, q2, q3, q4, q5, q6, q7, ⟨V'.cls, v3, V', v1, rfl, by rw [v4, e, hlen], K4, fun i hi => ?_, fun i hi => ?_⟩, q9⟩, hl, hc, by rw [hs, e]⟩
  · have hi' : i < cs.length := by omega
    rw [v5 i (by omega), hcv i hi']; simp [List.getD_eq_getElem?_getD, hi']
  · have hi' : i < cs.length := by omega
    simp only [List.getD_eq_getElem?_getD, List.getElem?_map, List.getElem?_eq_getElem hi', Option.map_some, Option.getD_some]
    exact fits_lo8 _
end StrChars.Road
namespace StrChars.Road
open Jvm Sem ClassFile Op Lib Jvm.Stand Jvm.Free Jvm.Free.XT
/-- WHAT COMES BACK, in the writer's own shape -/
def QV (Z : State) (x : Addr) (N : Int32) (bs : List Int32) (h : Heap) (n0 : Nat) (v : Option Value) (h' : Heap) (L : List Loc) : Prop := v = none ∧ RoadKit.Fr n0 L ∧ RoadKit.Keep h h' [x] ∧ RoadKit.Exa Z h' x ST ∧ RoadKit.Fld Z h' x ST "coder" "B" (.int 0) ∧
  ∃ (t : Addr) (kb : ClassId), n0 ≤ t ∧ h.size ≤ t ∧ ¬ t = x ∧ RoadKit.Fld Z h' x ST "value" "[B" (.ref t) ∧ RoadKit.Arv Z h' t kb .byte N (bs.map Value.int) (.int 0)
/-- **new String(chars) AT A CALL, FOR THE WRITER**: a char[] of n known ints, each 0 to 255 -/
theorem backV {p : Program} {l : Launch} {e : Env} {R : Room} {s : State} {args : Array Value} {below : List Frame} {len W : Nat} {Z : State} {a0 : Array Value} {h : Heap} (hZ : Z.Warmed39 s.vm) (hw : ∀ d ∈ words, d.before a0 Z = true) {kI : Nat} (wi : (Jvm.Cond.instantiable ST kI).before a0 Z = true)
    {x b : Addr} {kC : ClassId} {cs bs : List Int32} {d v0 c0 : Value} {z N : Int32} {n n0 : Nat} (hx0 : n0 ≤ x) (hh0 : n0 ≤ h.size) (E : RoadKit.Exa Z h x ST) (V : RoadKit.Fld Z h x ST "value" "[B" v0) (C : RoadKit.Fld Z h x ST "coder" "B" c0) (K : RoadKit.Arv Z h b kC .char N (cs.map Value.int) d) (S : RoadKit.Sta Z h ST "COMPACT_STRINGS" "Z" (.int z)) (hz : ¬ z = 0)
    (hn : cs.length = n) (hN : N = Int32.ofNat n) (l0 : 0 < n) (l2 : n ≤ 4000) (hp : ∀ c ∈ cs, ¬ c < 0 ∧ ¬ (255 : Int32) < c) (hb : bs = cs.map (fun c => c.toInt8.toInt32)) (hfr : 4 ≤ R.frames) (hlo : W + 65 ≤ R.locals) :
    Back l R p e below s args (⟨"java/lang/String", "<init>", "([C)V"⟩ : MethodName) len W (fun P a => a = #[.ref x, .ref b] ∧ P.U.heap = h ∧ P.cells + 1 ≤ R.cells ∧ P.slots + n ≤ R.slots)
      (fun P _ v B => ∃ L, QV Z x N bs h n0 v B.U.heap L ∧ B.locs = P.locs ++ L ∧ B.cells = P.cells + 1 ∧ B.slots = P.slots + n) := by
  subst hn hN hb
  refine Back.mono (backArv hZ hw wi E V C K S hz (n32 (by omega)) l0 (by omega) (fun c hc => (hp c hc).2) hfr hlo) (fun P a hp => hp) (fun P a v B hp hq => ?_)
  obtain ⟨L, ⟨q1, q2, q3, q4, q5, q6, q7, ⟨kb, v1, v2⟩, q9⟩, hl, hc, hs⟩ := hq
  exact ⟨L, ⟨q1, fun y hy => by rw [q2 y hy]; exact hx0, q3, q5, q7, h.size, kb, hh0, Nat.le_refl _, Nat.ne_of_gt E.lt, q6, by rw [List.map_map]; exact v2⟩, hl, hc, hs⟩
end StrChars.Road
namespace StrChars
open Jvm Sem ClassFile Op Lib Jvm.Stand Jvm.Free.XT Jvm.Free.ALB Jvm.Free.JM Jvm.Free
open Jvm.Lib.Cold (StaticIs)
def hi8 (x : Int32) : Int32 := lo8 (x >>> ((8 : Int32) &&& 31))
/-- what StringUTF16.getChar makes of two bytes -/
def pairCh (u v : Int32) : Int32 := (((u &&& 255) <<< ((0 : Int32) &&& 31)) ||| ((v &&& 255) <<< ((8 : Int32) &&& 31))).toUInt32.toUInt16.toUInt32.toInt32
theorem lo8_and (x : Int32) : (lo8 x &&& 255).toBitVec.toNat = x.toBitVec.toNat % 256 := by
  have h : (lo8 x).toBitVec = (x.toBitVec.signExtend 8).signExtend 32 := by rw [lo8, Int8.toBitVec_toInt32, Int32.toBitVec_toInt8]
  rw [Int32.toBitVec_and, BitVec.toNat_and, h]
  have e : ((x.toBitVec.signExtend 8).signExtend 32).toNat % 256 = x.toBitVec.toNat % 256 := by
    rw [BitVec.toNat_signExtend]
    have hlt := x.toBitVec.isLt
    simp only [BitVec.toNat_setWidth, BitVec.toNat_signExtend]
    split <;> split <;> omega
  rw [← e]
  exact Nat.and_two_pow_sub_one_eq_mod _ 8
theorem pair_says {c : Int32} (h0 : ¬ c < 0) (h1 : ¬ 65535 < c) : pairCh (lo8 c) (hi8 c) = c := by
  rw [Int32.lt_iff_toInt_lt] at h0 h1
  have e0 : (0 : Int32).toInt = 0 := rfl
  have e1 : (65535 : Int32).toInt = 65535 := rfl
  have hc : c.toInt = c.toBitVec.toNat := by
    have := c.toBitVec.isLt
    have e : c.toInt = c.toBitVec.toInt := rfl
    rw [e] at h0 h1
    rw [e]
    rw [BitVec.toInt_eq_toNat_cond] at h0 h1 ⊢
    split at h0 <;> split <;> omega
  have hn : c.toBitVec.toNat < 65536 := by omega
  have a1 := lo8_and c
  have a2 : (hi8 c &&& 255).toBitVec.toNat = c.toBitVec.toNat / 256 := by
    rw [hi8, lo8_and]
    have e : ((8 : Int32) &&& 31) = 8 := by decide
    rw [e, Int32.toBitVec_shiftRight]
    have e2 : ((8 : Int32).toBitVec.smod 32) = 8#32 := by decide
    rw [e2, BitVec.sshiftRight_eq', BitVec.toNat_sshiftRight_of_msb_false (by rw [BitVec.msb_eq_false_iff_two_mul_lt]; omega)]
    show c.toBitVec.toNat >>> 8 % 256 = _
    rw [Nat.shiftRight_eq_div_pow]
    omega
  unfold pairCh
  apply Int32.toBitVec_inj.mp
  apply BitVec.eq_of_toNat_eq
  have f0 : ((0 : Int32) &&& 31) = 0 := by decide
  have f8 : ((8 : Int32) &&& 31) = 8 := by decide
  rw [f0, f8]
  have g : (((lo8 c &&& 255) <<< (0 : Int32)) ||| ((hi8 c &&& 255) <<< (8 : Int32))).toBitVec.toNat = c.toBitVec.toNat := by
    rw [Int32.toBitVec_or, Int32.toBitVec_shiftLeft, Int32.toBitVec_shiftLeft]
    have s0 : ((0 : Int32).toBitVec.smod 32) = 0#32 := by decide
    have s8 : ((8 : Int32).toBitVec.smod 32) = 8#32 := by decide
    rw [s0, s8, BitVec.toNat_or]
    simp only [BitVec.shiftLeft_eq', BitVec.toNat_shiftLeft, a1, a2]
    show (c.toBitVec.toNat % 256) <<< 0 % 2 ^ 32 ||| (c.toBitVec.toNat / 256) <<< 8 % 2 ^ 32 = _
    rw [Nat.shiftLeft_zero, Nat.mod_eq_of_lt (show c.toBitVec.toNat % 256 < 2 ^ 32 by omega), Nat.mod_eq_of_lt (show (c.toBitVec.toNat / 256) <<< 8 < 2 ^ 32 by rw [Nat.shiftLeft_eq]; omega), Nat.or_comm, ← Nat.shiftLeft_add_eq_or_of_lt (by omega), Nat.shiftLeft_eq]
    omega
  show BitVec.toNat (((((lo8 c &&& 255) <<< (0 : Int32)) ||| ((hi8 c &&& 255) <<< (8 : Int32))).toBitVec.setWidth 16).setWidth 32) = _
  rw [BitVec.toNat_setWidth, BitVec.toNat_setWidth, g]
  omega
end StrChars
namespace StrChars
open Jvm Sem ClassFile Op Lib Jvm.Stand Jvm.Free.XT Jvm.Free.ALB Jvm.Free.JM Jvm.Free
open Jvm.Lib.Cold (StaticIs)
/-- the array's cell V codes the n chars f 0 .. f (n - 1) by the coder cd, as the JDK does: coder 1 just where some char is above 255 -/
def Cod (cd : Int32) (n : Nat) (f : Nat → Int32) (V : Cell) : Prop := (cd = 0 ∧ V.slots.size = n ∧ ∀ j, j < n → V.slots[j]? = some (.int (lo8 (f j))) ∧ ¬ 255 < f j) ∨ (cd = 1 ∧ V.slots.size = 2 * n ∧ (∀ j, j < n → V.slots[2 * j]? = some (.int (lo8 (f j))) ∧ V.slots[2 * j + 1]? = some (.int (hi8 (f j)))) ∧ ∃ j, j < n ∧ 255 < f j)
/-- **x is a String of the n chars f 0 .. f (n - 1)**, Latin-1 or UTF-16; its array at t has the cell V -/
def Txt (x t : Addr) (V : Cell) (cd : Int32) (n : Nat) (f : Nat → Int32) (U : State) : Prop := Exact "java/lang/String" x U ∧ Has x "java/lang/String" "value" "[B" (.ref t) U ∧ Has x "java/lang/String" "coder" "B" (.int cd) U ∧ XT.Arr .byte t V U ∧ Cod cd n f V ∧ ∀ j, j < n → ¬ f j < 0 ∧ ¬ 65535 < f j
theorem Txt.mv {x t : Addr} {V : Cell} {cd : Int32} {n : Nat} {f : Nat → Int32} {U U' : State} (h : Txt x t V cd n f U) (hal : U.vm.Alike U'.vm) (hh : U'.heap = U.heap) : Txt x t V cd n f U' := ⟨h.1.mv hal hh, h.2.1.mv hal hh, h.2.2.1.mv hal hh, h.2.2.2.1.mv hal hh, h.2.2.2.2⟩
end StrChars
namespace StrChars.Road
open Jvm Sem ClassFile Op Lib Jvm.Stand Jvm.Free Jvm.Free.XT
open Jvm.Lib.Cold (StaticIs)
theorem consq {a : Array Value} {s : State} {c : Jvm.Cond} {L : List Jvm.Cond} (h0 : c.before a s = true) (h : ∀ w ∈ L, w.before a s = true) : ∀ w ∈ c :: L, w.before a s = true := fun w hw => (List.mem_cons.mp hw).elim (fun e => e ▸ h0) (h w)
/-- the bytes of the chars cs, low before high -/
def wideBytes : List Int32 → List Value
  | [] => []
  | c :: cs => .int (lo8 c) :: .int (hi8 c) :: wideBytes cs
theorem wide_lo (d : Value) : ∀ (cs : List Int32) (j : Nat), j < cs.length → (wideBytes cs).getD (2 * j) d = .int (lo8 (cs.getD j 0))
  | [], j, h => absurd h (Nat.not_lt_zero j)
  | c :: cs, 0, _ => rfl
  | c :: cs, j + 1, h => by
    have q := wide_lo d cs j (by simpa using h)
    rw [show 2 * (j + 1) = 2 * j + 1 + 1 from by omega]
    simpa [wideBytes] using q
theorem wide_hi (d : Value) : ∀ (cs : List Int32) (j : Nat), j < cs.length → (wideBytes cs).getD (2 * j + 1) d = .int (hi8 (cs.getD j 0))
  | [], j, h => absurd h (Nat.not_lt_zero j)
  | c :: cs, 0, _ => rfl
  | c :: cs, j + 1, h => by
    have q := wide_hi d cs j (by simpa using h)
    rw [show 2 * (j + 1) + 1 = 2 * j + 1 + 1 + 1 from by omega]
    simpa [wideBytes] using q
theorem low_at (d : Value) (cs : List Int32) (j : Nat) (h : j < cs.length) : (cs.map fun c => Value.int (lo8 c)).getD j d = .int (lo8 (cs.getD j 0)) := by
  simp [List.getD_eq_getElem?_getD, h]
/-- an array of N2 bytes vs codes the chars cs by the coder cd -/
def CodA (cs : List Int32) (cd N2 : Int32) (vs : List Value) : Prop := (cd = 0 ∧ N2 = Int32.ofNat cs.length ∧ vs = (cs.map fun c => Value.int (lo8 c)) ∧ ∀ c ∈ cs, ¬ 255 < c) ∨ (cd = 1 ∧ N2 = Int32.ofNat (2 * cs.length) ∧ vs = wideBytes cs ∧ ∃ c ∈ cs, 255 < c)
theorem CodA.cod {cs : List Int32} {cd N2 : Int32} {vs : List Value} {V : Cell} (h : CodA cs cd N2 vs) (hn : 2 * cs.length < 2 ^ 31) (hs : V.slots.size = N2.toNatClampNeg) (hv : RoadKit.Has V vs (.int 0)) : Cod cd cs.length (fun j => cs.getD j 0) V := by
  rcases h with ⟨rfl, rfl, rfl, h⟩ | ⟨rfl, rfl, rfl, c, hc, hw⟩
  · rw [n32 (by omega)] at hs
    exact Or.inl ⟨rfl, hs, fun j hj => ⟨by rw [hv j (by omega), low_at _ _ _ hj], by
      have e : cs.getD j 0 = cs[j] := by simp [List.getD_eq_getElem?_getD, hj]
      show ¬ 255 < cs.getD j 0
      rw [e]; exact h _ (List.getElem_mem _)⟩⟩
  · rw [n32 (by omega)] at hs
    obtain ⟨j, hj, rfl⟩ := List.getElem_of_mem hc
    exact Or.inr ⟨rfl, hs, fun j hj => ⟨by rw [hv _ (by omega), wide_lo _ _ _ hj], by rw [hv _ (by omega), wide_hi _ _ _ hj]⟩, j, hj, by
      have e : cs.getD j 0 = cs[j] := by simp [List.getD_eq_getElem?_getD, hj]
      show 255 < cs.getD j 0
      rw [e]; exact hw⟩
/-- an object of exactly java/lang/String, its two fields found: as the laws ask it -/
theorem strObj {Z U : State} {a0 : Array Value} {kI : Nat} (wi : (Jvm.Cond.instantiable ST kI).before a0 Z = true) (al : Z.vm.Alike U.vm) {x : Addr} {v0 c0 : Value} (E : RoadKit.Exa Z U.heap x ST) (V : RoadKit.Fld Z U.heap x ST "value" "[B" v0) (C : RoadKit.Fld Z U.heap x ST "coder" "B" c0) :
    ∃ (D : Cell) (fV fC : Field), Blank ST x D U ∧ Found ST "value" "[B" fV U ∧ Found ST "coder" "B" fC U ∧ D.slots[fV.slot]? = some v0 ∧ D.slots[fC.slot]? = some c0 ∧ RoadKit.slotOf Z ST "value" "[B" = fV.slot ∧ RoadKit.slotOf Z ST "coder" "B" = fC.slot := by
  obtain ⟨D, cfV, kV, iV, fV, hD, gV, stV, knV, obV, asV, slV⟩ := V
  obtain ⟨D', cfC, kC, iC, fC, hD', gC, stC, -, -, asC, slC⟩ := C
  cases hD.symm.trans hD'
  obtain ⟨D2, kD, e1, e2, e3, e4, e5⟩ := E
  cases hD.symm.trans e1
  obtain ⟨c2, k2, i1, i2, i3, -⟩ := Cond.instantiable_spec wi
  cases e2.symm.trans i1
  cases e3.symm.trans i2
  obtain ⟨kU, u1, u2⟩ := al.2.2 _ _ e3
  exact ⟨D, fV, fC, ⟨hD, ⟨knV, fun q hq => by rw [hq] at obV; cases obV⟩, by rw [al.findClass]; exact e2, kU, u1, by rw [u2]; exact i3, by rw [u2]; exact e5 i3⟩, ⟨SBG.found_only al ⟨cfV, kV, iV, gV⟩, stV⟩, ⟨SBG.found_only al ⟨cfC, kC, iC, gC⟩, stC⟩, slV, slC, by simp [RoadKit.slotOf, gV], by simp [RoadKit.slotOf, gC]⟩
theorem sta_is {Z U : State} (al : Z.vm.Alike U.vm) {C n d : String} {v : Value} (S : RoadKit.Sta Z U.heap C n d v) : StaticIs U C n d v := by
  obtain ⟨cfS, iS, kS, fS, st, cS, t1, t2, t3, t4, t5, t6, t7⟩ := S
  exact StaticIs.there (s := { Z with heap := U.heap }) ⟨cfS, iS, kS, fS, st, cS, t1, t2, t3, t4, t5, (fun q => by rw [q] at t6; cases t6), t7⟩ al rfl
end StrChars.Road
namespace StrChars
open Jvm Sem ClassFile Op Lib Jvm.Stand Jvm.Free.XT Jvm.Free.ALB Jvm.Free.JM Jvm.Free
open Jvm.Lib.Cold (StaticIs)
/-- what place i of a byte[]'s cell holds -/
def yv (A : Cell) (i : Nat) : Int32 := match A.slots[i]? with | some (.int x) => x | _ => 0
theorem yv_get {a : Addr} {A : Cell} {U : State} (h : XT.Arr .byte a A U) (ht : Typed .byte A) {i : Nat} (hi : i < A.slots.size) : A.slots[i]? = some (.int (yv A i)) := by
  have e := Array.getElem?_eq_getElem hi
  have f := ht i _ e
  unfold yv; rw [e]
  generalize A.slots[i] = v at f
  cases v <;> simp [fits] at f ⊢
/-- the two arrays are equal, place for place -/
def EqC (A B : Cell) : Prop := A.slots.size = B.slots.size ∧ ∀ i, i < A.slots.size → yv A i = yv B i
/-- a boolean that says whether p -/
def Says01 (q : Prop) (r : Option Value) (s u : State) : Prop := ∃ v : Int32, r = some (.int v) ∧ u.heap = s.heap ∧ ((v = 1 ∧ q) ∨ (v = 0 ∧ ¬ q))
theorem Says01.mv {q : Prop} : ∀ r (U U' V V' : State), U'.heap = U.heap → V.vm.Alike V'.vm → V'.heap = V.heap → Says01 q r U V → Says01 q r U' V' :=
  fun r U U' V V' h1 _ h2 ⟨v, a, b, c⟩ => ⟨v, a, by rw [h1, h2]; exact b, c⟩
namespace LEq
def yN : MethodName := ⟨"java/lang/StringLatin1", "equals", "([B[B)Z"⟩
abbrev yB : ByteArray := jdk_43_method_13_code
theorem d0 : decode yB 0 = .ok (.aload_n 0, 1) := by decide +kernel
theorem d1 : decode yB 1 = .ok (.arraylength, 1) := by decide +kernel
theorem d2 : decode yB 2 = .ok (.aload_n 1, 1) := by decide +kernel
theorem d3 : decode yB 3 = .ok (.arraylength, 1) := by decide +kernel
theorem d4 : decode yB 4 = .ok (.if_icmp (.ne) 30, 3) := by decide +kernel
theorem d7 : decode yB 7 = .ok (.iconst 0, 1) := by decide +kernel
theorem d8 : decode yB 8 = .ok (.istore_n 2, 1) := by decide +kernel
theorem d9 : decode yB 9 = .ok (.iload_n 2, 1) := by decide +kernel
theorem d10 : decode yB 10 = .ok (.aload_n 0, 1) := by decide +kernel
theorem d11 : decode yB 11 = .ok (.arraylength, 1) := by decide +kernel
theorem d12 : decode yB 12 = .ok (.if_icmp (.ge) 20, 3) := by decide +kernel
theorem d15 : decode yB 15 = .ok (.aload_n 0, 1) := by decide +kernel
theorem d16 : decode yB 16 = .ok (.iload_n 2, 1) := by decide +kernel
theorem d17 : decode yB 17 = .ok (.baload, 1) := by decide +kernel
theorem d18 : decode yB 18 = .ok (.aload_n 1, 1) := by decide +kernel
theorem d19 : decode yB 19 = .ok (.iload_n 2, 1) := by decide +kernel
theorem d20 : decode yB 20 = .ok (.baload, 1) := by decide +kernel
theorem d21 : decode yB 21 = .ok (.if_icmp (.eq) 5, 3) := by decide +kernel
theorem d24 : decode yB 24 = .ok (.iconst 0, 1) := by decide +kernel
theorem d25 : decode yB 25 = .ok (.ireturn, 1) := by decide +kernel
theorem d26 : decode yB 26 = .ok (.iinc 2 1, 3) := by decide +kernel
theorem d29 : decode yB 29 = .ok (.goto (-20), 3) := by decide +kernel
theorem d32 : decode yB 32 = .ok (.iconst 1, 1) := by decide +kernel
theorem d33 : decode yB 33 = .ok (.ireturn, 1) := by decide +kernel
theorem d34 : decode yB 34 = .ok (.iconst 0, 1) := by decide +kernel
theorem d35 : decode yB 35 = .ok (.ireturn, 1) := by decide +kernel
def site : List Cond := []
def tab : Cond := tabOf yN yB 3 (some .boolean) site
def P (a : Addr) (A : Cell) (b : Addr) (B : Cell) (args : Array Value) (s : State) : Prop := args = #[.ref a, .ref b] ∧ XT.Arr .byte a A s ∧ Typed .byte A ∧ XT.Arr .byte b B s ∧ Typed .byte B
/-- whether two byte[] are equal, place for place -/
theorem law (l : Launch) (a : Addr) (A : Cell) (b : Addr) (B : Cell) : Law l yN 2 2 0 0 yB 3 (some .boolean) site (P a A b B) (Says01 (EqC A B)) [] 0 0 := by
  refine Law.of_walk (plainFor_of_name (by decide +kernel)) (by decide +kernel) (by decide +kernel) (by decide) (fun _ _ h => by rw [h.1]; rfl) (fun _ U U' hal hh h => ⟨h.1, h.2.1.mv hal hh, h.2.2.1, h.2.2.2.1.mv hal hh, h.2.2.2.2⟩) (fun r U U' V V' h1 hal h2 h => Says01.mv r U U' V V' h1 hal h2 h) ?_
  intro p e s m args below meth c s₁ X0 hexec hbytes hml hret hlk hnm hown hh0 W hP
  obtain ⟨rfl, hA, tA, hB, tB⟩ := hP
  have a31 := hA.2.2.2
  have b31 := hB.2.2.2
  have hA0 := hA.mv X0.warmed.alike hh0
  have hB0 := hB.mv X0.warmed.alike hh0
  have c1 : Steps p.tables e below (s₁.setTop (entryFrame m #[.ref a, .ref b] 3)) (s₁.setTop (mkF m 0 #[.val (.ref a), .val (.ref b), .unset] [])) := entry rfl
  have c2 : Steps p.tables e below (s₁.setTop (entryFrame m #[.ref a, .ref b] 3)) (s₁.setTop (mkF m 4 #[.val (.ref a), .val (.ref b), .unset] [.int (Int32.ofNat B.slots.size), .int (Int32.ofNat A.slots.size)])) := c1.trans (by
    refine XS.aloadN X0.here hexec rfl (hb hbytes d0) rfl rfl ?_
    refine X0.alen hexec hA0 rfl rfl (hb hbytes d1) ?_
    refine XS.aloadN X0.here hexec rfl (hb hbytes d2) rfl rfl ?_
    refine X0.alen hexec hB0 rfl rfl (hb hbytes d3) ?_
    exact Steps.refl _)
  by_cases hs : A.slots.size = B.slots.size
  · have c3 : Steps p.tables e below (s₁.setTop (entryFrame m #[.ref a, .ref b] 3)) (s₁.setTop (mkF m 9 #[.val (.ref a), .val (.ref b), .val (.int 0)] [])) := c2.trans (by
      refine XS.icmpNo X0.here hexec rfl (hb hbytes d4) rfl (ii_ne_f (by rw [hs])) ?_
      refine iconstV X0.here hexec rfl 0 (hb hbytes d7) (by decide) ?_
      refine XS.istoreN X0.here hexec rfl (hb hbytes d8) rfl rfl ?_
      exact Steps.refl _)
    have loop : ∀ (r i : Nat), i + r = A.slots.size → (∀ j, j < i → yv A j = yv B j) → Steps p.tables e below (s₁.setTop (entryFrame m #[.ref a, .ref b] 3)) (s₁.setTop (mkF m 9 #[.val (.ref a), .val (.ref b), .val (.int (Int32.ofNat i))] [])) → ∃ (pc : Nat) (Ls : Array Slot) (v : Int32), (pc = 25 ∨ pc = 33) ∧ ((v = 1 ∧ EqC A B) ∨ (v = 0 ∧ ¬ EqC A B)) ∧ Steps p.tables e below (s₁.setTop (entryFrame m #[.ref a, .ref b] 3)) (s₁.setTop (mkF m pc Ls [.int v])) := by
      intro r
      induction r with
      | zero =>
        intro i hi he cl
        exact ⟨33, _, 1, Or.inr rfl, Or.inl ⟨rfl, hs, fun j hj => he j (by omega)⟩, cl.trans (by
          refine XS.iloadN X0.here hexec rfl (hb hbytes d9) rfl ?_
          refine XS.aloadN X0.here hexec rfl (hb hbytes d10) rfl rfl ?_
          refine X0.alen hexec hA0 rfl rfl (hb hbytes d11) ?_
          refine XS.icmpYes X0.here hexec rfl (pc0 := 12) rfl (hb hbytes d12) rfl (ii_ge_t (nlt32 (by omega) (by omega))) (by decide) rfl ?_
          refine iconstV X0.here hexec rfl 1 (hb hbytes d32) (by decide) ?_
          exact Steps.refl _)⟩
      | succ r ih =>
        intro i hi he cl
        have c4 : Steps p.tables e below (s₁.setTop (entryFrame m #[.ref a, .ref b] 3)) (s₁.setTop (mkF m 21 #[.val (.ref a), .val (.ref b), .val (.int (Int32.ofNat i))] [.int (yv B i), .int (yv A i)])) := cl.trans (by
          refine XS.iloadN X0.here hexec rfl (hb hbytes d9) rfl ?_
          refine XS.aloadN X0.here hexec rfl (hb hbytes d10) rfl rfl ?_
          refine X0.alen hexec hA0 rfl rfl (hb hbytes d11) ?_
          refine XS.icmpNo X0.here hexec rfl (hb hbytes d12) rfl (ii_ge_f (lt32 (by omega) (by omega))) ?_
          refine XS.aloadN X0.here hexec rfl (hb hbytes d15) rfl rfl ?_
          refine XS.iloadN X0.here hexec rfl (hb hbytes d16) rfl ?_
          refine X0.aget hexec hA0 rfl (yv_get hA tA (i := i) (by omega)) rfl rfl (hb hbytes d17) ?_
          refine XS.aloadN X0.here hexec rfl (hb hbytes d18) rfl rfl ?_
          refine XS.iloadN X0.here hexec rfl (hb hbytes d19) rfl ?_
          refine X0.aget hexec hB0 rfl (yv_get hB tB (i := i) (by omega)) rfl rfl (hb hbytes d20) ?_
          exact Steps.refl _)
        by_cases hv : yv A i = yv B i
        · have c5 : Steps p.tables e below (s₁.setTop (entryFrame m #[.ref a, .ref b] 3)) (s₁.setTop (mkF m 9 #[.val (.ref a), .val (.ref b), .val (.int (Int32.ofNat i + 1))] [])) := c4.trans (by
            refine XS.icmpYes X0.here hexec rfl (pc0 := 21) rfl (hb hbytes d21) rfl (ii_eq_t hv) (by decide) rfl ?_
            refine iincV X0.here hexec rfl 1 (hb hbytes d26) (by decide) rfl rfl ?_
            refine XS.goto X0.here hexec rfl (pc0 := 29) rfl (hb hbytes d29) (by decide) rfl ?_
            exact Steps.refl _)
          rw [succ32] at c5
          exact ih (i + 1) (by omega) (fun j hj => by
            by_cases e : j = i
            · rw [e]; exact hv
            · exact he j (by omega)) c5
        · exact ⟨25, _, 0, Or.inl rfl, Or.inr ⟨rfl, fun q => hv (q.2 i (by omega))⟩, c4.trans (by
            refine XS.icmpNo X0.here hexec rfl (hb hbytes d21) rfl (ii_eq_f hv) ?_
            refine iconstV X0.here hexec rfl 0 (hb hbytes d24) (by decide) ?_
            exact Steps.refl _)⟩
    obtain ⟨pc, Ls, v, hpc, hv, cz⟩ := loop A.slots.size 0 (by omega) (fun j hj => absurd hj (Nat.not_lt_zero j)) c3
    have nv : narrow .boolean (.int v) = .int v := by rcases hv with ⟨rfl, -⟩ | ⟨rfl, -⟩ <;> rfl
    rcases hpc with rfl | rfl
    · exact ⟨s₁, some (.int v), _, _, _, X0, rfl, rfl, rfl, (fun h => by cases h), ⟨v, rfl, hh0, hv⟩, fun fs hl => cz.trans (X0.ireturnOut hexec hret nv (Or.inr (Or.inl rfl)) (hb hbytes d25) hl)⟩
    · exact ⟨s₁, some (.int v), _, _, _, X0, rfl, rfl, rfl, (fun h => by cases h), ⟨v, rfl, hh0, hv⟩, fun fs hl => cz.trans (X0.ireturnOut hexec hret nv (Or.inr (Or.inl rfl)) (hb hbytes d33) hl)⟩
  · have c3 : Steps p.tables e below (s₁.setTop (entryFrame m #[.ref a, .ref b] 3)) (s₁.setTop (mkF m 35 #[.val (.ref a), .val (.ref b), .unset] [.int 0])) := c2.trans (by
      refine XS.icmpYes X0.here hexec rfl (pc0 := 4) rfl (hb hbytes d4) rfl (ii_ne_t (ne32 a31 b31 hs)) (by decide) rfl ?_
      refine iconstV X0.here hexec rfl 0 (hb hbytes d34) (by decide) ?_
      exact Steps.refl _)
    exact ⟨s₁, some (.int 0), _, _, _, X0, rfl, rfl, rfl, (fun h => by cases h), ⟨0, rfl, hh0, Or.inr ⟨rfl, fun q => hs q.1⟩⟩, fun fs hl => c3.trans (X0.ireturnOut hexec hret rfl (Or.inr (Or.inl rfl)) (hb hbytes d35) hl)⟩
end LEq
theorem Cod.ty {cd : Int32} {n : Nat} {f : Nat → Int32} {V : Cell} (h : Cod cd n f V) : Typed .byte V := fun i v hv => by
  have hi : i < V.slots.size := (Array.getElem?_eq_some_iff.mp hv).1
  rcases h with ⟨-, k1, k2⟩ | ⟨-, k1, k2, -⟩
  · rw [(k2 i (by omega)).1] at hv; cases hv; exact fits_lo8 _
  · rcases Nat.mod_two_eq_zero_or_one i with e | e
    · obtain ⟨j, rfl⟩ : ∃ j, i = 2 * j := ⟨i / 2, by omega⟩
      rw [(k2 j (by omega)).1] at hv; cases hv; exact fits_lo8 _
    · obtain ⟨j, rfl⟩ : ∃ j, i = 2 * j + 1 := ⟨i / 2, by omega⟩
      rw [(k2 j (by omega)).2] at hv; cases hv; exact fits_lo8 _
/-- the same text -/
def SameT (n : Nat) (f : Nat → Int32) (k : Nat) (g : Nat → Int32) : Prop := n = k ∧ ∀ j, j < n → f j = g j
theorem lo8_inj {x y : Int32} (h0 : ¬ x < 0) (h1 : ¬ 255 < x) (k0 : ¬ y < 0) (k1 : ¬ 255 < y) (h : lo8 x = lo8 y) : x = y := by
  rw [← lo8_mask h0 h1, ← lo8_mask k0 k1, h]
/-- arrays coded by one coder are equal just where the texts are -/
theorem Cod.eqv {cd : Int32} {n k : Nat} {f g : Nat → Int32} {V V' : Cell} (h : Cod cd n f V) (h' : Cod cd k g V') (hf : ∀ j, j < n → ¬ f j < 0 ∧ ¬ 65535 < f j) (hg : ∀ j, j < k → ¬ g j < 0 ∧ ¬ 65535 < g j) : EqC V V' ↔ SameT n f k g := by
  have yvv : ∀ {W : Cell} {i : Nat} {x : Int32}, W.slots[i]? = some (.int x) → yv W i = x := fun q => by unfold yv; rw [q]
  rcases h with ⟨rfl, k1, k2⟩ | ⟨rfl, k1, k2, -⟩
  · rcases h' with ⟨-, m1, m2⟩ | ⟨e, -⟩
    · constructor
      · rintro ⟨e1, e2⟩
        refine ⟨by omega, fun j hj => ?_⟩
        have q := e2 j (by omega)
        rw [yvv (k2 j hj).1, yvv (m2 j (by omega)).1] at q
        exact lo8_inj (hf j hj).1 (k2 j hj).2 (hg j (by omega)).1 (m2 j (by omega)).2 q
      · rintro ⟨rfl, e2⟩
        refine ⟨by omega, fun j hj => ?_⟩
        rw [yvv (k2 j (by omega)).1, yvv (m2 j (by omega)).1, e2 j (by omega)]
    · exact absurd e (by decide)
  · rcases h' with ⟨e, -⟩ | ⟨-, m1, m2, -⟩
    · exact absurd e (by decide)
    · constructor
      · rintro ⟨e1, e2⟩
        refine ⟨by omega, fun j hj => ?_⟩
        have q1 := e2 (2 * j) (by omega)
        have q2 := e2 (2 * j + 1) (by omega)
        rw [yvv (k2 j hj).1, yvv (m2 j (by omega)).1] at q1
        rw [yvv (k2 j hj).2, yvv (m2 j (by omega)).2] at q2
        rw [← pair_says (hf j hj).1 (hf j hj).2, ← pair_says (hg j (by omega)).1 (hg j (by omega)).2, q1, q2]
      · rintro ⟨rfl, e2⟩
        refine ⟨by omega, fun i hi => ?_⟩
        rcases Nat.mod_two_eq_zero_or_one i with e | e
        · obtain ⟨j, rfl⟩ : ∃ j, i = 2 * j := ⟨i / 2, by omega⟩
          rw [yvv (k2 j (by omega)).1, yvv (m2 j (by omega)).1, e2 j (by omega)]
        · obtain ⟨j, rfl⟩ : ∃ j, i = 2 * j + 1 := ⟨i / 2, by omega⟩
          rw [yvv (k2 j (by omega)).2, yvv (m2 j (by omega)).2, e2 j (by omega)]
/-- two codings differ: so do the texts -/
theorem Cod.dif {cd cd' : Int32} {n k : Nat} {f g : Nat → Int32} {V V' : Cell} (h : Cod cd n f V) (h' : Cod cd' k g V') (hne : ¬ cd = cd') : ¬ SameT n f k g := by
  rintro ⟨rfl, e⟩
  rcases h with ⟨rfl, -, k2⟩ | ⟨rfl, -, -, j, hj, hw⟩
  · rcases h' with ⟨rfl, -⟩ | ⟨-, -, -, j, hj, hw⟩
    · exact hne rfl
    · exact (k2 j hj).2 (by rw [e j hj]; exact hw)
  · rcases h' with ⟨-, -, m2⟩ | ⟨rfl, -⟩
    · exact (m2 j hj).2 (by rw [← e j hj]; exact hw)
    · exact hne rfl
/-- an object of exactly C is an instance of C -/
theorem cinst {p : Program} {l : Launch} {e : Env} {R : Room} {s : State} {m : MethodId} {args : Array Value} {below : List Frame} {meth : Method} {c : Code} {T : State} {locs : List Loc} {cells slots : Nat} (X : Stand p l e R s m args below meth c T locs cells slots) (hexec : p.tables.exec = Jvm.exec) {own C : String} {index : Nat} (hown : s.vm.findClass own = some m.cls) (hlink : (Cond.classLink own index C).before args s = true) {a : Addr} (hE : Exact C a T)
    {g : JFrame} (hg : g.method = m) {rest : List Value} (hstack : g.stack = .ref a :: rest) (hdg : decode c.code g.pc = .ok (.instanceof index, 3)) :
    ∃ T', Stand p l e R s m args below meth c T' locs cells slots ∧ T'.heap = T.heap ∧ ∀ target, Steps p.tables e below (T'.setTop { g with pc := g.pc + 3, stack := .int 1 :: rest }) target → Steps p.tables e below (T.setTop g) target := by
  obtain ⟨cB, h1, D, h2, h3, h4⟩ := hE
  have h1' : s.vm.findClass C = some cB := by rw [← X.warmed.alike.findClass]; exact h1
  obtain ⟨vm', X', st⟩ := X.instanceofYes hexec hown hlink h2 h4 h1' (by rw [h3]; exact Jvm.Free.SB.assignable_self _ _) hg hstack hdg
  exact ⟨_, X', rfl, st⟩
theorem cself {p : Program} {l : Launch} {e : Env} {R : Room} {s : State} {m : MethodId} {args : Array Value} {below : List Frame} {meth : Method} {c : Code} {T : State} {locs : List Loc} {cells slots : Nat} (X : Stand p l e R s m args below meth c T locs cells slots) (hexec : p.tables.exec = Jvm.exec) {own C : String} {index : Nat} (hown : s.vm.findClass own = some m.cls) (hlink : (Cond.classLink own index C).before args s = true) {a : Addr} (hE : Exact C a T)
    {g : JFrame} (hg : g.method = m) {rest : List Value} (hstack : g.stack = .ref a :: rest) (hdg : decode c.code g.pc = .ok (.checkcast index, 3)) :
    ∃ T', Stand p l e R s m args below meth c T' locs cells slots ∧ T'.heap = T.heap ∧ ∀ target, Steps p.tables e below (T'.setTop { g with pc := g.pc + 3, stack := .ref a :: rest }) target → Steps p.tables e below (T.setTop g) target := by
  obtain ⟨cB, h1, D, h2, h3, h4⟩ := hE
  have h1' : s.vm.findClass C = some cB := by rw [← X.warmed.alike.findClass]; exact h1
  obtain ⟨vm', X', st⟩ := X.checkcastYes hexec hown hlink h2 h4 h1' (by rw [h3]; exact Jvm.Free.SB.assignable_self _ _) hg hstack hdg
  exact ⟨_, X', rfl, fun t h => st t (by rw [← hstack] at h; exact h)⟩
namespace SEq
def yN : MethodName := ⟨"java/lang/String", "equals", "(Ljava/lang/Object;)Z"⟩
abbrev yB : ByteArray := jdk_42_method_66_code
theorem d0 : decode yB 0 = .ok (.aload_n 0, 1) := by decide +kernel
theorem d1 : decode yB 1 = .ok (.aload_n 1, 1) := by decide +kernel
theorem d2 : decode yB 2 = .ok (.if_acmp (.ne) 5, 3) := by decide +kernel
theorem d5 : decode yB 5 = .ok (.iconst 1, 1) := by decide +kernel
theorem d6 : decode yB 6 = .ok (.ireturn, 1) := by decide +kernel
theorem d7 : decode yB 7 = .ok (.aload_n 1, 1) := by decide +kernel
theorem d8 : decode yB 8 = .ok (.instanceof 10, 3) := by decide +kernel
theorem d11 : decode yB 11 = .ok (.ifCond (.eq) 43, 3) := by decide +kernel
theorem d14 : decode yB 14 = .ok (.aload_n 1, 1) := by decide +kernel
theorem d15 : decode yB 15 = .ok (.checkcast 10, 3) := by decide +kernel
theorem d18 : decode yB 18 = .ok (.astore_n 2, 1) := by decide +kernel
theorem d19 : decode yB 19 = .ok (.getstatic 38, 3) := by decide +kernel
theorem d22 : decode yB 22 = .ok (.ifCond (.eq) 14, 3) := by decide +kernel
theorem d25 : decode yB 25 = .ok (.aload_n 0, 1) := by decide +kernel
theorem d26 : decode yB 26 = .ok (.getfield 15, 3) := by decide +kernel
theorem d29 : decode yB 29 = .ok (.aload_n 2, 1) := by decide +kernel
theorem d30 : decode yB 30 = .ok (.getfield 15, 3) := by decide +kernel
theorem d33 : decode yB 33 = .ok (.if_icmp (.ne) 21, 3) := by decide +kernel
theorem d36 : decode yB 36 = .ok (.aload_n 0, 1) := by decide +kernel
theorem d37 : decode yB 37 = .ok (.getfield 9, 3) := by decide +kernel
theorem d40 : decode yB 40 = .ok (.aload_n 2, 1) := by decide +kernel
theorem d41 : decode yB 41 = .ok (.getfield 9, 3) := by decide +kernel
theorem d44 : decode yB 44 = .ok (.invokestatic 541, 3) := by decide +kernel
theorem d47 : decode yB 47 = .ok (.ifCond (.eq) 7, 3) := by decide +kernel
theorem d50 : decode yB 50 = .ok (.iconst 1, 1) := by decide +kernel
theorem d51 : decode yB 51 = .ok (.goto 4, 3) := by decide +kernel
theorem d54 : decode yB 54 = .ok (.iconst 0, 1) := by decide +kernel
theorem d55 : decode yB 55 = .ok (.ireturn, 1) := by decide +kernel
def site : List Cond := [.classLink "java/lang/String" 10 "java/lang/String", .fieldLink "java/lang/String" 38 "java/lang/String" "COMPACT_STRINGS" "Z", .fieldLink "java/lang/String" 15 "java/lang/String" "coder" "B", .fieldLink "java/lang/String" 9 "java/lang/String" "value" "[B", LEq.tab] ++ staticW "java/lang/String" 541 LEq.yN
def tab : Cond := tabOf yN yB 3 (some .boolean) site
def P (x t : Addr) (V : Cell) (cd : Int32) (n : Nat) (f : Nat → Int32) (y t' : Addr) (V' : Cell) (cd' : Int32) (k : Nat) (g : Nat → Int32) (z : Int32) (args : Array Value) (s : State) : Prop := args = #[.ref x, .ref y] ∧ Txt x t V cd n f s ∧ Txt y t' V' cd' k g s ∧ StaticIs s "java/lang/String" "COMPACT_STRINGS" "Z" (.int z) ∧ ¬ z = 0
/-- equals(Object) of two Strings: whether the texts are the same -/
theorem law (l : Launch) (x t : Addr) (V : Cell) (cd : Int32) (n : Nat) (f : Nat → Int32) (y t' : Addr) (V' : Cell) (cd' : Int32) (k : Nat) (g : Nat → Int32) (z : Int32) : Law l yN 2 1 1 14 yB 3 (some .boolean) site (P x t V cd n f y t' V' cd' k g z) (Says01 (SameT n f k g)) [] 0 0 := by
  refine Law.of_walk (plainFor_of_name (by decide +kernel)) (by decide +kernel) (by decide +kernel) (by decide) (fun _ _ h => by rw [h.1]; rfl) (fun _ U U' hal hh h => ⟨h.1, h.2.1.mv hal hh, h.2.2.1.mv hal hh, h.2.2.2.1.there hal hh, h.2.2.2.2⟩) (fun r U U' V V' h1 hal h2 h => Says01.mv r U U' V V' h1 hal h2 h) ?_
  intro p e s m args below meth c s₁ X0 hexec hbytes hml hret hlk hnm hown hh0 W hP
  obtain ⟨rfl, hx, hy, s1, hz⟩ := hP
  have c1 : Steps p.tables e below (s₁.setTop (entryFrame m #[.ref x, .ref y] 3)) (s₁.setTop (mkF m 2 #[.val (.ref x), .val (.ref y), .unset] [.ref y, .ref x])) := Steps.trans (entry rfl) (by
    show Steps p.tables e below (s₁.setTop (mkF m 0 #[.val (.ref x), .val (.ref y), .unset] [])) _
    refine XS.aloadN X0.here hexec rfl (hb hbytes d0) rfl rfl ?_
    refine XS.aloadN X0.here hexec rfl (hb hbytes d1) rfl rfl ?_
    exact Steps.refl _)
  by_cases hxy : x = y
  · have c2 : Steps p.tables e below (s₁.setTop (entryFrame m #[.ref x, .ref y] 3)) (s₁.setTop (mkF m 6 #[.val (.ref x), .val (.ref y), .unset] [.int 1])) := c1.trans (by
      refine acmpNo X0.here hexec rfl (hb hbytes d2) rfl rfl rfl (by simp [acmp, hxy]) ?_
      refine iconstV X0.here hexec rfl 1 (hb hbytes d5) (by decide) ?_
      exact Steps.refl _)
    subst hxy
    have ec : cd = cd' := by
      obtain ⟨D, fd, a1, a2, a3⟩ := hx.2.2.1
      obtain ⟨D', fd', b1, b2, b3⟩ := hy.2.2.1
      cases a1.symm.trans b1
      obtain ⟨q1, q2, q3, q4⟩ := a2.1
      obtain ⟨r1, r2, r3, r4⟩ := b2.1
      cases q4.symm.trans r4
      cases a3.symm.trans b3; rfl
    have et : t = t' := by
      obtain ⟨D, fd, a1, a2, a3⟩ := hx.2.1
      obtain ⟨D', fd', b1, b2, b3⟩ := hy.2.1
      cases a1.symm.trans b1
      obtain ⟨q1, q2, q3, q4⟩ := a2.1
      obtain ⟨r1, r2, r3, r4⟩ := b2.1
      cases q4.symm.trans r4
      cases a3.symm.trans b3; rfl
    subst ec et
    have ev : V = V' := by cases hx.2.2.2.1.1.symm.trans hy.2.2.2.1.1; rfl
    subst ev
    have hs : SameT n f k g := (Cod.eqv hx.2.2.2.2.1 hy.2.2.2.2.1 hx.2.2.2.2.2 hy.2.2.2.2.2).mp ⟨rfl, fun _ _ => rfl⟩
    exact ⟨s₁, some (.int 1), _, _, _, X0, rfl, rfl, rfl, (fun h => by cases h), ⟨1, rfl, hh0, Or.inl ⟨rfl, hs⟩⟩, fun fs hl => c2.trans (X0.ireturnOut hexec hret rfl (Or.inr (Or.inl rfl)) (hb hbytes d6) hl)⟩
  · have c2 : Steps p.tables e below (s₁.setTop (entryFrame m #[.ref x, .ref y] 3)) (s₁.setTop (mkF m 8 #[.val (.ref x), .val (.ref y), .unset] [.ref y])) := c1.trans (by
      refine acmpYes X0.here hexec rfl (pc0 := 2) rfl (hb hbytes d2) rfl rfl rfl (by simp [acmp, hxy]) (by decide) rfl ?_
      refine XS.aloadN X0.here hexec rfl (hb hbytes d7) rfl rfl ?_
      exact Steps.refl _)
    obtain ⟨T3, X3, q3, st3⟩ := cinst X0 hexec hown (wk W (.classLink "java/lang/String" 10 "java/lang/String")) (hy.mv X0.warmed.alike hh0).1 (g := (mkF m 8 #[.val (.ref x), .val (.ref y), .unset] [.ref y])) rfl (rest := []) rfl (hb hbytes d8)
    have hh3 := q3.trans hh0
    have c4 : Steps p.tables e below (s₁.setTop (entryFrame m #[.ref x, .ref y] 3)) (T3.setTop (mkF m 15 #[.val (.ref x), .val (.ref y), .unset] [.ref y])) := (c2.trans (st3 _ (Steps.refl _))).trans (by
      refine XS.ifNo X3.here hexec rfl (hb hbytes d11) rfl (i0_eq_f (by decide)) ?_
      refine XS.aloadN X3.here hexec rfl (hb hbytes d14) rfl rfl ?_
      exact Steps.refl _)
    obtain ⟨T5, X5, q5, st5⟩ := cself X3 hexec hown (wk W (.classLink "java/lang/String" 10 "java/lang/String")) (hy.mv X3.warmed.alike hh3).1 (g := (mkF m 15 #[.val (.ref x), .val (.ref y), .unset] [.ref y])) rfl (rest := []) rfl (hb hbytes d15)
    have hh5 := q5.trans hh3
    have c6 : Steps p.tables e below (s₁.setTop (entryFrame m #[.ref x, .ref y] 3)) (T5.setTop (mkF m 19 #[.val (.ref x), .val (.ref y), .val (.ref y)] [])) := (c4.trans (st5 _ (Steps.refl _))).trans (by
      refine XS.astoreN X5.here hexec rfl (hb hbytes d18) rfl rfl rfl ?_
      exact Steps.refl _)
    obtain ⟨T7, X7, q7, st7⟩ := X5.sget hexec hown (wk W (.fieldLink "java/lang/String" 38 "java/lang/String" "COMPACT_STRINGS" "Z")) s1 (fun _ _ h => by rw [hh5]; exact h) (g := (mkF m 19 #[.val (.ref x), .val (.ref y), .val (.ref y)] [])) rfl (hb hbytes d19)
    have hh7 := q7.trans hh5
    have c8 : Steps p.tables e below (s₁.setTop (entryFrame m #[.ref x, .ref y] 3)) (T7.setTop (mkF m 26 #[.val (.ref x), .val (.ref y), .val (.ref y)] [.ref x])) := (c6.trans (st7 _ (Steps.refl _))).trans (by
      refine XS.ifNo X7.here hexec rfl (hb hbytes d22) rfl (i0_eq_f hz) ?_
      refine XS.aloadN X7.here hexec rfl (hb hbytes d25) rfl rfl ?_
      exact Steps.refl _)
    obtain ⟨T9, X9, q9, st9⟩ := X7.hget hexec hown (wk W (.fieldLink "java/lang/String" 15 "java/lang/String" "coder" "B")) (hx.mv X7.warmed.alike hh7).2.2.1 (g := (mkF m 26 #[.val (.ref x), .val (.ref y), .val (.ref y)] [.ref x])) rfl (rest := []) rfl (hb hbytes d26)
    have hh9 := q9.trans hh7
    have c10 : Steps p.tables e below (s₁.setTop (entryFrame m #[.ref x, .ref y] 3)) (T9.setTop (mkF m 30 #[.val (.ref x), .val (.ref y), .val (.ref y)] [.ref y, .int cd])) := (c8.trans (st9 _ (Steps.refl _))).trans (by
      refine XS.aloadN X9.here hexec rfl (hb hbytes d29) rfl rfl ?_
      exact Steps.refl _)
    obtain ⟨T11, X11, q11, st11⟩ := X9.hget hexec hown (wk W (.fieldLink "java/lang/String" 15 "java/lang/String" "coder" "B")) (hy.mv X9.warmed.alike hh9).2.2.1 (g := (mkF m 30 #[.val (.ref x), .val (.ref y), .val (.ref y)] [.ref y, .int cd])) rfl (rest := [.int cd]) rfl (hb hbytes d30)
    have hh11 := q11.trans hh9
    have c12 : Steps p.tables e below (s₁.setTop (entryFrame m #[.ref x, .ref y] 3)) (T11.setTop (mkF m 33 #[.val (.ref x), .val (.ref y), .val (.ref y)] [.int cd', .int cd])) := c10.trans (st11 _ (Steps.refl _))
    by_cases hcd : cd = cd'
    · subst hcd
      have c13 : Steps p.tables e below (s₁.setTop (entryFrame m #[.ref x, .ref y] 3)) (T11.setTop (mkF m 37 #[.val (.ref x), .val (.ref y), .val (.ref y)] [.ref x])) := c12.trans (by
        refine XS.icmpNo X11.here hexec rfl (hb hbytes d33) rfl (ii_ne_f rfl) ?_
        refine XS.aloadN X11.here hexec rfl (hb hbytes d36) rfl rfl ?_
        exact Steps.refl _)
      obtain ⟨T14, X14, q14, st14⟩ := X11.hget hexec hown (wk W (.fieldLink "java/lang/String" 9 "java/lang/String" "value" "[B")) (hx.mv X11.warmed.alike hh11).2.1 (g := (mkF m 37 #[.val (.ref x), .val (.ref y), .val (.ref y)] [.ref x])) rfl (rest := []) rfl (hb hbytes d37)
      have hh14 := q14.trans hh11
      have c15 : Steps p.tables e below (s₁.setTop (entryFrame m #[.ref x, .ref y] 3)) (T14.setTop (mkF m 41 #[.val (.ref x), .val (.ref y), .val (.ref y)] [.ref y, .ref t])) := (c13.trans (st14 _ (Steps.refl _))).trans (by
        refine XS.aloadN X14.here hexec rfl (hb hbytes d40) rfl rfl ?_
        exact Steps.refl _)
      obtain ⟨T16, X16, q16, st16⟩ := X14.hget hexec hown (wk W (.fieldLink "java/lang/String" 9 "java/lang/String" "value" "[B")) (hy.mv X14.warmed.alike hh14).2.1 (g := (mkF m 41 #[.val (.ref x), .val (.ref y), .val (.ref y)] [.ref y, .ref t])) rfl (rest := [.ref t]) rfl (hb hbytes d41)
      have hh16 := q16.trans hh14
      have c17 : Steps p.tables e below (s₁.setTop (entryFrame m #[.ref x, .ref y] 3)) (T16.setTop (mkF m 44 #[.val (.ref x), .val (.ref y), .val (.ref y)] [.ref t', .ref t])) := c15.trans (st16 _ (Steps.refl _))
      obtain ⟨v18, T18, X18, E18, g18⟩ := X16.callS hexec (LEq.law l t V t' V') hown (wks W (staticW "java/lang/String" 541 LEq.yN)) (wk W LEq.tab) (W := 0) (Nat.le_of_ble_eq_true rfl) (Nat.le_of_ble_eq_true rfl) (Nat.le_refl _) (Nat.le_refl _) (g := (mkF m 44 #[.val (.ref x), .val (.ref y), .val (.ref y)] [.ref t', .ref t])) rfl (by rw [hml]; rfl) c17 (argsL := [.ref t, .ref t']) (rest := []) rfl rfl (by show 2 * 0 + 0 ≤ _; decide) (hb hbytes d44) (⟨rfl, hx.2.2.2.1.mv X16.warmed.alike hh16, hx.2.2.2.2.1.ty, hy.2.2.2.1.mv X16.warmed.alike hh16, hy.2.2.2.2.1.ty⟩)
      obtain ⟨v, rfl, q18, hv⟩ := E18
      have iff := Cod.eqv hx.2.2.2.2.1 hy.2.2.2.2.1 hx.2.2.2.2.2 hy.2.2.2.2.2
      rcases hv with ⟨rfl, he⟩ | ⟨rfl, he⟩
      · have c19 : Steps p.tables e below (s₁.setTop (entryFrame m #[.ref x, .ref y] 3)) (T18.setTop (mkF m 55 #[.val (.ref x), .val (.ref y), .val (.ref y)] [.int 1])) := Steps.trans g18 (by
          refine XS.ifNo X18.here hexec rfl (hb hbytes d47) rfl (i0_eq_f (by decide)) ?_
          refine iconstV X18.here hexec rfl 1 (hb hbytes d50) (by decide) ?_
          refine XS.goto X18.here hexec rfl (pc0 := 51) rfl (hb hbytes d51) (by decide) rfl ?_
          exact Steps.refl _)
        exact ⟨T18, some (.int 1), _, _, _, X18, rfl, rfl, rfl, (fun h => by cases h), ⟨1, rfl, q18.trans hh16, Or.inl ⟨rfl, iff.mp he⟩⟩, fun fs hl => c19.trans (X18.ireturnOut hexec hret rfl (Or.inr (Or.inl rfl)) (hb hbytes d55) hl)⟩
      · have c19 : Steps p.tables e below (s₁.setTop (entryFrame m #[.ref x, .ref y] 3)) (T18.setTop (mkF m 55 #[.val (.ref x), .val (.ref y), .val (.ref y)] [.int 0])) := Steps.trans g18 (by
          refine XS.ifYes X18.here hexec rfl (pc0 := 47) rfl (hb hbytes d47) rfl (i0_eq_t rfl) (by decide) rfl ?_
          refine iconstV X18.here hexec rfl 0 (hb hbytes d54) (by decide) ?_
          exact Steps.refl _)
        exact ⟨T18, some (.int 0), _, _, _, X18, rfl, rfl, rfl, (fun h => by cases h), ⟨0, rfl, q18.trans hh16, Or.inr ⟨rfl, fun q => he (iff.mpr q)⟩⟩, fun fs hl => c19.trans (X18.ireturnOut hexec hret rfl (Or.inr (Or.inl rfl)) (hb hbytes d55) hl)⟩
    · have c13 : Steps p.tables e below (s₁.setTop (entryFrame m #[.ref x, .ref y] 3)) (T11.setTop (mkF m 55 #[.val (.ref x), .val (.ref y), .val (.ref y)] [.int 0])) := c12.trans (by
        refine XS.icmpYes X11.here hexec rfl (pc0 := 33) rfl (hb hbytes d33) rfl (ii_ne_t hcd) (by decide) rfl ?_
        refine iconstV X11.here hexec rfl 0 (hb hbytes d54) (by decide) ?_
        exact Steps.refl _)
      exact ⟨T11, some (.int 0), _, _, _, X11, rfl, rfl, rfl, (fun h => by cases h), ⟨0, rfl, hh11, Or.inr ⟨rfl, Cod.dif hx.2.2.2.2.1 hy.2.2.2.2.1 hcd⟩⟩, fun fs hl => c13.trans (X11.ireturnOut hexec hret rfl (Or.inr (Or.inl rfl)) (hb hbytes d55) hl)⟩
theorem pays {l : Launch} {R : Room} {p : Program} {e : Env} {below : List Frame} {s : State} {sargs : Array Value} {len W : Nat} (x t : Addr) (V : Cell) (cd : Int32) (n : Nat) (f : Nat → Int32) (y t' : Addr) (V' : Cell) (cd' : Int32) (k : Nat) (g : Nat → Int32) (z : Int32) (htab : tab.before sargs s = true) (hfr : 2 ≤ R.frames) (hlo : W + 28 ≤ R.locals) :
    Back l R p e below s sargs yN len W (fun A₁ a₁ => A₁.cells + 0 ≤ R.cells ∧ A₁.slots + 0 ≤ R.slots ∧ P x t V cd n f y t' V' cd' k g z a₁ A₁.U) (fun A₁ _ v₁ B₁ => Says01 (SameT n f k g) v₁ A₁.U B₁.U ∧ B₁.locs = A₁.locs ++ [] ∧ B₁.cells = A₁.cells + 0 ∧ B₁.slots = A₁.slots + 0) :=
  (law l x t V cd n f y t' V' cd' k g z).pays htab hfr (by omega)
end SEq
end StrChars
namespace StrChars.Road
open Jvm Sem ClassFile Op Lib Jvm.Stand Jvm.Free Jvm.Free.XT
open Jvm.Lib.Cold (StaticIs)
/-- the words of String.equals(Object) -/
abbrev wordsEq : List Jvm.Cond := [.code SEq.yN SEq.yB 3 (some .boolean), .initialized ST, .classLink ST 10 ST, .fieldLink ST 38 ST "COMPACT_STRINGS" "Z", .fieldLink ST 15 ST "coder" "B", .fieldLink ST 9 ST "value" "[B", .methodLink ST 541 LEq.yN, .static LEq.yN, .code LEq.yN LEq.yB 3 (some .boolean), .initialized "java/lang/StringLatin1"]
theorem tabEq_of {a : Array Value} {s : State} (h : ∀ w ∈ wordsEq, w.before a s = true) : SEq.tab.before a s = true := by
  have hl : LEq.tab.before a s = true := unparts (wk h (.code LEq.yN LEq.yB 3 (some .boolean))) (wks h (.initialized LEq.yN.cls :: LEq.site))
  have q := consq hl h
  exact unparts (wk q (.code SEq.yN SEq.yB 3 (some .boolean))) (wks q (.initialized SEq.yN.cls :: SEq.site))
theorem movedEq {Z s : State} {a0 args : Array Value} (hZ : Z.Warmed39 s.vm) (hw : ∀ d ∈ wordsEq, d.before a0 Z = true) : ∀ d ∈ wordsEq, d.before args s = true := fun d hd => by
  have t : ∀ d ∈ wordsEq, (d.onTables && d.keepsFace) = true := by decide +kernel
  exact RoadKit.mv hZ (hw d hd) (t d hd)
/-- the road's facts of a String, as the laws ask it -/
theorem txt_of {Z U : State} {a0 : Array Value} {kI : Nat} (wi : (Jvm.Cond.instantiable ST kI).before a0 Z = true) (al : Z.vm.Alike U.vm) {x t : Addr} {kb : ClassId} {cs : List Int32} {cd N2 : Int32} {vs : List Value} (E : RoadKit.Exa Z U.heap x ST) (V : RoadKit.Fld Z U.heap x ST "value" "[B" (.ref t)) (C : RoadKit.Fld Z U.heap x ST "coder" "B" (.int cd)) (K : RoadKit.Arv Z U.heap t kb .byte N2 vs (.int 0)) (hc : CodA cs cd N2 vs) (hb : ∀ c ∈ cs, ¬ c < 0 ∧ ¬ (65535 : Int32) < c) (l2 : cs.length ≤ 4000) :
    ∃ A, Txt x t A cd cs.length (fun j => cs.getD j 0) U := by
  obtain ⟨A, K1, K2, K3, K4, K5, K6⟩ := K
  have hcod := hc.cod (by omega) K3 K5
  obtain ⟨D, fV, fC, hB, F1, F2, g1, g2, -, -⟩ := strObj wi al E V C
  exact ⟨A, ⟨_, hB.2.2.1, D, hB.1, rfl, by cases q : D.vm <;> first | rfl | exact absurd q (hB.2.1.2 _)⟩, Has.of hB F1 g1, Has.of hB F2 g2, ⟨K1.1, State.isArrayOf_alike al K1.2.1, K1.2.2, by rcases hcod with ⟨-, q, -⟩ | ⟨-, q, -⟩ <;> omega⟩, hcod, fun j hj => by
    have e : cs.getD j 0 = cs[j] := by simp [List.getD_eq_getElem?_getD, hj]
    show ¬ cs.getD j 0 < 0 ∧ ¬ 65535 < cs.getD j 0
    rw [e]; exact hb _ (List.getElem_mem _)⟩
theorem same_list (cs ds : List Int32) : SameT cs.length (fun j => cs.getD j 0) ds.length (fun j => ds.getD j 0) ↔ cs = ds := by
  constructor
  · rintro ⟨e, q⟩
    refine List.ext_getElem e fun j h1 h2 => ?_
    have := q j h1
    simpa [List.getD_eq_getElem?_getD, h1, h2] using this
  · rintro rfl
    exact ⟨rfl, fun _ _ => rfl⟩
/-- **equals(Object) OF TWO SUCH STRINGS**: 1 just where the chars are the same -/
theorem eqW {p : Program} {l : Launch} {e : Env} {R : Room} {s : State} {args : Array Value} {below : List Frame} {len W : Nat} {Z : State} {a0 : Array Value} {h : Heap} (hZ : Z.Warmed39 s.vm) (hw : ∀ d ∈ wordsEq, d.before a0 Z = true) {kI : Nat} (wi : (Jvm.Cond.instantiable ST kI).before a0 Z = true)
    {x t : Addr} {kb : ClassId} {cs : List Int32} {cd N2 : Int32} {vs : List Value} (E : RoadKit.Exa Z h x ST) (V : RoadKit.Fld Z h x ST "value" "[B" (.ref t)) (C : RoadKit.Fld Z h x ST "coder" "B" (.int cd)) (K : RoadKit.Arv Z h t kb .byte N2 vs (.int 0)) (hc : CodA cs cd N2 vs) (hb : ∀ c ∈ cs, ¬ c < 0 ∧ ¬ (65535 : Int32) < c) (l2 : cs.length ≤ 4000)
    {y t' : Addr} {kb' : ClassId} {ds : List Int32} {cd' N2' : Int32} {vs' : List Value} (E' : RoadKit.Exa Z h y ST) (V' : RoadKit.Fld Z h y ST "value" "[B" (.ref t')) (C' : RoadKit.Fld Z h y ST "coder" "B" (.int cd')) (K' : RoadKit.Arv Z h t' kb' .byte N2' vs' (.int 0)) (hc' : CodA ds cd' N2' vs') (hb' : ∀ c ∈ ds, ¬ c < 0 ∧ ¬ (65535 : Int32) < c) (l2' : ds.length ≤ 4000)
    {z : Int32} (S : RoadKit.Sta Z h ST "COMPACT_STRINGS" "Z" (.int z)) (hz : ¬ z = 0) (hfr : 2 ≤ R.frames) (hlo : W + 28 ≤ R.locals) :
    Back l R p e below s args (⟨"java/lang/String", "equals", "(Ljava/lang/Object;)Z"⟩ : MethodName) len W (fun P a => a = #[.ref x, .ref y] ∧ P.U.heap = h ∧ P.cells + 0 ≤ R.cells ∧ P.slots + 0 ≤ R.slots)
      (fun P _ v B => ∃ L, (((v = some (.int 1) ∧ cs = ds) ∨ (v = some (.int 0) ∧ ¬ cs = ds)) ∧ L = [] ∧ B.U.heap = h) ∧ B.locs = P.locs ++ L ∧ B.cells = P.cells + 0 ∧ B.slots = P.slots + 0) := by
  intro m meth c P g ig mk a X hg hsize hdg hW hn hp'
  obtain ⟨rfl, rfl, r1, r2⟩ := hp'
  have al : Z.vm.Alike P.U.vm := hZ.alike.trans X.warmed.alike
  obtain ⟨A, hx⟩ := txt_of wi al E V C K hc hb l2
  obtain ⟨A', hy⟩ := txt_of wi al E' V' C' K' hc' hb' l2'
  obtain ⟨v, B, X', ⟨⟨w, hv, hh, hq⟩, hl, hk, hs⟩, st⟩ := SEq.pays x t A cd cs.length (fun j => cs.getD j 0) y t' A' cd' ds.length (fun j => ds.getD j 0) z (tabEq_of (movedEq hZ hw)) hfr hlo m meth c P g ig mk _ X hg hsize hdg hW hn ⟨r1, r2, rfl, hx, hy, sta_is al S, hz⟩
  refine ⟨v, B, X', ⟨[], ⟨?_, rfl, hh⟩, hl, hk, hs⟩, st⟩
  rcases hq with ⟨rfl, q⟩ | ⟨rfl, q⟩
  · exact Or.inl ⟨hv, (same_list cs ds).mp q⟩
  · exact Or.inr ⟨hv, fun e => q ((same_list cs ds).mpr e)⟩
end StrChars.Road
namespace StrChars.Road
open Jvm Sem ClassFile Op Lib Jvm.Stand Jvm.Free Jvm.Free.XT
open Jvm.Lib.Cold (StaticIs)
/-- what backV says of its String, as the contracts of this text ask it: cs's low bytes, coder 0 -/
theorem codOf {cs : List Int32} {n : Nat} (hn : cs.length = n) (hb : ∀ c ∈ cs, ¬ 255 < c) : CodA cs 0 (Int32.ofNat n) ((cs.map lo8).map Value.int) := Or.inl ⟨rfl, by rw [hn], by simp [List.map_map, Function.comp_def], hb⟩
end StrChars.Road
end Jvm.Pilot.@@N@@

namespace Jvm.Pilot.@@N@@
open Jvm Jvm.ClassFile Sem Op Lib Jvm.Free Jvm.Stand Jvm.LawKit Jvm.RoadKit Bundle Jvm.Pilot.@@N@@.Jvm.D
section OwnHead
variable {p : Program} {l : Launch} {e : Env} {R : Room} {s : State} {m : MethodId} {args : Array Value} {below : List Frame} {meth : Method} {c : Code} {T T' : State} {locs : List Loc} {cells slots : Nat} {Q : Option Value → Heap → List Loc → Prop} {k n : Nat} {g : JFrame}
/-- from here (the state T, the frame g on top) the call comes to its end, and the end is as Fin says -/
def own_E (p : Program) (e : Env) (below : List Frame) (Fin : Outcome → State → Prop) (T : State) (g : JFrame) : Prop :=
  ∃ s₂ o, Steps p.tables e below (T.setTop g) s₂ ∧ s₂.status = .running ∧ Ended s₂ below o ∧ Fin o s₂
/-- the end of a body that interns nothing: what it returns, the heap and the places written as Q says, within k cells and n slots -/
def own_Fin (s : State) (Q : Option Value → Heap → List Loc → Prop) (k n : Nat) (o : Outcome) (t : State) : Prop := ∃ v L, o = .returned v ∧ Q v t.heap L ∧ FrameEnd s o t L k n
theorem own_start {Fin : Outcome → State → Prop} (h : own_E p e below Fin T g) : ∃ s₂ o, Steps p.tables e below (T.setTop g) s₂ ∧ s₂.status = .running ∧ Ended s₂ below o ∧ Fin o s₂ := h
theorem own_from {Fin : Outcome → State → Prop} (g' : JFrame) (h : ∀ {t}, Steps p.tables e below (T.setTop g') t → Steps p.tables e below (T.setTop g) t) (w : own_E p e below Fin T g') : own_E p e below Fin T g := by
  obtain ⟨s₂, o, h1, r⟩ := w; exact ⟨s₂, o, h h1, r⟩
theorem own_to {Fin : Outcome → State → Prop} (g' : JFrame) (h : ∀ t, Steps p.tables e below (T'.setTop g') t → Steps p.tables e below (T.setTop g) t) (w : own_E p e below Fin T' g') : own_E p e below Fin T g := by
  obtain ⟨s₂, o, h1, r⟩ := w; exact ⟨s₂, o, h _ h1, r⟩
theorem own_via {Fin : Outcome → State → Prop} (g' : JFrame) (h : Steps p.tables e below (T.setTop g) (T'.setTop g')) (w : own_E p e below Fin T' g') : own_E p e below Fin T g := by
  obtain ⟨s₂, o, h1, r⟩ := w; exact ⟨s₂, o, h.trans h1, r⟩
theorem own_end {v : Option Value} {pc : Nat} {Ls : Array Slot} {st : List Value} (X : Stand p l e R s m args below meth c T locs cells slots) (hv : meth.sig.returnType = none → v = none) (hlk : meth.locks = false) (hk : cells ≤ k) (hn : slots ≤ n) (hQ : Q v T.heap locs)
    (hs : ∀ fs, (∀ (f : JFrame) (acts : List Action), f.method = m → f.locked = none → f.entered = [] → (doReturn e (T.setTop f) acts v).1 = T.setFrames fs) → Steps p.tables e below (T.setTop (mkF m pc Ls st)) (T.setFrames fs)) : own_E p e below (own_Fin s Q k n) T (mkF m pc Ls st) := by
  obtain ⟨fs, hr, hrun, hended, hW, hsame⟩ := X.leave (v := v) hv hlk
  exact ⟨_, _, hs fs hr, hrun, hended, _, _, rfl, hQ, ⟨_, rfl⟩, hW, hsame.mono hk hn⟩
theorem own_retN (X : Stand p l e R s m args below meth c T locs cells slots) (hx : p.tables.exec = Jvm.exec) {pc : Nat} {Ls : Array Slot} {z : Int32} {t : FieldType} {rest : List Value} (hret : meth.sig.returnType = some t) (ht : t = .boolean ∨ t = .byte ∨ t = .char ∨ t = .short) (hlk : meth.locks = false)
    (hd : decode c.code pc = .ok (.ireturn, 1)) (hk : cells ≤ k) (hn : slots ≤ n) (hQ : Q (some (.int (nar t z))) T.heap locs) : own_E p e below (own_Fin s Q k n) T (mkF m pc Ls (.int z :: rest)) :=
  own_end X (fun h => by rw [hret] at h; cases h) hlk hk hn hQ fun _ hr => retN X hx hret ht hd hr
theorem own_retI (X : Stand p l e R s m args below meth c T locs cells slots) (hx : p.tables.exec = Jvm.exec) {pc : Nat} {Ls : Array Slot} {z : Int32} {rest : List Value} (hret : meth.sig.returnType = some .int) (hlk : meth.locks = false)
    (hd : decode c.code pc = .ok (.ireturn, 1)) (hk : cells ≤ k) (hn : slots ≤ n) (hQ : Q (some (.int z)) T.heap locs) : own_E p e below (own_Fin s Q k n) T (mkF m pc Ls (.int z :: rest)) :=
  own_end X (fun h => by rw [hret] at h; cases h) hlk hk hn hQ fun _ hr => retOut X hx hret rfl (Or.inl ⟨rfl, Or.inl rfl, _, rfl⟩) hd hr
theorem own_retJ (X : Stand p l e R s m args below meth c T locs cells slots) (hx : p.tables.exec = Jvm.exec) {pc : Nat} {Ls : Array Slot} {z : Int64} {rest : List Value} (hret : meth.sig.returnType = some .long) (hlk : meth.locks = false)
    (hd : decode c.code pc = .ok (.lreturn, 1)) (hk : cells ≤ k) (hn : slots ≤ n) (hQ : Q (some (.long z)) T.heap locs) : own_E p e below (own_Fin s Q k n) T (mkF m pc Ls (.long z :: rest)) :=
  own_end X (fun h => by rw [hret] at h; cases h) hlk hk hn hQ fun _ hr => retOut X hx hret rfl (Or.inr (Or.inl ⟨rfl, rfl, _, rfl⟩)) hd hr
theorem own_retA (X : Stand p l e R s m args below meth c T locs cells slots) (hx : p.tables.exec = Jvm.exec) {pc : Nat} {Ls : Array Slot} {w : Value} {t : FieldType} {rest : List Value} (hret : meth.sig.returnType = some t) (ht : t.isReference = true) (hlk : meth.locks = false)
    (hd : decode c.code pc = .ok (.areturn, 1)) (hw : w.isRef = true) (hk : cells ≤ k) (hn : slots ≤ n) (hQ : Q (some w) T.heap locs) : own_E p e below (own_Fin s Q k n) T (mkF m pc Ls (w :: rest)) :=
  own_end X (fun h => by rw [hret] at h; cases h) hlk hk hn hQ fun _ hr => retOut X hx hret (by cases t <;> first | rfl | cases ht) (Or.inr (Or.inr (Or.inr (Or.inr ⟨rfl, ht, hw⟩)))) hd hr
theorem own_ret0 (X : Stand p l e R s m args below meth c T locs cells slots) (hx : p.tables.exec = Jvm.exec) {pc : Nat} {Ls : Array Slot} (hret : meth.sig.returnType = none) (hlk : meth.locks = false)
    (hd : decode c.code pc = .ok (.return_, 1)) (hk : cells ≤ k) (hn : slots ≤ n) (hQ : Q none T.heap locs) : own_E p e below (own_Fin s Q k n) T (mkF m pc Ls []) :=
  own_end X (fun _ => rfl) hlk hk hn hQ fun _ hr => X.returnOut hx hret hd hr
theorem own_b8 (y : Int32) : y.toInt8.toInt32.toInt8.toInt32 = y.toInt8.toInt32 := by
  have a := c_i2b y
  have b := c_i2b y.toInt8.toInt32
  rw [← Int32.toInt_inj]; omega
theorem own_01 {C : Prop} {d : Int32} (h1 : C → d = (0 : Int32)) (h2 : ¬ C → d = (1 : Int32)) : d = 0 ∨ d = 1 := (Classical.em C).elim (fun q => Or.inl (h1 q)) (fun q => Or.inr (h2 q))
theorem own_irr (x : Int32) : ¬ x < x := Int32.lt_irrefl
end OwnHead
section OwnWords
variable {args : Array Value} {s : State} {t : Term} {C n d : String} {a : Addr}
theorem own_fldI {k : Int32} (ht : t.eval args s none [] s = some (.ref a)) (h : (Jvm.Cond.eq (Term.field t C n d) (Term.int k)).value args s none s [] = some true) : Fld s s.heap a C n d (.int k) := by
  obtain ⟨x, y, e1, e2, -, k2⟩ := cmp_v (Or.inl h)
  have q : y = .int k := Option.some.inj (e2.symm.trans (Term.int_eval k))
  subst q
  obtain ⟨z, rfl⟩ := k2
  have q := gotT (Cond.eq_ints e1 (Term.int_eval k)) h
  subst q
  exact Fld.start ((fld_at ht).symm.trans e1)
theorem own_fldJ {k : Int64} (ht : t.eval args s none [] s = some (.ref a)) (h : (Jvm.Cond.eq (Term.field t C n d) (Term.long k)).value args s none s [] = some true) : Fld s s.heap a C n d (.long k) := by
  obtain ⟨x, y, e1, e2, -, k2⟩ := cmp_v (Or.inl h)
  have q : y = .long k := Option.some.inj (e2.symm.trans (long_at k))
  subst q
  obtain ⟨z, rfl⟩ := k2
  have q := gotT (eq_L e1 (long_at k)) h
  subst q
  exact Fld.start ((fld_at ht).symm.trans e1)
end OwnWords
section OwnWide
variable {p : Program} {l : Launch} {e : Env} {R : Room} {s : State} {m : MethodId} {args : Array Value} {below : List Frame} {meth : Method} {c : Code} {T T' : State} {locs : List Loc} {cells slots : Nat} {Q : Option Value → Heap → List Loc → Prop} {k n : Nat} {g : JFrame} {vm₁ : Vm} {k1 : Nat}
/-- the end of a law that may have interned a String constant -/
def own_FinW (s : State) (Q : Option Value → Heap → List Loc → Prop) (k n : Nat) (o : Outcome) (t : State) : Prop := ∃ v L, o = .returned v ∧ Q v t.heap L ∧ ReturnedEndW s o t L k n
theorem own_endW {v : Option Value} {pc : Nat} {Ls : Array Slot} {st : List Value} (X : Stand p l e R (s.setVm vm₁) m args below meth c T locs cells slots) (hS : s.Since vm₁ k1) (hk1 : k1 ≤ T.heap.size) (hv : meth.sig.returnType = none → v = none) (hlk : meth.locks = false) (hk : cells ≤ k) (hn : slots ≤ n) (hQ : Q v T.heap locs)
    (hs : ∀ fs, (∀ (f : JFrame) (acts : List Action), f.method = m → f.locked = none → f.entered = [] → (doReturn e (T.setTop f) acts v).1 = T.setFrames fs) → Steps p.tables e below (T.setTop (mkF m pc Ls st)) (T.setFrames fs)) : own_E p e below (own_FinW s Q k n) T (mkF m pc Ls st) := by
  obtain ⟨fs, hr, hrun, hended, h1, h2, h3, h4⟩ := X.leaveW hS hk1 (v := v) hv hlk
  exact ⟨_, _, hs fs hr, hrun, hended, _, _, rfl, hQ, h1, h2, h3, h4.mono hk hn⟩
theorem own_retNW (X : Stand p l e R (s.setVm vm₁) m args below meth c T locs cells slots) (hS : s.Since vm₁ k1) (hk1 : k1 ≤ T.heap.size) (hx : p.tables.exec = Jvm.exec) {pc : Nat} {Ls : Array Slot} {z : Int32} {t : FieldType} {rest : List Value} (hret : meth.sig.returnType = some t) (ht : t = .boolean ∨ t = .byte ∨ t = .char ∨ t = .short) (hlk : meth.locks = false)
    (hd : decode c.code pc = .ok (.ireturn, 1)) (hk : cells ≤ k) (hn : slots ≤ n) (hQ : Q (some (.int (nar t z))) T.heap locs) : own_E p e below (own_FinW s Q k n) T (mkF m pc Ls (.int z :: rest)) :=
  own_endW X hS hk1 (fun h => by rw [hret] at h; cases h) hlk hk hn hQ fun _ hr => retN X hx hret ht hd hr
end OwnWide
section OwnStr
variable {Z : State} {h h' : Heap} {x t a : Addr} {kb : ClassId} {cs : List Int32} {sl : Nat} {v : Value} {ws : List Addr}
/-- a String at x, its bytes at t, that spells cs (each 0 to 255) -/
def own_Str (Z : State) (h : Heap) (x t : Addr) (kb : ClassId) (cs : List Int32) : Prop :=
  Exa Z h x "java/lang/String" ∧ Fld Z h x "java/lang/String" "value" "[B" (.ref t) ∧ Fld Z h x "java/lang/String" "coder" "B" (.int 0) ∧ Arv Z h t kb .byte (Int32.ofNat cs.length) ((cs.map (fun c => c.toInt8.toInt32)).map Value.int) (.int 0) ∧ (∀ c ∈ cs, ¬ c < 0 ∧ ¬ (255 : Int32) < c) ∧ cs.length ≤ 4000
theorem own_Str.lt (S : own_Str Z h x t kb cs) : x < h.size := S.1.lt
theorem own_Str.ltT (S : own_Str Z h x t kb cs) : t < h.size := S.2.2.2.1.lt
theorem own_Str.ext (S : own_Str Z h x t kb cs) (E : Ext h h') : own_Str Z h' x t kb cs := ⟨S.1.ext E, S.2.1.ext E, S.2.2.1.ext E, S.2.2.2.1.ext E, S.2.2.2.2⟩
theorem own_Str.wr (S : own_Str Z h x t kb cs) (W : Wr h h' a sl v) (n1 : x ≠ a) (n2 : t ≠ a) : own_Str Z h' x t kb cs := ⟨S.1.wr W, S.2.1.other W (Or.inl n1), S.2.2.1.other W (Or.inl n1), S.2.2.2.1.other W n2, S.2.2.2.2⟩
theorem own_Str.keep (S : own_Str Z h x t kb cs) (K : Keep h h' ws) (n1 : x ∉ ws) (n2 : t ∉ ws) : own_Str Z h' x t kb cs := ⟨S.1.keep K, S.2.1.keep K n1, S.2.2.1.keep K n1, S.2.2.2.1.keep K n2, S.2.2.2.2⟩
theorem own_up {cs : List Int32} (h : ∀ c ∈ cs, ¬ c < 0 ∧ ¬ (255 : Int32) < c) : ∀ c ∈ cs, ¬ c < 0 ∧ ¬ (65535 : Int32) < c := fun c hc => ⟨(h c hc).1, fun q => (h c hc).2 (by rw [Int32.lt_iff_toInt_lt] at q ⊢; have e1 : (65535 : Int32).toInt = 65535 := rfl; have e2 : (255 : Int32).toInt = 255 := rfl; omega)⟩
/-- a char of 0 to 255 stays what it is when it is stored as a char -/
def own_C8 (c : Int32) : Prop := ¬ c < 0 ∧ ¬ (255 : Int32) < c
theorem own_C8.rng {c : Int32} (h : own_C8 c) : 0 ≤ c.toInt ∧ c.toInt ≤ 255 := by
  have h1 := h.1; have h2 := h.2
  rw [Int32.lt_iff_toInt_lt] at h1 h2
  have e1 : (0 : Int32).toInt = 0 := rfl
  have e2 : (255 : Int32).toInt = 255 := rfl
  omega
theorem own_i2c8 {c : Int32} (h : own_C8 c) : c.toUInt32.toUInt16.toUInt32.toInt32 = c := by
  have q := h.rng
  have r := c_i2c c
  rw [← Int32.toInt_inj]; omega
theorem own_nar8 {c : Int32} (h : own_C8 c) : nar .char c = c := own_i2c8 h
theorem own_mask8 (x : Int32) : own_C8 (x &&& (255 : Int32)) := by
  have e : (x &&& 255).toInt = x.toInt % (2 ^ 8 : Nat) := c_mask x 255 8 (by decide) (by decide)
  refine ⟨fun q => ?_, fun q => ?_⟩ <;> rw [Int32.lt_iff_toInt_lt, e] at q
  · have e1 : (0 : Int32).toInt = 0 := rfl
    omega
  · have e2 : (255 : Int32).toInt = 255 := rfl
    omega
theorem own_ch8 {x c : Int32} (h : (x &&& (255 : Int32)).toUInt32.toUInt16.toUInt32.toInt32 = c) : own_C8 c := by
  rw [own_i2c8 (own_mask8 x)] at h; subst h; exact own_mask8 x
theorem own_if8 {C : Prop} {c a b : Int32} (h1 : C → c = a) (h2 : ¬ C → c = b) (ha : own_C8 a) (hb : own_C8 b) : own_C8 c := by
  by_cases q : C
  · rw [h1 q]; exact ha
  · rw [h2 q]; exact hb
theorem own_all0 : ∀ c ∈ ([] : List Int32), ¬ c < 0 ∧ ¬ (255 : Int32) < c := fun _ q => nomatch q
theorem own_allS {c : Int32} {cs : List Int32} (h : own_C8 c) (r : ∀ c ∈ cs, ¬ c < 0 ∧ ¬ (255 : Int32) < c) : ∀ d ∈ c :: cs, ¬ d < 0 ∧ ¬ (255 : Int32) < d := fun d z => (List.mem_cons.mp z).elim (fun u => u ▸ h) (r d)
end OwnStr
/-- equals of two Strings, by what each spells -/
theorem own_backEq {p : Program} {l : Launch} {e : Env} {R : Room} {s : State} {args : Array Value} {below : List Frame} {len W : Nat} {Z : State} {a0 : Array Value} {h : Heap} (hZ : Z.Warmed39 s.vm) (hw : ∀ d ∈ StrChars.Road.wordsEq, d.before a0 Z = true) {kI : Nat} (wi : (Jvm.Cond.instantiable "java/lang/String" kI).before a0 Z = true)
    {x t : Addr} {kb : ClassId} {cs : List Int32} (A : own_Str Z h x t kb cs) {y t' : Addr} {kb' : ClassId} {ds : List Int32} (B : own_Str Z h y t' kb' ds) {z : Int32} (S : Sta Z h "java/lang/String" "COMPACT_STRINGS" "Z" (.int z)) (hz : ¬ z = 0) (hfr : 2 ≤ R.frames) (hlo : W + 28 ≤ R.locals) :
    Back l R p e below s args (⟨"java/lang/String", "equals", "(Ljava/lang/Object;)Z"⟩ : MethodName) len W (fun P a => a = #[.ref x, .ref y] ∧ P.U.heap = h ∧ P.cells + 0 ≤ R.cells ∧ P.slots + 0 ≤ R.slots)
      (fun P _ v B => ∃ L, (((v = some (.int 1) ∧ cs = ds) ∨ (v = some (.int 0) ∧ ¬ cs = ds)) ∧ L = [] ∧ B.U.heap = h) ∧ B.locs = P.locs ++ L ∧ B.cells = P.cells + 0 ∧ B.slots = P.slots + 0) := by
  obtain ⟨a1, a2, a3, a4, a5, a6⟩ := A
  obtain ⟨b1, b2, b3, b4, b5, b6⟩ := B
  exact StrChars.Road.eqW hZ hw wi a1 a2 a3 a4 (StrChars.Road.codOf rfl fun c hc => (a5 c hc).2) (own_up a5) a6 b1 b2 b3 b4 (StrChars.Road.codOf rfl fun c hc => (b5 c hc).2) (own_up b5) b6 S hz hfr hlo
section OwnHeld
open Jvm.Free.SB Jvm.Free.SBG
variable {p : Program} {l : Launch} {e : Env} {R : Room} {s : State} {m : MethodId} {args : Array Value} {below : List Frame} {meth : Method} {c : Code} {T T' : State} {locs : List Loc} {cells slots : Nat} {Q : Option Value → Heap → List Loc → Prop} {k n : Nat} {g : JFrame} {vm₁ : Vm} {k1 : Nat} {Z : State} {a0 : Array Value}
/-- the String constant that the walked code may load: the empty text, of String itself -/
abbrev own_EL : List (String × Nat) := [("java/lang/String", 7)]
/-- the end of a body that may intern: the held constants hold on -/
def own_FinH (Z s : State) (Q : Option Value → Heap → List Loc → Prop) (k n : Nat) (o : Outcome) (t : State) : Prop := ∃ v L, o = .returned v ∧ Q v t.heap L ∧ CHr Z own_EL s.vm s.heap t.vm t.heap ∧ ReturnedEndW s o t L k n
theorem own_endH {v : Option Value} {pc : Nat} {Ls : Array Slot} {st : List Value} (X : Stand p l e R (s.setVm vm₁) m args below meth c T locs cells slots) (hS : s.Since vm₁ k1) (hk1 : k1 ≤ T.heap.size) (hZ : Z.Warmed39 vm₁) (hEW : EW Z a0 own_EL) (CH : CHv Z own_EL vm₁ T.heap) (CHR : CHr Z own_EL s.vm s.heap vm₁ T.heap) (hv : meth.sig.returnType = none → v = none) (hlk : meth.locks = false) (hk : cells ≤ k) (hn : slots ≤ n) (hQ : Q v T.heap locs)
    (hs : ∀ fs, (∀ (f : JFrame) (acts : List Action), f.method = m → f.locked = none → f.entered = [] → (doReturn e (T.setTop f) acts v).1 = T.setFrames fs) → Steps p.tables e below (T.setTop (mkF m pc Ls st)) (T.setFrames fs)) : own_E p e below (own_FinH Z s Q k n) T (mkF m pc Ls st) := by
  have q : CHr Z own_EL s.vm s.heap T.vm T.heap := CHR.trans (CHv.at X hZ hEW CH)
  obtain ⟨fs, hr, hrun, hended, h1, h2, h3, h4⟩ := X.leaveW hS hk1 (v := v) hv hlk
  exact ⟨_, _, hs fs hr, hrun, hended, _, _, rfl, hQ, q, h1, h2, h3, h4.mono hk hn⟩
theorem own_retNH (X : Stand p l e R (s.setVm vm₁) m args below meth c T locs cells slots) (hS : s.Since vm₁ k1) (hk1 : k1 ≤ T.heap.size) (hZ : Z.Warmed39 vm₁) (hEW : EW Z a0 own_EL) (CH : CHv Z own_EL vm₁ T.heap) (CHR : CHr Z own_EL s.vm s.heap vm₁ T.heap) (hx : p.tables.exec = Jvm.exec) {pc : Nat} {Ls : Array Slot} {z : Int32} {t : FieldType} {rest : List Value} (hret : meth.sig.returnType = some t) (ht : t = .boolean ∨ t = .byte ∨ t = .char ∨ t = .short) (hlk : meth.locks = false)
    (hd : decode c.code pc = .ok (.ireturn, 1)) (hk : cells ≤ k) (hn : slots ≤ n) (hQ : Q (some (.int (nar t z))) T.heap locs) : own_E p e below (own_FinH Z s Q k n) T (mkF m pc Ls (.int z :: rest)) :=
  own_endH X hS hk1 hZ hEW CH CHR (fun h => by rw [hret] at h; cases h) hlk hk hn hQ fun _ hr => retN X hx hret ht hd hr
theorem own_retAH (X : Stand p l e R (s.setVm vm₁) m args below meth c T locs cells slots) (hS : s.Since vm₁ k1) (hk1 : k1 ≤ T.heap.size) (hZ : Z.Warmed39 vm₁) (hEW : EW Z a0 own_EL) (CH : CHv Z own_EL vm₁ T.heap) (CHR : CHr Z own_EL s.vm s.heap vm₁ T.heap) (hx : p.tables.exec = Jvm.exec) {pc : Nat} {Ls : Array Slot} {w : Value} {t : FieldType} {rest : List Value} (hret : meth.sig.returnType = some t) (ht : t.isReference = true) (hlk : meth.locks = false)
    (hd : decode c.code pc = .ok (.areturn, 1)) (hw : w.isRef = true) (hk : cells ≤ k) (hn : slots ≤ n) (hQ : Q (some w) T.heap locs) : own_E p e below (own_FinH Z s Q k n) T (mkF m pc Ls (w :: rest)) :=
  own_endH X hS hk1 hZ hEW CH CHR (fun h => by rw [hret] at h; cases h) hlk hk hn hQ fun _ hr => retOut X hx hret (by cases t <;> first | rfl | cases ht) (Or.inr (Or.inr (Or.inr (Or.inr ⟨rfl, ht, hw⟩)))) hd hr
theorem own_ret0H (X : Stand p l e R (s.setVm vm₁) m args below meth c T locs cells slots) (hS : s.Since vm₁ k1) (hk1 : k1 ≤ T.heap.size) (hZ : Z.Warmed39 vm₁) (hEW : EW Z a0 own_EL) (CH : CHv Z own_EL vm₁ T.heap) (CHR : CHr Z own_EL s.vm s.heap vm₁ T.heap) (hx : p.tables.exec = Jvm.exec) {pc : Nat} {Ls : Array Slot} (hret : meth.sig.returnType = none) (hlk : meth.locks = false)
    (hd : decode c.code pc = .ok (.return_, 1)) (hk : cells ≤ k) (hn : slots ≤ n) (hQ : Q none T.heap locs) : own_E p e below (own_FinH Z s Q k n) T (mkF m pc Ls []) :=
  own_endH X hS hk1 hZ hEW CH CHR (fun _ => rfl) hlk hk hn hQ fun _ hr => X.returnOut hx hret hd hr
/-- a String whose value is still null is no held constant -/
theorem own_safeN {EL : List (String × Nat)} {vm : Vm} {h : Heap} {x : Addr} (hal : Z.vm.Alike vm) (E : Exa Z h x "java/lang/String") (F : Fld Z h x "java/lang/String" "value" "[B" .null) : Safe Z EL vm h x := fun B => by
  obtain ⟨cell, k, e1, e2, e3, -, -⟩ := E
  obtain ⟨cell', cf, kf, i, f, f1, f2, f3, -, -, -, f7⟩ := F
  cases e1.symm.trans f1
  obtain ⟨p, -, u, a, -, q, -, Fq, rfl | rfl⟩ := B
  · cases (show h[q.sa]? = some q.sC from Fq.ha).symm.trans e1
    obtain ⟨cS', ⟨⟨-, -, -, ⟨c2, k2, i2, g2, -⟩, -, -, -, v2, -⟩, -⟩, -⟩ := Fq
    obtain ⟨k3, g3, -⟩ := State.fieldFound?_setVm (s := Z) hal f2
    have g4 := (show (Wst Z vm h).fieldFound? _ _ _ = _ from g3).symm.trans g2
    simp only [Option.some.injEq, Prod.mk.injEq] at g4
    rw [← g4.2.2.2, f7] at v2
    cases v2
  · cases (show h[q.sd]? = some q.SA from Fq.hd).symm.trans e1
    obtain ⟨cS, -, -, g, -⟩ := Fq
    have g' : Z.vm.findClass "[B" = some q.SA.cls := by rw [← hal.findClass]; exact g
    obtain ⟨k1, q1, q2⟩ := Vm.findClass_spec g'
    obtain ⟨k2, q3, q4⟩ := Vm.findClass_spec e2
    cases q1.symm.trans q3
    have := q2.symm.trans q4
    exact absurd this (by decide)
end OwnHeld
theorem own_wV : ∀ d ∈ StrChars.Road.words, d ∈ tables_1 := by decide +kernel
theorem own_wEq : ∀ d ∈ StrChars.Road.wordsEq, d ∈ tables_1 := by decide +kernel
theorem own_EWof {Z : State} {a0 : Array Value} (hw : ∀ d ∈ tables_1, d.before a0 Z = true) : EW Z a0 own_EL := EW.cons (text := "") (hw _ (List.mem_of_getElem? (i := 18) rfl)) (fun c hc => by cases hc) EW.nil
theorem own_wS : ∀ d ∈ Bundle.stringAtoms, d ∈ tables_1 := by decide +kernel
def own_cs (len x y z : Int32) : List Int32 := if len = 0 then [] else if len = 1 then [x] else if len = 2 then [x, y] else [x, y, z]
def own_kd (i : Int32) (aI aS aN aY aE : Addr) : Addr := if i = 0 then aI else if i = 1 then aS else if i = 2 then aN else if i = 3 then aY else aE
theorem own_r4 (y : Int32) {n : Int32} (h : (y &&& (3 : Int32)) = n) : n = 0 ∨ n = 1 ∨ n = 2 ∨ n = 3 := by
  subst h
  have e1 : (y &&& 3).toInt = y.toInt % (2 ^ 2 : Nat) := c_mask y 3 2 (by decide) (by decide)
  rw [← Int32.toInt_inj, ← Int32.toInt_inj, ← Int32.toInt_inj, ← Int32.toInt_inj]
  show _ = 0 ∨ _ = 1 ∨ _ = 2 ∨ _ = 3
  rw [e1]; omega
theorem own_01' {C : Prop} {d : Int32} (h1 : C → d = (1 : Int32)) (h2 : ¬ C → d = (0 : Int32)) : d = 0 ∨ d = 1 := (Classical.em C).elim (fun q => Or.inr (h1 q)) (fun q => Or.inl (h2 q))
theorem own_csiff {a b x0 x1 x2 y0 y1 y2 : Int32} (ha : a = 0 ∨ a = 1 ∨ a = 2 ∨ a = 3) (hb : b = 0 ∨ b = 1 ∨ b = 2 ∨ b = 3) : own_cs a x0 x1 x2 = own_cs b y0 y1 y2 ↔ (a = b ∧ (a < 1 ∨ x0 = y0) ∧ (a < 2 ∨ x1 = y1) ∧ (a < 3 ∨ x2 = y2)) := by
  rcases ha with rfl | rfl | rfl | rfl <;> rcases hb with rfl | rfl | rfl | rfl <;> simp +decide [own_cs]
theorem own_kok {i : Int32} {aI aS aN aY aE ak : Addr} (n1 : aI ≠ aS) (n2 : aI ≠ aN) (n3 : aI ≠ aY) (n4 : aI ≠ aE) (n5 : aS ≠ aY) (n6 : aN ≠ aY) (n7 : aY ≠ aE) (h : ak = own_kd i aI aS aN aY aE) : (ak = aY ∨ ak = aI) ↔ (i = 0 ∨ i = 3) := by
  subst h
  unfold own_kd
  by_cases h0 : i = 0
  · simp [h0]
  · by_cases h1 : i = 1
    · subst h1; simp +decide [n5, Ne.symm n1]
    · by_cases h2 : i = 2
      · subst h2; simp +decide [n6, Ne.symm n2]
      · by_cases h3 : i = 3
        · subst h3; simp +decide
        · simp [h0, h1, h2, h3, Ne.symm n7, Ne.symm n4]
theorem own_same {r ex kk ee : Int32} {A B : Prop} (hr : r = 0 ∨ r = 1) (hr1 : r = 1 ↔ (A ∧ B)) (hk : (kk = 0 ∨ kk = 1) ∧ (kk = 1 ↔ A)) (he : (ee = 0 ∨ ee = 1) ∧ (ee = 1 ↔ B)) (hx : (ex = 0 ∨ ex = 1) ∧ (ex = 1 ↔ (¬ kk = 0 ∧ ¬ ee = 0))) : r = ex := by
  have z : ¬ (0 : Int32) = 1 := by decide
  have z' : ¬ (1 : Int32) = 0 := by decide
  rcases hr with rfl | rfl <;> rcases hx.1 with h | h <;> subst h <;> first | rfl | skip
  · have q := hx.2.mp rfl
    have k1 : kk = 1 := hk.1.resolve_left q.1
    have e1 : ee = 1 := he.1.resolve_left q.2
    exact absurd (hr1.mpr ⟨hk.2.mp k1, he.2.mp e1⟩) z
  · have q := hr1.mp rfl
    have k1 := hk.2.mpr q.1
    have e1 := he.2.mpr q.2
    exact absurd (hx.2.mpr ⟨by rw [k1]; exact z', by rw [e1]; exact z'⟩) z
theorem own_d_jdk_42_method_66_0 : decode jdk_42_method_66_code 0 = .ok (.aload_n 0, 1) := by decide +kernel
theorem own_d_jdk_42_method_66_1 : decode jdk_42_method_66_code 1 = .ok (.aload_n 1, 1) := by decide +kernel
theorem own_d_jdk_42_method_66_2 : decode jdk_42_method_66_code 2 = .ok (.if_acmp .ne 5, 3) := by decide +kernel
theorem own_d_jdk_42_method_66_7 : decode jdk_42_method_66_code 7 = .ok (.aload_n 1, 1) := by decide +kernel
theorem own_d_jdk_42_method_66_8 : decode jdk_42_method_66_code 8 = .ok (.instanceof 10, 3) := by decide +kernel
theorem own_d_jdk_42_method_66_11 : decode jdk_42_method_66_code 11 = .ok (.ifCond .eq 43, 3) := by decide +kernel
theorem own_d_jdk_42_method_66_54 : decode jdk_42_method_66_code 54 = .ok (.iconst 0, 1) := by decide +kernel
theorem own_d_jdk_42_method_66_55 : decode jdk_42_method_66_code 55 = .ok (.ireturn, 1) := by decide +kernel
theorem own_d_jdk_42_method_149_0 : decode jdk_42_method_149_code 0 = .ok (.aload_n 0, 1) := by decide +kernel
theorem own_d_jdk_42_method_149_1 : decode jdk_42_method_149_code 1 = .ok (.invokespecial 1, 3) := by decide +kernel
theorem own_d_jdk_42_method_149_4 : decode jdk_42_method_149_code 4 = .ok (.iload_n 3, 1) := by decide +kernel
theorem own_d_jdk_42_method_149_5 : decode jdk_42_method_149_code 5 = .ok (.ifCond .ne 22, 3) := by decide +kernel
theorem own_d_jdk_42_method_149_8 : decode jdk_42_method_149_code 8 = .ok (.aload_n 0, 1) := by decide +kernel
theorem own_d_jdk_42_method_149_9 : decode jdk_42_method_149_code 9 = .ok (.ldc 7, 2) := by decide +kernel
theorem own_d_jdk_42_method_149_11 : decode jdk_42_method_149_code 11 = .ok (.getfield 9, 3) := by decide +kernel
theorem own_d_jdk_42_method_149_14 : decode jdk_42_method_149_code 14 = .ok (.putfield 9, 3) := by decide +kernel
theorem own_d_jdk_42_method_149_17 : decode jdk_42_method_149_code 17 = .ok (.aload_n 0, 1) := by decide +kernel
theorem own_d_jdk_42_method_149_18 : decode jdk_42_method_149_code 18 = .ok (.ldc 7, 2) := by decide +kernel
theorem own_d_jdk_42_method_149_20 : decode jdk_42_method_149_code 20 = .ok (.getfield 15, 3) := by decide +kernel
theorem own_d_jdk_42_method_149_23 : decode jdk_42_method_149_code 23 = .ok (.putfield 15, 3) := by decide +kernel
theorem own_d_jdk_42_method_149_26 : decode jdk_42_method_149_code 26 = .ok (.return_, 1) := by decide +kernel
theorem own_d_jdk_42_method_3_0 : decode jdk_42_method_3_code 0 = .ok (.aload_n 0, 1) := by decide +kernel
theorem own_d_jdk_42_method_3_1 : decode jdk_42_method_3_code 1 = .ok (.aload_n 1, 1) := by decide +kernel
theorem own_d_jdk_42_method_3_2 : decode jdk_42_method_3_code 2 = .ok (.iconst 0, 1) := by decide +kernel
theorem own_d_jdk_42_method_3_3 : decode jdk_42_method_3_code 3 = .ok (.aload_n 1, 1) := by decide +kernel
theorem own_d_jdk_42_method_3_4 : decode jdk_42_method_3_code 4 = .ok (.arraylength, 1) := by decide +kernel
theorem own_d_jdk_42_method_3_5 : decode jdk_42_method_3_code 5 = .ok (.aconst_null, 1) := by decide +kernel
theorem own_d_jdk_42_method_3_6 : decode jdk_42_method_3_code 6 = .ok (.invokespecial 27, 3) := by decide +kernel
theorem own_d_jdk_42_method_3_9 : decode jdk_42_method_3_code 9 = .ok (.return_, 1) := by decide +kernel
theorem own_d_method_2_0 : decode method_2_code 0 = .ok (.iload_n 0, 1) := by decide +kernel
theorem own_d_method_2_1 : decode method_2_code 1 = .ok (.ifCond .ne 14, 3) := by decide +kernel
theorem own_d_method_2_4 : decode method_2_code 4 = .ok (.new 7, 3) := by decide +kernel
theorem own_d_method_2_7 : decode method_2_code 7 = .ok (.dup, 1) := by decide +kernel
theorem own_d_method_2_8 : decode method_2_code 8 = .ok (.iconst 0, 1) := by decide +kernel
theorem own_d_method_2_9 : decode method_2_code 9 = .ok (.newarray .char, 2) := by decide +kernel
theorem own_d_method_2_11 : decode method_2_code 11 = .ok (.invokespecial 9, 3) := by decide +kernel
theorem own_d_method_2_14 : decode method_2_code 14 = .ok (.areturn, 1) := by decide +kernel
theorem own_d_method_2_15 : decode method_2_code 15 = .ok (.iload_n 0, 1) := by decide +kernel
theorem own_d_method_2_16 : decode method_2_code 16 = .ok (.iconst 1, 1) := by decide +kernel
theorem own_d_method_2_17 : decode method_2_code 17 = .ok (.if_icmp .ne 23, 3) := by decide +kernel
theorem own_d_method_2_20 : decode method_2_code 20 = .ok (.iconst 1, 1) := by decide +kernel
theorem own_d_method_2_21 : decode method_2_code 21 = .ok (.newarray .char, 2) := by decide +kernel
theorem own_d_method_2_23 : decode method_2_code 23 = .ok (.astore 4, 2) := by decide +kernel
theorem own_d_method_2_25 : decode method_2_code 25 = .ok (.aload 4, 2) := by decide +kernel
theorem own_d_method_2_27 : decode method_2_code 27 = .ok (.iconst 0, 1) := by decide +kernel
theorem own_d_method_2_28 : decode method_2_code 28 = .ok (.iload_n 1, 1) := by decide +kernel
theorem own_d_method_2_29 : decode method_2_code 29 = .ok (.castore, 1) := by decide +kernel
theorem own_d_method_2_30 : decode method_2_code 30 = .ok (.new 7, 3) := by decide +kernel
theorem own_d_method_2_33 : decode method_2_code 33 = .ok (.dup, 1) := by decide +kernel
theorem own_d_method_2_34 : decode method_2_code 34 = .ok (.aload 4, 2) := by decide +kernel
theorem own_d_method_2_36 : decode method_2_code 36 = .ok (.invokespecial 9, 3) := by decide +kernel
theorem own_d_method_2_39 : decode method_2_code 39 = .ok (.areturn, 1) := by decide +kernel
theorem own_d_method_2_40 : decode method_2_code 40 = .ok (.iload_n 0, 1) := by decide +kernel
theorem own_d_method_2_41 : decode method_2_code 41 = .ok (.iconst 2, 1) := by decide +kernel
theorem own_d_method_2_42 : decode method_2_code 42 = .ok (.if_icmp .ne 28, 3) := by decide +kernel
theorem own_d_method_2_45 : decode method_2_code 45 = .ok (.iconst 2, 1) := by decide +kernel
theorem own_d_method_2_46 : decode method_2_code 46 = .ok (.newarray .char, 2) := by decide +kernel
theorem own_d_method_2_48 : decode method_2_code 48 = .ok (.astore 4, 2) := by decide +kernel
theorem own_d_method_2_50 : decode method_2_code 50 = .ok (.aload 4, 2) := by decide +kernel
theorem own_d_method_2_52 : decode method_2_code 52 = .ok (.iconst 0, 1) := by decide +kernel
theorem own_d_method_2_53 : decode method_2_code 53 = .ok (.iload_n 1, 1) := by decide +kernel
theorem own_d_method_2_54 : decode method_2_code 54 = .ok (.castore, 1) := by decide +kernel
theorem own_d_method_2_55 : decode method_2_code 55 = .ok (.aload 4, 2) := by decide +kernel
theorem own_d_method_2_57 : decode method_2_code 57 = .ok (.iconst 1, 1) := by decide +kernel
theorem own_d_method_2_58 : decode method_2_code 58 = .ok (.iload_n 2, 1) := by decide +kernel
theorem own_d_method_2_59 : decode method_2_code 59 = .ok (.castore, 1) := by decide +kernel
theorem own_d_method_2_60 : decode method_2_code 60 = .ok (.new 7, 3) := by decide +kernel
theorem own_d_method_2_63 : decode method_2_code 63 = .ok (.dup, 1) := by decide +kernel
theorem own_d_method_2_64 : decode method_2_code 64 = .ok (.aload 4, 2) := by decide +kernel
theorem own_d_method_2_66 : decode method_2_code 66 = .ok (.invokespecial 9, 3) := by decide +kernel
theorem own_d_method_2_69 : decode method_2_code 69 = .ok (.areturn, 1) := by decide +kernel
theorem own_d_method_2_70 : decode method_2_code 70 = .ok (.iconst 3, 1) := by decide +kernel
theorem own_d_method_2_71 : decode method_2_code 71 = .ok (.newarray .char, 2) := by decide +kernel
theorem own_d_method_2_73 : decode method_2_code 73 = .ok (.astore 4, 2) := by decide +kernel
theorem own_d_method_2_75 : decode method_2_code 75 = .ok (.aload 4, 2) := by decide +kernel
theorem own_d_method_2_77 : decode method_2_code 77 = .ok (.iconst 0, 1) := by decide +kernel
theorem own_d_method_2_78 : decode method_2_code 78 = .ok (.iload_n 1, 1) := by decide +kernel
theorem own_d_method_2_79 : decode method_2_code 79 = .ok (.castore, 1) := by decide +kernel
theorem own_d_method_2_80 : decode method_2_code 80 = .ok (.aload 4, 2) := by decide +kernel
theorem own_d_method_2_82 : decode method_2_code 82 = .ok (.iconst 1, 1) := by decide +kernel
theorem own_d_method_2_83 : decode method_2_code 83 = .ok (.iload_n 2, 1) := by decide +kernel
theorem own_d_method_2_84 : decode method_2_code 84 = .ok (.castore, 1) := by decide +kernel
theorem own_d_method_2_85 : decode method_2_code 85 = .ok (.aload 4, 2) := by decide +kernel
theorem own_d_method_2_87 : decode method_2_code 87 = .ok (.iconst 2, 1) := by decide +kernel
theorem own_d_method_2_88 : decode method_2_code 88 = .ok (.iload_n 3, 1) := by decide +kernel
theorem own_d_method_2_89 : decode method_2_code 89 = .ok (.castore, 1) := by decide +kernel
theorem own_d_method_2_90 : decode method_2_code 90 = .ok (.new 7, 3) := by decide +kernel
theorem own_d_method_2_93 : decode method_2_code 93 = .ok (.dup, 1) := by decide +kernel
theorem own_d_method_2_94 : decode method_2_code 94 = .ok (.aload 4, 2) := by decide +kernel
theorem own_d_method_2_96 : decode method_2_code 96 = .ok (.invokespecial 9, 3) := by decide +kernel
theorem own_d_method_2_99 : decode method_2_code 99 = .ok (.areturn, 1) := by decide +kernel
theorem own_d_method_3_0 : decode method_3_code 0 = .ok (.iload_n 0, 1) := by decide +kernel
theorem own_d_method_3_1 : decode method_3_code 1 = .ok (.ifCond .ne 7, 3) := by decide +kernel
theorem own_d_method_3_4 : decode method_3_code 4 = .ok (.getstatic 12, 3) := by decide +kernel
theorem own_d_method_3_7 : decode method_3_code 7 = .ok (.areturn, 1) := by decide +kernel
theorem own_d_method_3_8 : decode method_3_code 8 = .ok (.iload_n 0, 1) := by decide +kernel
theorem own_d_method_3_9 : decode method_3_code 9 = .ok (.iconst 1, 1) := by decide +kernel
theorem own_d_method_3_10 : decode method_3_code 10 = .ok (.if_icmp .ne 7, 3) := by decide +kernel
theorem own_d_method_3_13 : decode method_3_code 13 = .ok (.getstatic 18, 3) := by decide +kernel
theorem own_d_method_3_16 : decode method_3_code 16 = .ok (.areturn, 1) := by decide +kernel
theorem own_d_method_3_17 : decode method_3_code 17 = .ok (.iload_n 0, 1) := by decide +kernel
theorem own_d_method_3_18 : decode method_3_code 18 = .ok (.iconst 2, 1) := by decide +kernel
theorem own_d_method_3_19 : decode method_3_code 19 = .ok (.if_icmp .ne 7, 3) := by decide +kernel
theorem own_d_method_3_22 : decode method_3_code 22 = .ok (.getstatic 21, 3) := by decide +kernel
theorem own_d_method_3_25 : decode method_3_code 25 = .ok (.areturn, 1) := by decide +kernel
theorem own_d_method_3_26 : decode method_3_code 26 = .ok (.iload_n 0, 1) := by decide +kernel
theorem own_d_method_3_27 : decode method_3_code 27 = .ok (.iconst 3, 1) := by decide +kernel
theorem own_d_method_3_28 : decode method_3_code 28 = .ok (.if_icmp .ne 7, 3) := by decide +kernel
theorem own_d_method_3_31 : decode method_3_code 31 = .ok (.getstatic 24, 3) := by decide +kernel
theorem own_d_method_3_34 : decode method_3_code 34 = .ok (.areturn, 1) := by decide +kernel
theorem own_d_method_3_35 : decode method_3_code 35 = .ok (.getstatic 27, 3) := by decide +kernel
theorem own_d_method_3_38 : decode method_3_code 38 = .ok (.areturn, 1) := by decide +kernel
theorem own_d_prog_18_method_1_0 : decode prog_18_method_1_code 0 = .ok (.aload_n 0, 1) := by decide +kernel
theorem own_d_prog_18_method_1_1 : decode prog_18_method_1_code 1 = .ok (.invokespecial 1, 3) := by decide +kernel
theorem own_d_prog_18_method_1_4 : decode prog_18_method_1_code 4 = .ok (.aload_n 0, 1) := by decide +kernel
theorem own_d_prog_18_method_1_5 : decode prog_18_method_1_code 5 = .ok (.aload_n 1, 1) := by decide +kernel
theorem own_d_prog_18_method_1_6 : decode prog_18_method_1_code 6 = .ok (.putfield 7, 3) := by decide +kernel
theorem own_d_prog_18_method_1_9 : decode prog_18_method_1_code 9 = .ok (.aload_n 0, 1) := by decide +kernel
theorem own_d_prog_18_method_1_10 : decode prog_18_method_1_code 10 = .ok (.aload_n 2, 1) := by decide +kernel
theorem own_d_prog_18_method_1_11 : decode prog_18_method_1_code 11 = .ok (.putfield 13, 3) := by decide +kernel
theorem own_d_prog_18_method_1_14 : decode prog_18_method_1_code 14 = .ok (.aload_n 0, 1) := by decide +kernel
theorem own_d_prog_18_method_1_15 : decode prog_18_method_1_code 15 = .ok (.aload_n 3, 1) := by decide +kernel
theorem own_d_prog_18_method_1_16 : decode prog_18_method_1_code 16 = .ok (.putfield 17, 3) := by decide +kernel
theorem own_d_prog_18_method_1_19 : decode prog_18_method_1_code 19 = .ok (.aload_n 0, 1) := by decide +kernel
theorem own_d_prog_18_method_1_20 : decode prog_18_method_1_code 20 = .ok (.iload 4, 2) := by decide +kernel
theorem own_d_prog_18_method_1_22 : decode prog_18_method_1_code 22 = .ok (.putfield 20, 3) := by decide +kernel
theorem own_d_prog_18_method_1_25 : decode prog_18_method_1_code 25 = .ok (.aload_n 0, 1) := by decide +kernel
theorem own_d_prog_18_method_1_26 : decode prog_18_method_1_code 26 = .ok (.iload 5, 2) := by decide +kernel
theorem own_d_prog_18_method_1_28 : decode prog_18_method_1_code 28 = .ok (.putfield 24, 3) := by decide +kernel
theorem own_d_prog_18_method_1_31 : decode prog_18_method_1_code 31 = .ok (.return_, 1) := by decide +kernel
theorem own_d_prog_18_method_7_0 : decode prog_18_method_7_code 0 = .ok (.aload_n 0, 1) := by decide +kernel
theorem own_d_prog_18_method_7_1 : decode prog_18_method_7_code 1 = .ok (.getfield 7, 3) := by decide +kernel
theorem own_d_prog_18_method_7_4 : decode prog_18_method_7_code 4 = .ok (.getstatic 27, 3) := by decide +kernel
theorem own_d_prog_18_method_7_7 : decode prog_18_method_7_code 7 = .ok (.if_acmp .eq 13, 3) := by decide +kernel
theorem own_d_prog_18_method_7_20 : decode prog_18_method_7_code 20 = .ok (.aload_n 0, 1) := by decide +kernel
theorem own_d_prog_18_method_7_21 : decode prog_18_method_7_code 21 = .ok (.getfield 13, 3) := by decide +kernel
theorem own_d_prog_18_method_7_24 : decode prog_18_method_7_code 24 = .ok (.aload_n 1, 1) := by decide +kernel
theorem own_d_prog_18_method_7_25 : decode prog_18_method_7_code 25 = .ok (.invokevirtual 35, 3) := by decide +kernel
theorem own_d_prog_18_method_7_28 : decode prog_18_method_7_code 28 = .ok (.ifCond .eq 7, 3) := by decide +kernel
theorem own_d_prog_18_method_7_35 : decode prog_18_method_7_code 35 = .ok (.iconst 0, 1) := by decide +kernel
theorem own_d_prog_18_method_7_36 : decode prog_18_method_7_code 36 = .ok (.ireturn, 1) := by decide +kernel
theorem own_d_prog_18_method_7_10 : decode prog_18_method_7_code 10 = .ok (.aload_n 0, 1) := by decide +kernel
theorem own_d_prog_18_method_7_11 : decode prog_18_method_7_code 11 = .ok (.getfield 7, 3) := by decide +kernel
theorem own_d_prog_18_method_7_14 : decode prog_18_method_7_code 14 = .ok (.getstatic 32, 3) := by decide +kernel
theorem own_d_prog_18_method_7_17 : decode prog_18_method_7_code 17 = .ok (.if_acmp .ne 18, 3) := by decide +kernel
theorem own_d_prog_18_method_7_31 : decode prog_18_method_7_code 31 = .ok (.iconst 1, 1) := by decide +kernel
theorem own_d_prog_18_method_7_32 : decode prog_18_method_7_code 32 = .ok (.goto 4, 3) := by decide +kernel
theorem own_pd0 : parseMethodDescriptor "([CIILjava/lang/Void;)V" = some ⟨[(.array .char), .int, .int, (.object "java/lang/Void")], none⟩ := by decide +kernel
theorem own_pd1 : parseMethodDescriptor "([C)V" = some ⟨[(.array .char)], none⟩ := by decide +kernel
theorem own_pd2 : parseMethodDescriptor "(Ljava/lang/Object;)Z" = some ⟨[(.object "java/lang/Object")], some .boolean⟩ := by decide +kernel
theorem own_pd3 : parseMethodDescriptor "(ICCC)Ljava/lang/String;" = some ⟨[.int, .char, .char, .char], some (.object "java/lang/String")⟩ := by decide +kernel
theorem own_pd4 : parseMethodDescriptor "(I)Lcom/example/ianus/ianus/Token$Kind;" = some ⟨[.int], some (.object "com/example/ianus/ianus/Token$Kind")⟩ := by decide +kernel
theorem own_pd5 : parseMethodDescriptor "(Lcom/example/ianus/ianus/Token$Kind;Ljava/lang/String;Ljava/lang/String;II)V" = some ⟨[(.object "com/example/ianus/ianus/Token$Kind"), (.object "java/lang/String"), (.object "java/lang/String"), .int, .int], none⟩ := by decide +kernel
theorem own_pd6 : parseMethodDescriptor "(Ljava/lang/String;)Z" = some ⟨[(.object "java/lang/String")], some .boolean⟩ := by decide +kernel
theorem own_pn0 : plainName "java/lang/String" = true := by first | (simp [plainName, overriddenIn]; done) | decide +kernel
theorem own_pn1 : plainName "com/example/ianus/ianus/TokenIsPinLaw" = true := by first | (simp [plainName, overriddenIn]; done) | decide +kernel
theorem own_pn2 : plainName "com/example/ianus/ianus/Token" = true := by first | (simp [plainName, overriddenIn]; done) | decide +kernel
theorem own_ef_EN (m : MethodId) (x0 : Addr) : entryFrame m #[(.ref x0), .null] 3 = mkF m 0 #[.val (.ref x0), .val .null, .unset] [] := by first | (simp [entryFrame, mkF, argsToLocals, Value.category]; done) | rfl
theorem own_ef_I4_0 (m : MethodId) (x0 : Addr) (x1 : Addr) (x2 : Int32) (x3 : Int32) : entryFrame m #[(.ref x0), (.ref x1), (.int x2), (.int x3), .null] 6 = mkF m 0 #[.val (.ref x0), .val (.ref x1), .val (.int x2), .val (.int x3), .val .null, .unset] [] := by first | (simp [entryFrame, mkF, argsToLocals, Value.category]; done) | rfl
theorem own_ef_I1_0 (m : MethodId) (x0 : Addr) (x1 : Addr) : entryFrame m #[(.ref x0), (.ref x1)] 2 = mkF m 0 #[.val (.ref x0), .val (.ref x1)] [] := by first | (simp [entryFrame, mkF, argsToLocals, Value.category]; done) | rfl
theorem own_ef_ST (m : MethodId) (x0 : Int32) (x1 : Int32) (x2 : Int32) (x3 : Int32) : entryFrame m #[(.int x0), (.int x1), (.int x2), (.int x3)] 5 = mkF m 0 #[.val (.int x0), .val (.int x1), .val (.int x2), .val (.int x3), .unset] [] := by first | (simp [entryFrame, mkF, argsToLocals, Value.category]; done) | rfl
theorem own_ef_KO (m : MethodId) (x0 : Int32) : entryFrame m #[(.int x0)] 1 = mkF m 0 #[.val (.int x0)] [] := by first | (simp [entryFrame, mkF, argsToLocals, Value.category]; done) | rfl
theorem own_ef_CT (m : MethodId) (x0 : Addr) (x1 : Addr) (x2 : Addr) (x3 : Addr) (x4 : Int32) (x5 : Int32) : entryFrame m #[(.ref x0), (.ref x1), (.ref x2), (.ref x3), (.int x4), (.int x5)] 6 = mkF m 0 #[.val (.ref x0), .val (.ref x1), .val (.ref x2), .val (.ref x3), .val (.int x4), .val (.int x5)] [] := by first | (simp [entryFrame, mkF, argsToLocals, Value.category]; done) | rfl
theorem own_ef_ISN (m : MethodId) (x0 : Addr) : entryFrame m #[(.ref x0), .null] 2 = mkF m 0 #[.val (.ref x0), .val .null] [] := by first | (simp [entryFrame, mkF, argsToLocals, Value.category]; done) | rfl
theorem own_ef_ISS (m : MethodId) (x0 : Addr) (x1 : Addr) : entryFrame m #[(.ref x0), (.ref x1)] 2 = mkF m 0 #[.val (.ref x0), .val (.ref x1)] [] := by first | (simp [entryFrame, mkF, argsToLocals, Value.category]; done) | rfl
theorem own_ef_0 (m : MethodId) (x0 : Int32) (x1 : Int32) (x2 : Int32) (x3 : Int32) (x4 : Int32) (x5 : Int32) : entryFrame m #[(.int x0), (.int x1), (.int x2), (.int x3), (.int x4), (.int x5)] maxLocals = mkF m 0 #[.val (.int x0), .val (.int x1), .val (.int x2), .val (.int x3), .val (.int x4), .val (.int x5), .unset, .unset, .unset, .unset, .unset, .unset, .unset, .unset, .unset, .unset, .unset, .unset, .unset, .unset, .unset, .unset, .unset, .unset, .unset, .unset, .unset, .unset, .unset] [] := by first | (simp [entryFrame, mkF, argsToLocals, Value.category, maxLocals]; done) | rfl
def own_QEN (Z : State) (co : Addr) (h0 : Heap) (n0 : Nat) (v : Option Value) (h : Heap) (L : List Loc) : Prop := v = some (.int 0) ∧ Fr n0 L ∧ h = h0
set_option maxRecDepth 65536 in
set_option maxHeartbeats 40000000 in
theorem own_rmEN (l : Launch) (Z : State) (a0 : Array Value) (hw : ∀ d ∈ tables_1, d.before a0 Z = true) (ws : List Jvm.Cond) (co : Addr) (h0 : Heap) (n0 : Nat) (Z0 : n0 ≤ h0.size) (OL : Old Z n0 h0)  :
    MetFree l (⟨"java/lang/String", "equals", "(Ljava/lang/Object;)Z"⟩ : MethodName) (head1 (Jvm.Cond.code (⟨"java/lang/String", "equals", "(Ljava/lang/Object;)Z"⟩ : MethodName) jdk_42_method_66_code 3 (some .boolean) :: ws) ({ frames := 0, cells := 0, slots := 0, locals := 0 } : Room)) (fun aa_ U => aa_ = #[(.ref co), .null] ∧ Z.Warmed39 U.vm ∧ U.heap = h0) (fun _ _ _ _ _ => True) (fun _ U o U' => ∃ v L, o = .returned v ∧ own_QEN Z co h0 n0 v U'.heap L ∧ FrameEnd U o U' L ({ frames := 0, cells := 0, slots := 0, locals := 0 } : Room).cells ({ frames := 0, cells := 0, slots := 0, locals := 0 } : Room).slots) := by
  refine MetFree.of_bodySF (plainFor_of_name own_pn0) hisR ?_
  intro p e s m args below meth c s₁ Bd hml0 hP hK
  obtain ⟨rfl, hZ, hh⟩ := hP
  have hx := Bd.exec
  have hby := Bd.bytes
  have hlk : meth.locks = false := BodyLoose.notSynchronized Bd
  have hml : c.maxLocals = 3 := hml0
  have hown : s.vm.findClass "java/lang/String" = some m.cls := findClass_of_methodNamed Bd.named
  have hnm := (name_of_methodNamed Bd.named Bd.method).1
  have X0 : Stand p l e ({ frames := 0, cells := 0, slots := 0, locals := 0 } : Room) s m #[(.ref co), .null] below meth c s₁ [] 0 0 := Stand.of_body Bd
  have e0 : s₁.heap = h0 := by rw [← hh, Bd.state]; rfl
  have N0 := Fr.nil n0
  have KP : Keep h0 h0 [] := Keep.refl _ _
  refine own_start (Fin := (own_Fin s (own_QEN Z co h0 n0) ({ frames := 0, cells := 0, slots := 0, locals := 0 } : Room).cells ({ frames := 0, cells := 0, slots := 0, locals := 0 } : Room).slots)) (own_from (mkF m 0 #[rv co, .val .null, .unset] []) (castTop (own_ef_EN m co)) ?_)
  refine own_to (T' := s₁) (mkF m 1 #[rv co, .val .null, .unset] [(.ref co)]) (fun _ k => XS.aloadN X0.here hx rfl (hb hby own_d_jdk_42_method_66_0) rfl rfl k) ?_
  refine own_to (T' := s₁) (mkF m 2 #[rv co, .val .null, .unset] [.null, (.ref co)]) (fun _ k => XS.aloadN X0.here hx rfl (hb hby own_d_jdk_42_method_66_1) rfl rfl k) ?_
  refine own_to (T' := s₁) (mkF m 7 #[rv co, .val .null, .unset] []) (fun _ k => Jvm.RoadKit.acmp (g := (mkF m 2 #[rv co, .val .null, .unset] [.null, (.ref co)])) X0 hx rfl rfl rfl (pc0 := 2) (pc' := 7) (same := false) rfl (hb hby own_d_jdk_42_method_66_2) rfl (decide_eq_false nofun) (by decide) (by decide) k) ?_
  refine own_to (T' := s₁) (mkF m 8 #[rv co, .val .null, .unset] [.null]) (fun _ k => XS.aloadN X0.here hx rfl (hb hby own_d_jdk_42_method_66_7) rfl rfl k) ?_
  refine own_to (mkF m 11 #[rv co, .val .null, .unset] [(.int (0 : Int32))]) (X0.instanceofNull hx (g := (mkF m 8 #[rv co, .val .null, .unset] [.null])) rfl rfl (hb hby own_d_jdk_42_method_66_8)) ?_
  refine own_to (T' := s₁) (mkF m 54 #[rv co, .val .null, .unset] []) (fun _ k => XS.ifYes X0.here hx rfl (pc0 := 11) (pc' := 54) rfl (hb hby own_d_jdk_42_method_66_11) rfl ((if0 _ _).trans (teq (by decide : (0 : Int32) = (0 : Int32))).1) (by decide) (by decide) k) ?_
  refine own_to (T' := s₁) (mkF m 55 #[rv co, .val .null, .unset] [(.int (0 : Int32))]) (fun _ k => XS.iconst X0.here hx rfl (hb hby own_d_jdk_42_method_66_54) k) ?_
  exact own_retN X0 hx (t := .boolean) Bd.returns (by simp) hlk (hb hby own_d_jdk_42_method_66_55) (by decide) (by decide) (by rw [e0]; exact ⟨rfl, N0, rfl⟩)
def own_QI4_0 (Z : State) (sx a : Addr) (h0 : Heap) (n0 : Nat) (v : Option Value) (h : Heap) (L : List Loc) : Prop := v = none ∧ Fr n0 L ∧ Keep h0 h [sx] ∧ ∃ (t : Addr) (kb : ClassId), own_Str Z h sx t kb []
set_option maxRecDepth 65536 in
set_option maxHeartbeats 40000000 in
theorem own_rmI4_0 (l : Launch) (Z : State) (a0 : Array Value) (hw : ∀ d ∈ tables_1, d.before a0 Z = true) (ws : List Jvm.Cond) (sx a : Addr) (h0 : Heap) (n0 : Nat) (Z0 : n0 ≤ h0.size) (OL : Old Z n0 h0) (ge_sx : n0 ≤ sx) (E_sx : Exa Z h0 sx "java/lang/String") (F_value_sx : Fld Z h0 sx "java/lang/String" "value" "[B" .null) (F_coder_sx : Fld Z h0 sx "java/lang/String" "coder" "B" (.int (0 : Int32))) :
    MetFree l (⟨"java/lang/String", "<init>", "([CIILjava/lang/Void;)V"⟩ : MethodName) (head1 (Jvm.Cond.code (⟨"java/lang/String", "<init>", "([CIILjava/lang/Void;)V"⟩ : MethodName) jdk_42_method_149_code 6 none :: ws) ({ frames := 1, cells := 4, slots := 8, locals := 12 } : Room)) (fun aa_ U => aa_ = #[(.ref sx), (.ref a), (.int (0 : Int32)), (.int (0 : Int32)), .null] ∧ Z.Warmed39 U.vm ∧ U.heap = h0 ∧ CHv Z own_EL U.vm h0) (fun _ _ _ _ _ => True) (fun _ U o U' => ∃ v L, o = .returned v ∧ own_QI4_0 Z sx a h0 n0 v U'.heap L ∧ CHr Z own_EL U.vm U.heap U'.vm U'.heap ∧ ReturnedEndW U o U' L ({ frames := 1, cells := 4, slots := 8, locals := 12 } : Room).cells ({ frames := 1, cells := 4, slots := 8, locals := 12 } : Room).slots) := by
  refine MetFree.of_bodySF (plainFor_of_name own_pn0) hisR ?_
  intro p e s m args below meth c s₁ Bd hml0 hP hK
  obtain ⟨rfl, hZ, hh, CH⟩ := hP
  have hx := Bd.exec
  have hby := Bd.bytes
  have hlk : meth.locks = false := BodyLoose.notSynchronized Bd
  have hml : c.maxLocals = 6 := hml0
  have hown : s.vm.findClass "java/lang/String" = some m.cls := findClass_of_methodNamed Bd.named
  have hnm := (name_of_methodNamed Bd.named Bd.method).1
  have X0 : Stand p l e ({ frames := 1, cells := 4, slots := 8, locals := 12 } : Room) s m #[(.ref sx), (.ref a), (.int (0 : Int32)), (.int (0 : Int32)), .null] below meth c s₁ [] 0 0 := Stand.of_body Bd
  have e0 : s₁.heap = h0 := by rw [← hh, Bd.state]; rfl
  have N0 := Fr.nil n0
  have KP : Keep h0 h0 [sx] := Keep.refl _ _
  have hS : s.Since s.vm 0 := (State.WarmedH.refl s).since 0
  have hk1 : 0 ≤ h0.size := Nat.zero_le _
  have CHR : CHr Z own_EL s.vm h0 s.vm h0 := CHr.refl CH
  have hEW : EW Z a0 own_EL := own_EWof hw
  have hwsS : ∀ d ∈ Bundle.stringAtoms, d.before a0 Z = true := fun d hd => hw d (own_wS d hd)
  refine own_start (Fin := (own_FinH Z s (own_QI4_0 Z sx a h0 n0) ({ frames := 1, cells := 4, slots := 8, locals := 12 } : Room).cells ({ frames := 1, cells := 4, slots := 8, locals := 12 } : Room).slots)) (own_from (mkF m 0 #[rv sx, rv a, iv 0, iv 0, .val .null, .unset] []) (castTop (own_ef_I4_0 m sx a (0 : Int32) (0 : Int32))) ?_)
  have SF_sx := own_safeN (EL := own_EL) (vm := s.vm) hZ.alike E_sx F_value_sx
  refine own_to (T' := s₁) (mkF m 1 #[rv sx, rv a, iv 0, iv 0, .val .null, .unset] [(.ref sx)]) (fun _ k => XS.aloadN X0.here hx rfl (hb hby own_d_jdk_42_method_149_0) rfl rfl k) ?_
  obtain ⟨T1, X1, e1, st1⟩ := initO X0 hx hZ hown (hw _ (List.mem_of_getElem? (i := 15) rfl)) (hw _ (List.mem_of_getElem? (i := 16) rfl)) (hw _ (List.mem_of_getElem? (i := 17) rfl)) e0 (g := (mkF m 1 #[rv sx, rv a, iv 0, iv 0, .val .null, .unset] [(.ref sx)])) rfl (by rw [hml]; rfl) rfl (hb hby own_d_jdk_42_method_149_1) (by decide) (W := 0) (by show 2 * 0 + _ ≤ _; exact Nat.le_of_eq rfl) (by decide)
  refine own_to (mkF m 4 #[rv sx, rv a, iv 0, iv 0, .val .null, .unset] []) st1 ?_
  refine own_to (T' := T1) (mkF m 5 #[rv sx, rv a, iv 0, iv 0, .val .null, .unset] [(.int (0 : Int32))]) (fun _ k => XS.iloadN X1.here hx rfl (hb hby own_d_jdk_42_method_149_4) rfl k) ?_
  refine own_to (T' := T1) (mkF m 8 #[rv sx, rv a, iv 0, iv 0, .val .null, .unset] []) (fun _ k => XS.ifNo X1.here hx rfl (hb hby own_d_jdk_42_method_149_5) rfl ((if0 _ _).trans (teq (by decide : (0 : Int32) = (0 : Int32))).2) k) ?_
  refine own_to (T' := T1) (mkF m 9 #[rv sx, rv a, iv 0, iv 0, .val .null, .unset] [(.ref sx)]) (fun _ k => XS.aloadN X1.here hx rfl (hb hby own_d_jdk_42_method_149_8) rfl rfl k) ?_
  have lts_sx := E_sx.lt
  obtain ⟨la1, T2, h2, k1, lb1, lk1, X2, e2, E2, hS, hk2, hZ, hown, E_la1, F_coder_la1, F_value_la1, V_lb1, -, -, CR2, -, sfe2, st2⟩ := ldcCH (s := s) (vm0 := s.vm) X1 hx hZ hown (hw _ (List.mem_of_getElem? (i := 18) rfl)) hwsS e1 hS hk1 hEW (List.mem_singleton.mpr rfl) CH (vs := []) (z := (0 : Int32)) ⟨fun c hc => (by cases hc), rfl⟩ (by decide) rfl (g := (mkF m 9 #[rv sx, rv a, iv 0, iv 0, .val .null, .unset] [(.ref sx)])) rfl (hb hby own_d_jdk_42_method_149_9) (n := 0) (by decide) (by decide) (by decide) (by decide)
  have OL := OL.ext E2
  have KP := KP.ext E2
  have E_sx := E_sx.ext E2
  have F_value_sx := F_value_sx.ext E2
  have F_coder_sx := F_coder_sx.ext E2
  have hk1 := hk2
  have SF_sx := CR2.safe lts_sx SF_sx
  have ne_sx_la1 := (sfe2 sx SF_sx).1
  have ne_sx_lb1 := (sfe2 sx SF_sx).2
  have CHR := CHR.trans CR2
  have CH := CR2.1
  refine own_to (mkF m 11 #[rv sx, rv a, iv 0, iv 0, .val .null, .unset] [(.ref la1), (.ref sx)]) st2 ?_
  obtain ⟨T3, X3, e3, st3⟩ := getF X2 hx hZ hown (host := "") (Or.inl (hw _ (List.mem_of_getElem? (i := 24) rfl))) Via.refl e2 F_value_la1 (g := (mkF m 11 #[rv sx, rv a, iv 0, iv 0, .val .null, .unset] [(.ref la1), (.ref sx)])) rfl rfl (hb hby own_d_jdk_42_method_149_11)
  refine own_to (mkF m 14 #[rv sx, rv a, iv 0, iv 0, .val .null, .unset] [(.ref lb1), (.ref sx)]) st3 ?_
  obtain ⟨T4, h4, X4, e4, W4, st4⟩ := putF X3 hx hZ hown (host := "") (Or.inl (hw _ (List.mem_of_getElem? (i := 24) rfl))) Via.refl e3 F_value_sx E_sx (Or.inr ⟨(hw _ (List.mem_of_getElem? (i := 20) rfl)), rfl, hnm⟩) (hw _ (List.mem_of_getElem? (i := 5) rfl)) (ty := (.array .byte)) (by decide) rfl rfl (g := (mkF m 14 #[rv sx, rv a, iv 0, iv 0, .val .null, .unset] [(.ref lb1), (.ref sx)])) rfl rfl (hb hby own_d_jdk_42_method_149_14)
  refine own_to (mkF m 17 #[rv sx, rv a, iv 0, iv 0, .val .null, .unset] []) st4 ?_
  have N4 := Fr.snoc X4 N0 ge_sx
  have tmp4 : Fld Z h4 sx "java/lang/String" "value" "[B" (.ref lb1) := F_value_sx.same W4
  have SFa : Safe Z own_EL T2.vm h2 sx := SF_sx
  have SF_sx := Safe.wr W4 SFa CH SF_sx
  have CHR := CHR.trans (CHr.wr W4 SFa CH)
  have CH := CH.wr W4 SFa
  have OL := OL.wr W4 ge_sx
  have KP := KP.wr W4 (Or.inl (List.mem_of_getElem? (i := 0) rfl))
  have hk1 := Nat.le_trans hk1 (Keep.of_wr W4).1
  have E_sx := E_sx.wr W4
  have F_coder_sx := F_coder_sx.other W4 (Or.inr (slot_ne (Or.inr (hw _ (List.mem_of_getElem? (i := 21) rfl))) (Or.inr (hw _ (List.mem_of_getElem? (i := 20) rfl))) (by decide) (t := .byte) (t' := (.array .byte)) (by decide) (by decide)))
  have E_la1 := E_la1.wr W4
  have F_coder_la1 := F_coder_la1.other W4 (Or.inl (Ne.symm ne_sx_la1))
  have F_value_la1 := F_value_la1.other W4 (Or.inl (Ne.symm ne_sx_la1))
  have V_lb1 := V_lb1.other W4 (Ne.symm ne_sx_lb1)
  have F_value_sx := tmp4
  refine own_to (T' := T4) (mkF m 18 #[rv sx, rv a, iv 0, iv 0, .val .null, .unset] [(.ref sx)]) (fun _ k => XS.aloadN X4.here hx rfl (hb hby own_d_jdk_42_method_149_17) rfl rfl k) ?_
  have lts_sx := E_sx.lt
  obtain ⟨la2, T5, h5, k1, lb2, lk2, X5, e5, E5, hS, hk2, hZ, hown, E_la2, F_coder_la2, F_value_la2, V_lb2, -, -, CR5, -, sfe5, st5⟩ := ldcCH (s := s) (vm0 := T2.vm) X4 hx hZ hown (hw _ (List.mem_of_getElem? (i := 18) rfl)) hwsS e4 hS hk1 hEW (List.mem_singleton.mpr rfl) CH (vs := []) (z := (0 : Int32)) ⟨fun c hc => (by cases hc), rfl⟩ (by decide) rfl (g := (mkF m 18 #[rv sx, rv a, iv 0, iv 0, .val .null, .unset] [(.ref sx)])) rfl (hb hby own_d_jdk_42_method_149_18) (n := 0) (by decide) (by decide) (by decide) (by decide)
  have OL := OL.ext E5
  have KP := KP.ext E5
  have E_sx := E_sx.ext E5
  have F_value_sx := F_value_sx.ext E5
  have F_coder_sx := F_coder_sx.ext E5
  have V_lb1 := V_lb1.ext E5
  have hk1 := hk2
  have SF_sx := CR5.safe lts_sx SF_sx
  have ne_sx_la2 := (sfe5 sx SF_sx).1
  have ne_sx_lb2 := (sfe5 sx SF_sx).2
  have CHR := CHR.trans CR5
  have CH := CR5.1
  refine own_to (mkF m 20 #[rv sx, rv a, iv 0, iv 0, .val .null, .unset] [(.ref la2), (.ref sx)]) st5 ?_
  obtain ⟨T6, X6, e6, st6⟩ := getF X5 hx hZ hown (host := "") (Or.inl (hw _ (List.mem_of_getElem? (i := 25) rfl))) Via.refl e5 F_coder_la2 (g := (mkF m 20 #[rv sx, rv a, iv 0, iv 0, .val .null, .unset] [(.ref la2), (.ref sx)])) rfl rfl (hb hby own_d_jdk_42_method_149_20)
  refine own_to (mkF m 23 #[rv sx, rv a, iv 0, iv 0, .val .null, .unset] [(.int (0 : Int32)), (.ref sx)]) st6 ?_
  obtain ⟨T7, h7, X7, e7, W7, st7⟩ := putFN X6 hx hZ hown (hw _ (List.mem_of_getElem? (i := 25) rfl)) Via.refl e6 F_coder_sx E_sx (Or.inr ⟨(hw _ (List.mem_of_getElem? (i := 21) rfl)), rfl, hnm⟩) (hw _ (List.mem_of_getElem? (i := 5) rfl)) (ty := .byte) (v' := (.int (0 : Int32))) (by decide) rfl rfl (g := (mkF m 23 #[rv sx, rv a, iv 0, iv 0, .val .null, .unset] [(.int (0 : Int32)), (.ref sx)])) rfl rfl (hb hby own_d_jdk_42_method_149_23)
  refine own_to (mkF m 26 #[rv sx, rv a, iv 0, iv 0, .val .null, .unset] []) st7 ?_
  have N7 := Fr.snoc X7 N4 ge_sx
  have tmp7 : Fld Z h7 sx "java/lang/String" "coder" "B" (.int (0 : Int32)) := F_coder_sx.same W7
  have SFa : Safe Z own_EL T5.vm h5 sx := SF_sx
  have SF_sx := Safe.wr W7 SFa CH SF_sx
  have CHR := CHR.trans (CHr.wr W7 SFa CH)
  have CH := CH.wr W7 SFa
  have OL := OL.wr W7 ge_sx
  have KP := KP.wr W7 (Or.inl (List.mem_of_getElem? (i := 0) rfl))
  have hk1 := Nat.le_trans hk1 (Keep.of_wr W7).1
  have E_sx := E_sx.wr W7
  have F_value_sx := F_value_sx.other W7 (Or.inr (slot_ne (Or.inr (hw _ (List.mem_of_getElem? (i := 20) rfl))) (Or.inr (hw _ (List.mem_of_getElem? (i := 21) rfl))) (by decide) (t := (.array .byte)) (t' := .byte) (by decide) (by decide)))
  have V_lb1 := V_lb1.other W7 (Ne.symm ne_sx_lb1)
  have E_la2 := E_la2.wr W7
  have F_coder_la2 := F_coder_la2.other W7 (Or.inl (Ne.symm ne_sx_la2))
  have F_value_la2 := F_value_la2.other W7 (Or.inl (Ne.symm ne_sx_la2))
  have V_lb2 := V_lb2.other W7 (Ne.symm ne_sx_lb2)
  have F_coder_sx := tmp7
  exact own_ret0H (s := s) (vm₁ := T5.vm) X7 hS (by rw [e7]; exact hk1) hZ hEW (by rw [e7]; exact CH) (by rw [hh, e7]; exact CHR) hx Bd.returns hlk (hb hby own_d_jdk_42_method_149_26) (by decide) (by decide) (by rw [e7]; exact ⟨rfl, N7, KP, lb1, lk1, E_sx, F_value_sx, F_coder_sx, V_lb1, own_all0, Nat.zero_le _⟩)
def own_QI1_0 (Z : State) (sx a : Addr) (ka : ClassId) (h0 : Heap) (n0 : Nat) (v : Option Value) (h : Heap) (L : List Loc) : Prop := v = none ∧ Fr n0 L ∧ Keep h0 h [sx] ∧ ∃ (t : Addr) (kb : ClassId), own_Str Z h sx t kb []
set_option maxRecDepth 65536 in
set_option maxHeartbeats 40000000 in
theorem own_rmI1_0 (l : Launch) (Z : State) (a0 : Array Value) (hw : ∀ d ∈ tables_1, d.before a0 Z = true) (ws : List Jvm.Cond) (sx a : Addr) (ka : ClassId) (h0 : Heap) (n0 : Nat) (Z0 : n0 ≤ h0.size) (OL : Old Z n0 h0) (ge_sx : n0 ≤ sx) (E_sx : Exa Z h0 sx "java/lang/String") (F_value_sx : Fld Z h0 sx "java/lang/String" "value" "[B" .null) (F_coder_sx : Fld Z h0 sx "java/lang/String" "coder" "B" (.int (0 : Int32))) (Va : Arv Z h0 a ka .char (0 : Int32) [] (.int (0 : Int32))) :
    MetFree l (⟨"java/lang/String", "<init>", "([C)V"⟩ : MethodName) (head1 (Jvm.Cond.code (⟨"java/lang/String", "<init>", "([C)V"⟩ : MethodName) jdk_42_method_3_code 2 none :: ws) ({ frames := 2, cells := 4, slots := 8, locals := 29 } : Room)) (fun aa_ U => aa_ = #[(.ref sx), (.ref a)] ∧ Z.Warmed39 U.vm ∧ U.heap = h0 ∧ CHv Z own_EL U.vm h0) (fun _ _ _ _ _ => True) (fun _ U o U' => ∃ v L, o = .returned v ∧ own_QI1_0 Z sx a ka h0 n0 v U'.heap L ∧ CHr Z own_EL U.vm U.heap U'.vm U'.heap ∧ ReturnedEndW U o U' L ({ frames := 2, cells := 4, slots := 8, locals := 29 } : Room).cells ({ frames := 2, cells := 4, slots := 8, locals := 29 } : Room).slots) := by
  refine MetFree.of_bodySF (plainFor_of_name own_pn0) hisR ?_
  intro p e s m args below meth c s₁ Bd hml0 hP hK
  obtain ⟨rfl, hZ, hh, CH⟩ := hP
  have hx := Bd.exec
  have hby := Bd.bytes
  have hlk : meth.locks = false := BodyLoose.notSynchronized Bd
  have hml : c.maxLocals = 2 := hml0
  have hown : s.vm.findClass "java/lang/String" = some m.cls := findClass_of_methodNamed Bd.named
  have hnm := (name_of_methodNamed Bd.named Bd.method).1
  have X0 : Stand p l e ({ frames := 2, cells := 4, slots := 8, locals := 29 } : Room) s m #[(.ref sx), (.ref a)] below meth c s₁ [] 0 0 := Stand.of_body Bd
  have e0 : s₁.heap = h0 := by rw [← hh, Bd.state]; rfl
  have N0 := Fr.nil n0
  have KP : Keep h0 h0 [sx] := Keep.refl _ _
  have hS : s.Since s.vm 0 := (State.WarmedH.refl s).since 0
  have hk1 : 0 ≤ h0.size := Nat.zero_le _
  have CHR : CHr Z own_EL s.vm h0 s.vm h0 := CHr.refl CH
  have hEW : EW Z a0 own_EL := own_EWof hw
  have hwsS : ∀ d ∈ Bundle.stringAtoms, d.before a0 Z = true := fun d hd => hw d (own_wS d hd)
  refine own_start (Fin := (own_FinH Z s (own_QI1_0 Z sx a ka h0 n0) ({ frames := 2, cells := 4, slots := 8, locals := 29 } : Room).cells ({ frames := 2, cells := 4, slots := 8, locals := 29 } : Room).slots)) (own_from (mkF m 0 #[rv sx, rv a] []) (castTop (own_ef_I1_0 m sx a)) ?_)
  refine own_to (T' := s₁) (mkF m 1 #[rv sx, rv a] [(.ref sx)]) (fun _ k => XS.aloadN X0.here hx rfl (hb hby own_d_jdk_42_method_3_0) rfl rfl k) ?_
  refine own_to (T' := s₁) (mkF m 2 #[rv sx, rv a] [(.ref a), (.ref sx)]) (fun _ k => XS.aloadN X0.here hx rfl (hb hby own_d_jdk_42_method_3_1) rfl rfl k) ?_
  refine own_to (T' := s₁) (mkF m 3 #[rv sx, rv a] [(.int (0 : Int32)), (.ref a), (.ref sx)]) (fun _ k => XS.iconst X0.here hx rfl (hb hby own_d_jdk_42_method_3_2) k) ?_
  refine own_to (T' := s₁) (mkF m 4 #[rv sx, rv a] [(.ref a), (.int (0 : Int32)), (.ref a), (.ref sx)]) (fun _ k => XS.aloadN X0.here hx rfl (hb hby own_d_jdk_42_method_3_3) rfl rfl k) ?_
  obtain ⟨cl8, Ar8, -, S8, M8, -, -⟩ := id Va
  refine own_to (mkF m 5 #[rv sx, rv a] [(.int (0 : Int32)), (.int (0 : Int32)), (.ref a), (.ref sx)]) (by have q := X0.arraylength hx (by rw [e0]; exact Ar8.1) (State.isArrayOf_alike hZ.alike Ar8.2.1) (g := (mkF m 4 #[rv sx, rv a] [(.ref a), (.int (0 : Int32)), (.ref a), (.ref sx)])) rfl rfl (hb hby own_d_jdk_42_method_3_4); rw [len_of S8 M8] at q; exact q) ?_
  refine own_to (T' := s₁) (mkF m 6 #[rv sx, rv a] [.null, (.int (0 : Int32)), (.int (0 : Int32)), (.ref a), (.ref sx)]) (fun _ k => XS.aconstNull X0.here hx rfl (hb hby own_d_jdk_42_method_3_5) k) ?_
  obtain ⟨_, _, ⟨T9, L9, k9, n9⟩, -, X9, hS9, gr9, ⟨Lc9, hQ9, l9, y9, z9, CR9⟩, st9⟩ := Stand.specialBackS (s := s.setVm s.vm) X0 hx (y := (⟨"java/lang/String", "<init>", "([CIILjava/lang/Void;)V"⟩ : MethodName)) rfl hown (mvT hZ (hw _ (List.mem_of_getElem? (i := 11) rfl))) (mvT hZ (hw _ (List.mem_of_getElem? (i := 12) rfl))) (mvT hZ (hw _ (List.mem_of_getElem? (i := 14) rfl))) (by decide) (backOfSH (s := s) (vm0 := s.vm) (W := 0) (own_rmI4_0 l Z a0 hw [] sx a h0 n0 (Nat.le_trans Z0 KP.1) OL ge_sx E_sx F_value_sx F_coder_sx) hZ (hw _ (List.mem_of_getElem? (i := 14) rfl)) (hw _ (List.mem_of_getElem? (i := 6) rfl)) (by decide) (by decide) hEW CH) (g := (mkF m 6 #[rv sx, rv a] [.null, (.int (0 : Int32)), (.int (0 : Int32)), (.ref a), (.ref sx)])) rfl (by rw [hml]; rfl) (Steps.refl _) (a := sx) (argsL := [(.ref a), (.int (0 : Int32)), (.int (0 : Int32)), .null]) (rest := []) (lenOf own_pd0 rfl) rfl (by show 2 * 0 + _ ≤ _; exact Nat.le_of_eq rfl) (hb hby own_d_jdk_42_method_3_6) (fun _ _ => ⟨rfl, e0, (by decide : 0 + 4 ≤ _), (by decide : 0 + 8 ≤ _)⟩)
  dsimp only [Pt.U, Pt.locs, Pt.cells, Pt.slots] at X9 hS9 gr9 l9 y9 z9 CR9 st9 hQ9
  subst l9 y9 z9
  obtain ⟨rfl, N9q, K9, hrest9⟩ := hQ9
  have N9 := Fr.app N0 N9q
  obtain ⟨X9, hS, hZ, hown⟩ := rebS hS (hk1 : _ ≤ (h0).size) X9 hS9 (by rw [e0] at gr9; exact gr9) hZ hown
  have OL := OL.keep K9 (allS ge_sx all0)
  have KP := KP.trans K9 (allS (Or.inl (List.mem_of_getElem? (i := 0) rfl)) all0)
  have hk1 : T9.heap.size ≤ T9.heap.size := Nat.le_refl _
  have CHR := CHR.trans CR9
  have CH := CR9.1
  refine own_via (mkF m 9 #[rv sx, rv a] []) st9 ?_
  exact own_ret0H (s := s) (vm₁ := T9.vm) X9 hS (by exact hk1) hZ hEW (by exact CH) (by rw [hh]; exact CHR) hx Bd.returns hlk (hb hby own_d_jdk_42_method_3_9) (by decide) (by decide) (by exact ⟨rfl, N9, KP, hrest9⟩)
def own_QST (Z : State) (len x0 x1 x2 G1 : Int32) (h0 : Heap) (n0 : Nat) (v : Option Value) (h : Heap) (L : List Loc) : Prop := ∃ (sx t : Addr) (kb : ClassId), v = some (.ref sx) ∧ Fr n0 L ∧ Keep h0 h [] ∧ n0 ≤ sx ∧ h0.size ≤ sx ∧ own_Str Z h sx t kb (own_cs len x0 x1 x2)
set_option maxRecDepth 65536 in
set_option maxHeartbeats 40000000 in
theorem own_rmST (l : Launch) (Z : State) (a0 : Array Value) (hw : ∀ d ∈ tables_1, d.before a0 Z = true) (ws : List Jvm.Cond) (len x0 x1 x2 G1 : Int32) (h0 : Heap) (n0 : Nat) (Z0 : n0 ≤ h0.size) (OL : Old Z n0 h0) (hlen : len = 0 ∨ len = 1 ∨ len = 2 ∨ len = 3) (c8_x0 : own_C8 x0) (c8_x1 : own_C8 x1) (c8_x2 : own_C8 x2) (O2 : Sta Z Z.heap "java/lang/String" "COMPACT_STRINGS" "Z" (.int G1)) (P5 : ¬ (G1 = (0 : Int32))) :
    MetFree l (⟨"com/example/ianus/ianus/TokenIsPinLaw", "str", "(ICCC)Ljava/lang/String;"⟩ : MethodName) (head1 (Jvm.Cond.code (⟨"com/example/ianus/ianus/TokenIsPinLaw", "str", "(ICCC)Ljava/lang/String;"⟩ : MethodName) method_2_code 5 (some (.object "java/lang/String")) :: ws) ({ frames := 4, cells := 6, slots := 12, locals := 66 } : Room)) (fun aa_ U => aa_ = #[(.int len), (.int x0), (.int x1), (.int x2)] ∧ Z.Warmed39 U.vm ∧ U.heap = h0 ∧ CHv Z own_EL U.vm h0) (fun _ _ _ _ _ => True) (fun _ U o U' => ∃ v L, o = .returned v ∧ own_QST Z len x0 x1 x2 G1 h0 n0 v U'.heap L ∧ CHr Z own_EL U.vm U.heap U'.vm U'.heap ∧ ReturnedEndW U o U' L ({ frames := 4, cells := 6, slots := 12, locals := 66 } : Room).cells ({ frames := 4, cells := 6, slots := 12, locals := 66 } : Room).slots) := by
  refine MetFree.of_bodySF (plainFor_of_name own_pn1) hisR ?_
  intro p e s m args below meth c s₁ Bd hml0 hP hK
  obtain ⟨rfl, hZ, hh, CH⟩ := hP
  have hx := Bd.exec
  have hby := Bd.bytes
  have hlk : meth.locks = false := BodyLoose.notSynchronized Bd
  have hml : c.maxLocals = 5 := hml0
  have hown : s.vm.findClass "com/example/ianus/ianus/TokenIsPinLaw" = some m.cls := findClass_of_methodNamed Bd.named
  have hnm := (name_of_methodNamed Bd.named Bd.method).1
  have X0 : Stand p l e ({ frames := 4, cells := 6, slots := 12, locals := 66 } : Room) s m #[(.int len), (.int x0), (.int x1), (.int x2)] below meth c s₁ [] 0 0 := Stand.of_body Bd
  have e0 : s₁.heap = h0 := by rw [← hh, Bd.state]; rfl
  have N0 := Fr.nil n0
  have KP : Keep h0 h0 [] := Keep.refl _ _
  have hS : s.Since s.vm 0 := (State.WarmedH.refl s).since 0
  have hk1 : 0 ≤ h0.size := Nat.zero_le _
  have CHR : CHr Z own_EL s.vm h0 s.vm h0 := CHr.refl CH
  have hEW : EW Z a0 own_EL := own_EWof hw
  have hwsS : ∀ d ∈ Bundle.stringAtoms, d.before a0 Z = true := fun d hd => hw d (own_wS d hd)
  refine own_start (Fin := (own_FinH Z s (own_QST Z len x0 x1 x2 G1 h0 n0) ({ frames := 4, cells := 6, slots := 12, locals := 66 } : Room).cells ({ frames := 4, cells := 6, slots := 12, locals := 66 } : Room).slots)) (own_from (mkF m 0 #[iv len, iv x0, iv x1, iv x2, .unset] []) (castTop (own_ef_ST m len x0 x1 x2)) ?_)
  have hwsV : ∀ d ∈ StrChars.Road.words, d.before a0 Z = true := fun d hd => hw d (own_wV d hd)
  rcases hlen with q | q | q | q
  · subst q
    refine own_to (T' := s₁) (mkF m 1 #[iv 0, iv x0, iv x1, iv x2, .unset] [(.int (0 : Int32))]) (fun _ k => XS.iloadN X0.here hx rfl (hb hby own_d_method_2_0) rfl k) ?_
    refine own_to (T' := s₁) (mkF m 4 #[iv 0, iv x0, iv x1, iv x2, .unset] []) (fun _ k => XS.ifNo X0.here hx rfl (hb hby own_d_method_2_1) rfl ((if0 _ _).trans (teq (by decide : (0 : Int32) = (0 : Int32))).2) k) ?_
    obtain ⟨T10, h10, X10, e10, E10, A10, D10, -, st10⟩ := newO X0 hx hZ hown (hw _ (List.mem_of_getElem? (i := 4) rfl)) (hw _ (List.mem_of_getElem? (i := 5) rfl)) (hw _ (List.mem_of_getElem? (i := 6) rfl)) e0 (g := (mkF m 4 #[iv 0, iv x0, iv x1, iv x2, .unset] [])) rfl (hb hby own_d_method_2_4) (by decide) (by decide)
    obtain ⟨b10, g10⟩ : ∃ z, z = h0.size := ⟨_, rfl⟩
    rw [← g10] at A10 D10 st10
    have sz_b10 : h0.size ≤ b10 := Nat.le_trans KP.1 (Nat.le_of_eq g10.symm)
    have ge_b10 : n0 ≤ b10 := Nat.le_trans Z0 sz_b10
    have CHR := CHR.trans (CHr.ext E10 CH)
    have CH := CH.ext E10
    have OL := OL.ext E10
    have KP := KP.ext E10
    have hk1 := Nat.le_trans hk1 E10.1
    have E_b10 : Exa Z h10 b10 "java/lang/String" := A10
    have F_value_b10 : Fld Z h10 b10 "java/lang/String" "value" "[B" .null := D10 (Or.inr (hw _ (List.mem_of_getElem? (i := 20) rfl))) (ty := (.array .byte)) (by decide)
    have F_coder_b10 : Fld Z h10 b10 "java/lang/String" "coder" "B" (.int (0 : Int32)) := D10 (Or.inr (hw _ (List.mem_of_getElem? (i := 21) rfl))) (ty := .byte) (by decide)
    refine own_to (mkF m 7 #[iv 0, iv x0, iv x1, iv x2, .unset] [(.ref b10)]) st10 ?_
    refine own_to (T' := T10) (mkF m 8 #[iv 0, iv x0, iv x1, iv x2, .unset] [(.ref b10), (.ref b10)]) (fun _ k => XS.dup X10.here hx rfl (hb hby own_d_method_2_7) rfl rfl k) ?_
    refine own_to (T' := T10) (mkF m 9 #[iv 0, iv x0, iv x1, iv x2, .unset] [(.int (0 : Int32)), (.ref b10), (.ref b10)]) (fun _ k => XS.iconst X10.here hx rfl (hb hby own_d_method_2_8) k) ?_
    obtain ⟨T11, h11, k11, X11, e11, E11, A11, B11, st11⟩ := newPE X10 hx hZ (hw _ (List.mem_of_getElem? (i := 7) rfl)) e10 (g := (mkF m 9 #[iv 0, iv x0, iv x1, iv x2, .unset] [(.int (0 : Int32)), (.ref b10), (.ref b10)])) rfl (hb hby own_d_method_2_9) rfl (by decide) (cap := 0) (by decide) (by decide) (by decide) (by decide) (ad := "[C") (by decide)
    obtain ⟨b11, g11⟩ : ∃ z, z = h10.size := ⟨_, rfl⟩
    rw [← g11] at A11 B11 st11
    have sz_b11 : h0.size ≤ b11 := Nat.le_trans KP.1 (Nat.le_of_eq g11.symm)
    have ge_b11 : n0 ≤ b11 := Nat.le_trans Z0 sz_b11
    have ne_b10_b11 : b10 ≠ b11 := Nat.ne_of_lt (Nat.lt_of_lt_of_le E_b10.lt (Nat.le_of_eq g11.symm))
    have CHR := CHR.trans (CHr.ext E11 CH)
    have CH := CH.ext E11
    have OL := OL.ext E11
    have KP := KP.ext E11
    have hk1 := Nat.le_trans hk1 E11.1
    have E_b10 := E_b10.ext E11
    have F_value_b10 := F_value_b10.ext E11
    have F_coder_b10 := F_coder_b10.ext E11
    have V_b11 : Arv Z h11 b11 k11 .char (0 : Int32) [] (.int (0 : Int32)) := Arv.new A11 (by decide)
    refine own_to (mkF m 11 #[iv 0, iv x0, iv x1, iv x2, .unset] [(.ref b11), (.ref b10), (.ref b10)]) st11 ?_
    obtain ⟨_, _, ⟨T12, L12, k12, n12⟩, -, X12, hS12, gr12, ⟨Lc12, hQ12, l12, y12, z12, CR12⟩, st12⟩ := Stand.specialBackS (s := s.setVm s.vm) X11 hx (y := (⟨"java/lang/String", "<init>", "([C)V"⟩ : MethodName)) rfl hown (mvT hZ (hw _ (List.mem_of_getElem? (i := 8) rfl))) (mvT hZ (hw _ (List.mem_of_getElem? (i := 9) rfl))) (mvT hZ (hw _ (List.mem_of_getElem? (i := 10) rfl))) (by decide) (backOfSH (s := s) (vm0 := s.vm) (W := 1) (own_rmI1_0 l Z a0 hw [] b10 b11 k11 h11 n0 (Nat.le_trans Z0 KP.1) OL ge_b10 E_b10 F_value_b10 F_coder_b10 V_b11) hZ (hw _ (List.mem_of_getElem? (i := 10) rfl)) (hw _ (List.mem_of_getElem? (i := 6) rfl)) (by decide) (by decide) hEW CH) (g := (mkF m 11 #[iv 0, iv x0, iv x1, iv x2, .unset] [(.ref b11), (.ref b10), (.ref b10)])) rfl (by rw [hml]; rfl) (Steps.refl _) (a := b10) (argsL := [(.ref b11)]) (rest := [(.ref b10)]) (lenOf own_pd1 rfl) rfl (by show 2 * 0 + _ ≤ _; exact Nat.le_of_eq rfl) (hb hby own_d_method_2_11) (fun _ _ => ⟨rfl, e11, (by decide : 2 + 4 ≤ _), (by decide : 4 + 8 ≤ _)⟩)
    dsimp only [Pt.U, Pt.locs, Pt.cells, Pt.slots] at X12 hS12 gr12 l12 y12 z12 CR12 st12 hQ12
    subst l12 y12 z12
    obtain ⟨rfl, N12q, K12, t_nm, kb_nm, S_nm⟩ := hQ12
    have N12 := Fr.app N0 N12q
    obtain ⟨X12, hS, hZ, hown⟩ := rebS hS (hk1 : _ ≤ (h11).size) X12 hS12 (by rw [e11] at gr12; exact gr12) hZ hown
    have OL := OL.keep K12 (allS ge_b10 all0)
    have KP := KP.trans K12 (allS (Or.inr sz_b10) all0)
    have E_b10 := E_b10.keep K12
    have V_b11 := V_b11.keep K12 (ninS (Ne.symm ne_b10_b11) nin0)
    have hk1 : T12.heap.size ≤ T12.heap.size := Nat.le_refl _
    have CHR := CHR.trans CR12
    have CH := CR12.1
    refine own_via (mkF m 14 #[iv 0, iv x0, iv x1, iv x2, .unset] [(.ref b10)]) st12 ?_
    exact own_retAH (s := s) (vm₁ := T12.vm) X12 hS (by exact hk1) hZ hEW (by exact CH) (by rw [hh]; exact CHR) hx Bd.returns rfl hlk (hb hby own_d_method_2_14) rfl (by decide) (by decide) (by exact ⟨b10, t_nm, kb_nm, rfl, N12, KP, ge_b10, sz_b10, by simpa [own_cs] using S_nm⟩)
  · subst q
    refine own_to (T' := s₁) (mkF m 1 #[iv 1, iv x0, iv x1, iv x2, .unset] [(.int (1 : Int32))]) (fun _ k => XS.iloadN X0.here hx rfl (hb hby own_d_method_2_0) rfl k) ?_
    refine own_to (T' := s₁) (mkF m 15 #[iv 1, iv x0, iv x1, iv x2, .unset] []) (fun _ k => XS.ifYes X0.here hx rfl (pc0 := 1) (pc' := 15) rfl (hb hby own_d_method_2_1) rfl ((if0 _ _).trans (feq (by decide : ¬ ((1 : Int32) = (0 : Int32)))).2) (by decide) (by decide) k) ?_
    refine own_to (T' := s₁) (mkF m 16 #[iv 1, iv x0, iv x1, iv x2, .unset] [(.int (1 : Int32))]) (fun _ k => XS.iloadN X0.here hx rfl (hb hby own_d_method_2_15) rfl k) ?_
    refine own_to (T' := s₁) (mkF m 17 #[iv 1, iv x0, iv x1, iv x2, .unset] [(.int (1 : Int32)), (.int (1 : Int32))]) (fun _ k => XS.iconst X0.here hx rfl (hb hby own_d_method_2_16) k) ?_
    refine own_to (T' := s₁) (mkF m 20 #[iv 1, iv x0, iv x1, iv x2, .unset] []) (fun _ k => XS.icmpNo X0.here hx rfl (hb hby own_d_method_2_17) rfl (teq (by decide : (1 : Int32) = (1 : Int32))).2 k) ?_
    refine own_to (T' := s₁) (mkF m 21 #[iv 1, iv x0, iv x1, iv x2, .unset] [(.int (1 : Int32))]) (fun _ k => XS.iconst X0.here hx rfl (hb hby own_d_method_2_20) k) ?_
    obtain ⟨T13, h13, k13, X13, e13, E13, A13, B13, st13⟩ := newPE X0 hx hZ (hw _ (List.mem_of_getElem? (i := 7) rfl)) e0 (g := (mkF m 21 #[iv 1, iv x0, iv x1, iv x2, .unset] [(.int (1 : Int32))])) rfl (hb hby own_d_method_2_21) rfl (by decide) (cap := 1) (by decide) (by decide) (by decide) (by decide) (ad := "[C") (by decide)
    obtain ⟨b13, g13⟩ : ∃ z, z = h0.size := ⟨_, rfl⟩
    rw [← g13] at A13 B13 st13
    have sz_b13 : h0.size ≤ b13 := Nat.le_trans KP.1 (Nat.le_of_eq g13.symm)
    have ge_b13 : n0 ≤ b13 := Nat.le_trans Z0 sz_b13
    have CHR := CHR.trans (CHr.ext E13 CH)
    have CH := CH.ext E13
    have OL := OL.ext E13
    have KP := KP.ext E13
    have hk1 := Nat.le_trans hk1 E13.1
    have V_b13 : Arv Z h13 b13 k13 .char (1 : Int32) [(.int (0 : Int32))] (.int (0 : Int32)) := (Arv.new A13 (by decide)).pad (pad_rep [] (.int (0 : Int32)) 1)
    refine own_to (mkF m 23 #[iv 1, iv x0, iv x1, iv x2, .unset] [(.ref b13)]) st13 ?_
    refine own_to (T' := T13) (mkF m 25 #[iv 1, iv x0, iv x1, iv x2, rv b13] []) (fun _ k => XS.astore X13.here hx rfl (hb hby own_d_method_2_23) rfl rfl (l' := #[iv 1, iv x0, iv x1, iv x2, rv b13]) rfl k) ?_
    refine own_to (T' := T13) (mkF m 27 #[iv 1, iv x0, iv x1, iv x2, rv b13] [(.ref b13)]) (fun _ k => XS.aload X13.here hx rfl (hb hby own_d_method_2_25) rfl rfl k) ?_
    refine own_to (T' := T13) (mkF m 28 #[iv 1, iv x0, iv x1, iv x2, rv b13] [(.int (0 : Int32)), (.ref b13)]) (fun _ k => XS.iconst X13.here hx rfl (hb hby own_d_method_2_27) k) ?_
    refine own_to (T' := T13) (mkF m 29 #[iv 1, iv x0, iv x1, iv x2, rv b13] [(.int x0), (.int (0 : Int32)), (.ref b13)]) (fun _ k => XS.iloadN X13.here hx rfl (hb hby own_d_method_2_28) rfl k) ?_
    obtain ⟨cl14, Ar14, q14, S14, M14, H14, G14⟩ := id V_b13
    obtain ⟨T14, h14, X14, e14, W14, st14⟩ := stC X13 hx hZ e13 Ar14 (j := (0 : Int32)) (inb_of S14 ⟨by decide, by decide⟩) (g := (mkF m 29 #[iv 1, iv x0, iv x1, iv x2, rv b13] [(.int x0), (.int (0 : Int32)), (.ref b13)])) rfl rfl (hb hby own_d_method_2_29)
    refine own_to (mkF m 30 #[iv 1, iv x0, iv x1, iv x2, rv b13] []) st14 ?_
    have N14 := Fr.snoc X14 N0 ge_b13
    have tmp14 : Arv Z h14 b13 k13 .char (1 : Int32) [(.int (nar .char x0))] (.int (0 : Int32)) := Arv.set Ar14 q14 S14 M14 H14 G14 (fits_nar_char _) W14 0 rfl (Nat.le_of_ble_eq_true rfl)
    rw [own_nar8 c8_x0] at tmp14
    have SFa : Safe Z own_EL s.vm h13 b13 := (Safe.arv hZ.alike V_b13 (by decide))
    have CHR := CHR.trans (CHr.wr W14 SFa CH)
    have CH := CH.wr W14 SFa
    have OL := OL.wr W14 ge_b13
    have KP := KP.wr W14 (Or.inr sz_b13)
    have hk1 := Nat.le_trans hk1 (Keep.of_wr W14).1
    have V_b13 := tmp14
    obtain ⟨T15, h15, X15, e15, E15, A15, D15, -, st15⟩ := newO X14 hx hZ hown (hw _ (List.mem_of_getElem? (i := 4) rfl)) (hw _ (List.mem_of_getElem? (i := 5) rfl)) (hw _ (List.mem_of_getElem? (i := 6) rfl)) e14 (g := (mkF m 30 #[iv 1, iv x0, iv x1, iv x2, rv b13] [])) rfl (hb hby own_d_method_2_30) (by decide) (by decide)
    obtain ⟨b15, g15⟩ : ∃ z, z = h14.size := ⟨_, rfl⟩
    rw [← g15] at A15 D15 st15
    have sz_b15 : h0.size ≤ b15 := Nat.le_trans KP.1 (Nat.le_of_eq g15.symm)
    have ge_b15 : n0 ≤ b15 := Nat.le_trans Z0 sz_b15
    have ne_b13_b15 : b13 ≠ b15 := Nat.ne_of_lt (Nat.lt_of_lt_of_le V_b13.lt (Nat.le_of_eq g15.symm))
    have CHR := CHR.trans (CHr.ext E15 CH)
    have CH := CH.ext E15
    have OL := OL.ext E15
    have KP := KP.ext E15
    have hk1 := Nat.le_trans hk1 E15.1
    have V_b13 := V_b13.ext E15
    have E_b15 : Exa Z h15 b15 "java/lang/String" := A15
    have F_value_b15 : Fld Z h15 b15 "java/lang/String" "value" "[B" .null := D15 (Or.inr (hw _ (List.mem_of_getElem? (i := 20) rfl))) (ty := (.array .byte)) (by decide)
    have F_coder_b15 : Fld Z h15 b15 "java/lang/String" "coder" "B" (.int (0 : Int32)) := D15 (Or.inr (hw _ (List.mem_of_getElem? (i := 21) rfl))) (ty := .byte) (by decide)
    refine own_to (mkF m 33 #[iv 1, iv x0, iv x1, iv x2, rv b13] [(.ref b15)]) st15 ?_
    refine own_to (T' := T15) (mkF m 34 #[iv 1, iv x0, iv x1, iv x2, rv b13] [(.ref b15), (.ref b15)]) (fun _ k => XS.dup X15.here hx rfl (hb hby own_d_method_2_33) rfl rfl k) ?_
    refine own_to (T' := T15) (mkF m 36 #[iv 1, iv x0, iv x1, iv x2, rv b13] [(.ref b13), (.ref b15), (.ref b15)]) (fun _ k => XS.aload X15.here hx rfl (hb hby own_d_method_2_34) rfl rfl k) ?_
    have hp16 : ∀ c ∈ ([x0] : List Int32), ¬ c < 0 ∧ ¬ (255 : Int32) < c := (own_allS c8_x0 own_all0)
    have KP0 := KP
    have lt0_b13 := V_b13.lt
    have lt0_b15 := E_b15.lt
    obtain ⟨_, _, ⟨T17, L17, k17, n17⟩, -, X17, ⟨Lc17, hQ17, l17, y17, z17⟩, st17⟩ := X15.specialBack hx (y := (⟨"java/lang/String", "<init>", "([C)V"⟩ : MethodName)) rfl hown (mvT hZ (hw _ (List.mem_of_getElem? (i := 8) rfl))) (mvT hZ (hw _ (List.mem_of_getElem? (i := 9) rfl))) (mvT hZ (hw _ (List.mem_of_getElem? (i := 10) rfl))) (by decide) (StrChars.Road.backV (W := 1) hZ hwsV (kI := 4) (hw _ (List.mem_of_getElem? (i := 5) rfl)) (cs := ([x0] : List Int32)) (bs := (([x0] : List Int32)).map (fun c => c.toInt8.toInt32)) (n := 1) ge_b15 (Nat.le_trans Z0 KP.1) E_b15 F_value_b15 F_coder_b15 V_b13 (O2.ext OL.2) P5 rfl rfl (by decide) (by decide) hp16 rfl (by decide) (by decide)) (g := (mkF m 36 #[iv 1, iv x0, iv x1, iv x2, rv b13] [(.ref b13), (.ref b15), (.ref b15)])) rfl (by rw [hml]; rfl) (Steps.refl _) (a := b15) (argsL := [(.ref b13)]) (rest := [(.ref b15)]) (lenOf own_pd1 rfl) rfl (by show 2 * 0 + _ ≤ _; exact Nat.le_of_eq rfl) (hb hby own_d_method_2_36) (fun _ _ => ⟨rfl, e15, (by decide : 2 + 1 ≤ _), (by decide : 5 + 1 ≤ _)⟩)
    dsimp only [Pt.U, Pt.locs, Pt.cells, Pt.slots] at X17 l17 y17 z17 st17 hQ17
    subst l17 y17 z17
    obtain ⟨rfl, N17q, K17, Ex17, Cx17, t_nm, kb_nm, ge_t_nm, sz0_t_nm, ne_t_nm_b15, Vx17, Kx17⟩ := hQ17
    have N17 := Fr.app N14 N17q
    have SFk : ∀ x ∈ [b15], Safe Z own_EL s.vm h15 x := (sfS (own_safeN hZ.alike E_b15 F_value_b15) sf0)
    have CHR := CHR.trans (CHr.keep K17 SFk CH)
    have CH := CH.keep K17 SFk
    have OL := OL.keep K17 (allS ge_b15 all0)
    have KP := KP.trans K17 (allS (Or.inr sz_b15) all0)
    have hk1 := Nat.le_trans hk1 K17.1
    have V_b13 := V_b13.keep K17 (ninS ne_b13_b15 nin0)
    have E_b15 := E_b15.keep K17
    refine own_via (mkF m 39 #[iv 1, iv x0, iv x1, iv x2, rv b13] [(.ref b15)]) st17 ?_
    have sz_t_nm : h0.size ≤ t_nm := Nat.le_trans KP0.1 sz0_t_nm
    have ne_b13_t_nm : b13 ≠ t_nm := Nat.ne_of_lt (Nat.lt_of_lt_of_le lt0_b13 sz0_t_nm)
    have S_nm : own_Str Z T17.heap b15 t_nm kb_nm ([x0] : List Int32) := ⟨Ex17, Vx17, Cx17, Kx17, hp16, Nat.le_of_ble_eq_true rfl⟩
    exact own_retAH (s := s) (vm₁ := s.vm) X17 hS (by exact hk1) hZ hEW (by exact CH) (by rw [hh]; exact CHR) hx Bd.returns rfl hlk (hb hby own_d_method_2_39) rfl (by decide) (by decide) (by exact ⟨b15, t_nm, kb_nm, rfl, N17, KP, ge_b15, sz_b15, by simpa [own_cs] using S_nm⟩)
  · subst q
    refine own_to (T' := s₁) (mkF m 1 #[iv 2, iv x0, iv x1, iv x2, .unset] [(.int (2 : Int32))]) (fun _ k => XS.iloadN X0.here hx rfl (hb hby own_d_method_2_0) rfl k) ?_
    refine own_to (T' := s₁) (mkF m 15 #[iv 2, iv x0, iv x1, iv x2, .unset] []) (fun _ k => XS.ifYes X0.here hx rfl (pc0 := 1) (pc' := 15) rfl (hb hby own_d_method_2_1) rfl ((if0 _ _).trans (feq (by decide : ¬ ((2 : Int32) = (0 : Int32)))).2) (by decide) (by decide) k) ?_
    refine own_to (T' := s₁) (mkF m 16 #[iv 2, iv x0, iv x1, iv x2, .unset] [(.int (2 : Int32))]) (fun _ k => XS.iloadN X0.here hx rfl (hb hby own_d_method_2_15) rfl k) ?_
    refine own_to (T' := s₁) (mkF m 17 #[iv 2, iv x0, iv x1, iv x2, .unset] [(.int (1 : Int32)), (.int (2 : Int32))]) (fun _ k => XS.iconst X0.here hx rfl (hb hby own_d_method_2_16) k) ?_
    refine own_to (T' := s₁) (mkF m 40 #[iv 2, iv x0, iv x1, iv x2, .unset] []) (fun _ k => XS.icmpYes X0.here hx rfl (pc0 := 17) (pc' := 40) rfl (hb hby own_d_method_2_17) rfl (feq (by decide : ¬ ((2 : Int32) = (1 : Int32)))).2 (by decide) (by decide) k) ?_
    refine own_to (T' := s₁) (mkF m 41 #[iv 2, iv x0, iv x1, iv x2, .unset] [(.int (2 : Int32))]) (fun _ k => XS.iloadN X0.here hx rfl (hb hby own_d_method_2_40) rfl k) ?_
    refine own_to (T' := s₁) (mkF m 42 #[iv 2, iv x0, iv x1, iv x2, .unset] [(.int (2 : Int32)), (.int (2 : Int32))]) (fun _ k => XS.iconst X0.here hx rfl (hb hby own_d_method_2_41) k) ?_
    refine own_to (T' := s₁) (mkF m 45 #[iv 2, iv x0, iv x1, iv x2, .unset] []) (fun _ k => XS.icmpNo X0.here hx rfl (hb hby own_d_method_2_42) rfl (teq (by decide : (2 : Int32) = (2 : Int32))).2 k) ?_
    refine own_to (T' := s₁) (mkF m 46 #[iv 2, iv x0, iv x1, iv x2, .unset] [(.int (2 : Int32))]) (fun _ k => XS.iconst X0.here hx rfl (hb hby own_d_method_2_45) k) ?_
    obtain ⟨T18, h18, k18, X18, e18, E18, A18, B18, st18⟩ := newPE X0 hx hZ (hw _ (List.mem_of_getElem? (i := 7) rfl)) e0 (g := (mkF m 46 #[iv 2, iv x0, iv x1, iv x2, .unset] [(.int (2 : Int32))])) rfl (hb hby own_d_method_2_46) rfl (by decide) (cap := 2) (by decide) (by decide) (by decide) (by decide) (ad := "[C") (by decide)
    obtain ⟨b18, g18⟩ : ∃ z, z = h0.size := ⟨_, rfl⟩
    rw [← g18] at A18 B18 st18
    have sz_b18 : h0.size ≤ b18 := Nat.le_trans KP.1 (Nat.le_of_eq g18.symm)
    have ge_b18 : n0 ≤ b18 := Nat.le_trans Z0 sz_b18
    have CHR := CHR.trans (CHr.ext E18 CH)
    have CH := CH.ext E18
    have OL := OL.ext E18
    have KP := KP.ext E18
    have hk1 := Nat.le_trans hk1 E18.1
    have V_b18 : Arv Z h18 b18 k18 .char (2 : Int32) [(.int (0 : Int32)), (.int (0 : Int32))] (.int (0 : Int32)) := (Arv.new A18 (by decide)).pad (pad_rep [] (.int (0 : Int32)) 2)
    refine own_to (mkF m 48 #[iv 2, iv x0, iv x1, iv x2, .unset] [(.ref b18)]) st18 ?_
    refine own_to (T' := T18) (mkF m 50 #[iv 2, iv x0, iv x1, iv x2, rv b18] []) (fun _ k => XS.astore X18.here hx rfl (hb hby own_d_method_2_48) rfl rfl (l' := #[iv 2, iv x0, iv x1, iv x2, rv b18]) rfl k) ?_
    refine own_to (T' := T18) (mkF m 52 #[iv 2, iv x0, iv x1, iv x2, rv b18] [(.ref b18)]) (fun _ k => XS.aload X18.here hx rfl (hb hby own_d_method_2_50) rfl rfl k) ?_
    refine own_to (T' := T18) (mkF m 53 #[iv 2, iv x0, iv x1, iv x2, rv b18] [(.int (0 : Int32)), (.ref b18)]) (fun _ k => XS.iconst X18.here hx rfl (hb hby own_d_method_2_52) k) ?_
    refine own_to (T' := T18) (mkF m 54 #[iv 2, iv x0, iv x1, iv x2, rv b18] [(.int x0), (.int (0 : Int32)), (.ref b18)]) (fun _ k => XS.iloadN X18.here hx rfl (hb hby own_d_method_2_53) rfl k) ?_
    obtain ⟨cl19, Ar19, q19, S19, M19, H19, G19⟩ := id V_b18
    obtain ⟨T19, h19, X19, e19, W19, st19⟩ := stC X18 hx hZ e18 Ar19 (j := (0 : Int32)) (inb_of S19 ⟨by decide, by decide⟩) (g := (mkF m 54 #[iv 2, iv x0, iv x1, iv x2, rv b18] [(.int x0), (.int (0 : Int32)), (.ref b18)])) rfl rfl (hb hby own_d_method_2_54)
    refine own_to (mkF m 55 #[iv 2, iv x0, iv x1, iv x2, rv b18] []) st19 ?_
    have N19 := Fr.snoc X19 N0 ge_b18
    have tmp19 : Arv Z h19 b18 k18 .char (2 : Int32) [(.int (nar .char x0)), (.int (0 : Int32))] (.int (0 : Int32)) := Arv.set Ar19 q19 S19 M19 H19 G19 (fits_nar_char _) W19 0 rfl (Nat.le_of_ble_eq_true rfl)
    rw [own_nar8 c8_x0] at tmp19
    have SFa : Safe Z own_EL s.vm h18 b18 := (Safe.arv hZ.alike V_b18 (by decide))
    have CHR := CHR.trans (CHr.wr W19 SFa CH)
    have CH := CH.wr W19 SFa
    have OL := OL.wr W19 ge_b18
    have KP := KP.wr W19 (Or.inr sz_b18)
    have hk1 := Nat.le_trans hk1 (Keep.of_wr W19).1
    have V_b18 := tmp19
    refine own_to (T' := T19) (mkF m 57 #[iv 2, iv x0, iv x1, iv x2, rv b18] [(.ref b18)]) (fun _ k => XS.aload X19.here hx rfl (hb hby own_d_method_2_55) rfl rfl k) ?_
    refine own_to (T' := T19) (mkF m 58 #[iv 2, iv x0, iv x1, iv x2, rv b18] [(.int (1 : Int32)), (.ref b18)]) (fun _ k => XS.iconst X19.here hx rfl (hb hby own_d_method_2_57) k) ?_
    refine own_to (T' := T19) (mkF m 59 #[iv 2, iv x0, iv x1, iv x2, rv b18] [(.int x1), (.int (1 : Int32)), (.ref b18)]) (fun _ k => XS.iloadN X19.here hx rfl (hb hby own_d_method_2_58) rfl k) ?_
    obtain ⟨cl20, Ar20, q20, S20, M20, H20, G20⟩ := id V_b18
    obtain ⟨T20, h20, X20, e20, W20, st20⟩ := stC X19 hx hZ e19 Ar20 (j := (1 : Int32)) (inb_of S20 ⟨by decide, by decide⟩) (g := (mkF m 59 #[iv 2, iv x0, iv x1, iv x2, rv b18] [(.int x1), (.int (1 : Int32)), (.ref b18)])) rfl rfl (hb hby own_d_method_2_59)
    refine own_to (mkF m 60 #[iv 2, iv x0, iv x1, iv x2, rv b18] []) st20 ?_
    have N20 := Fr.snoc X20 N19 ge_b18
    have tmp20 : Arv Z h20 b18 k18 .char (2 : Int32) [(.int x0), (.int (nar .char x1))] (.int (0 : Int32)) := Arv.set Ar20 q20 S20 M20 H20 G20 (fits_nar_char _) W20 1 rfl (Nat.le_of_ble_eq_true rfl)
    rw [own_nar8 c8_x1] at tmp20
    have SFa : Safe Z own_EL s.vm h19 b18 := (Safe.arv hZ.alike V_b18 (by decide))
    have CHR := CHR.trans (CHr.wr W20 SFa CH)
    have CH := CH.wr W20 SFa
    have OL := OL.wr W20 ge_b18
    have KP := KP.wr W20 (Or.inr sz_b18)
    have hk1 := Nat.le_trans hk1 (Keep.of_wr W20).1
    have V_b18 := tmp20
    obtain ⟨T21, h21, X21, e21, E21, A21, D21, -, st21⟩ := newO X20 hx hZ hown (hw _ (List.mem_of_getElem? (i := 4) rfl)) (hw _ (List.mem_of_getElem? (i := 5) rfl)) (hw _ (List.mem_of_getElem? (i := 6) rfl)) e20 (g := (mkF m 60 #[iv 2, iv x0, iv x1, iv x2, rv b18] [])) rfl (hb hby own_d_method_2_60) (by decide) (by decide)
    obtain ⟨b21, g21⟩ : ∃ z, z = h20.size := ⟨_, rfl⟩
    rw [← g21] at A21 D21 st21
    have sz_b21 : h0.size ≤ b21 := Nat.le_trans KP.1 (Nat.le_of_eq g21.symm)
    have ge_b21 : n0 ≤ b21 := Nat.le_trans Z0 sz_b21
    have ne_b18_b21 : b18 ≠ b21 := Nat.ne_of_lt (Nat.lt_of_lt_of_le V_b18.lt (Nat.le_of_eq g21.symm))
    have CHR := CHR.trans (CHr.ext E21 CH)
    have CH := CH.ext E21
    have OL := OL.ext E21
    have KP := KP.ext E21
    have hk1 := Nat.le_trans hk1 E21.1
    have V_b18 := V_b18.ext E21
    have E_b21 : Exa Z h21 b21 "java/lang/String" := A21
    have F_value_b21 : Fld Z h21 b21 "java/lang/String" "value" "[B" .null := D21 (Or.inr (hw _ (List.mem_of_getElem? (i := 20) rfl))) (ty := (.array .byte)) (by decide)
    have F_coder_b21 : Fld Z h21 b21 "java/lang/String" "coder" "B" (.int (0 : Int32)) := D21 (Or.inr (hw _ (List.mem_of_getElem? (i := 21) rfl))) (ty := .byte) (by decide)
    refine own_to (mkF m 63 #[iv 2, iv x0, iv x1, iv x2, rv b18] [(.ref b21)]) st21 ?_
    refine own_to (T' := T21) (mkF m 64 #[iv 2, iv x0, iv x1, iv x2, rv b18] [(.ref b21), (.ref b21)]) (fun _ k => XS.dup X21.here hx rfl (hb hby own_d_method_2_63) rfl rfl k) ?_
    refine own_to (T' := T21) (mkF m 66 #[iv 2, iv x0, iv x1, iv x2, rv b18] [(.ref b18), (.ref b21), (.ref b21)]) (fun _ k => XS.aload X21.here hx rfl (hb hby own_d_method_2_64) rfl rfl k) ?_
    have hp22 : ∀ c ∈ ([x0, x1] : List Int32), ¬ c < 0 ∧ ¬ (255 : Int32) < c := (own_allS c8_x0 (own_allS c8_x1 own_all0))
    have KP0 := KP
    have lt0_b18 := V_b18.lt
    have lt0_b21 := E_b21.lt
    obtain ⟨_, _, ⟨T23, L23, k23, n23⟩, -, X23, ⟨Lc23, hQ23, l23, y23, z23⟩, st23⟩ := X21.specialBack hx (y := (⟨"java/lang/String", "<init>", "([C)V"⟩ : MethodName)) rfl hown (mvT hZ (hw _ (List.mem_of_getElem? (i := 8) rfl))) (mvT hZ (hw _ (List.mem_of_getElem? (i := 9) rfl))) (mvT hZ (hw _ (List.mem_of_getElem? (i := 10) rfl))) (by decide) (StrChars.Road.backV (W := 1) hZ hwsV (kI := 4) (hw _ (List.mem_of_getElem? (i := 5) rfl)) (cs := ([x0, x1] : List Int32)) (bs := (([x0, x1] : List Int32)).map (fun c => c.toInt8.toInt32)) (n := 2) ge_b21 (Nat.le_trans Z0 KP.1) E_b21 F_value_b21 F_coder_b21 V_b18 (O2.ext OL.2) P5 rfl rfl (by decide) (by decide) hp22 rfl (by decide) (by decide)) (g := (mkF m 66 #[iv 2, iv x0, iv x1, iv x2, rv b18] [(.ref b18), (.ref b21), (.ref b21)])) rfl (by rw [hml]; rfl) (Steps.refl _) (a := b21) (argsL := [(.ref b18)]) (rest := [(.ref b21)]) (lenOf own_pd1 rfl) rfl (by show 2 * 0 + _ ≤ _; exact Nat.le_of_eq rfl) (hb hby own_d_method_2_66) (fun _ _ => ⟨rfl, e21, (by decide : 2 + 1 ≤ _), (by decide : 6 + 2 ≤ _)⟩)
    dsimp only [Pt.U, Pt.locs, Pt.cells, Pt.slots] at X23 l23 y23 z23 st23 hQ23
    subst l23 y23 z23
    obtain ⟨rfl, N23q, K23, Ex23, Cx23, t_nm, kb_nm, ge_t_nm, sz0_t_nm, ne_t_nm_b21, Vx23, Kx23⟩ := hQ23
    have N23 := Fr.app N20 N23q
    have SFk : ∀ x ∈ [b21], Safe Z own_EL s.vm h21 x := (sfS (own_safeN hZ.alike E_b21 F_value_b21) sf0)
    have CHR := CHR.trans (CHr.keep K23 SFk CH)
    have CH := CH.keep K23 SFk
    have OL := OL.keep K23 (allS ge_b21 all0)
    have KP := KP.trans K23 (allS (Or.inr sz_b21) all0)
    have hk1 := Nat.le_trans hk1 K23.1
    have V_b18 := V_b18.keep K23 (ninS ne_b18_b21 nin0)
    have E_b21 := E_b21.keep K23
    refine own_via (mkF m 69 #[iv 2, iv x0, iv x1, iv x2, rv b18] [(.ref b21)]) st23 ?_
    have sz_t_nm : h0.size ≤ t_nm := Nat.le_trans KP0.1 sz0_t_nm
    have ne_b18_t_nm : b18 ≠ t_nm := Nat.ne_of_lt (Nat.lt_of_lt_of_le lt0_b18 sz0_t_nm)
    have S_nm : own_Str Z T23.heap b21 t_nm kb_nm ([x0, x1] : List Int32) := ⟨Ex23, Vx23, Cx23, Kx23, hp22, Nat.le_of_ble_eq_true rfl⟩
    exact own_retAH (s := s) (vm₁ := s.vm) X23 hS (by exact hk1) hZ hEW (by exact CH) (by rw [hh]; exact CHR) hx Bd.returns rfl hlk (hb hby own_d_method_2_69) rfl (by decide) (by decide) (by exact ⟨b21, t_nm, kb_nm, rfl, N23, KP, ge_b21, sz_b21, by simpa [own_cs] using S_nm⟩)
  · subst q
    refine own_to (T' := s₁) (mkF m 1 #[iv 3, iv x0, iv x1, iv x2, .unset] [(.int (3 : Int32))]) (fun _ k => XS.iloadN X0.here hx rfl (hb hby own_d_method_2_0) rfl k) ?_
    refine own_to (T' := s₁) (mkF m 15 #[iv 3, iv x0, iv x1, iv x2, .unset] []) (fun _ k => XS.ifYes X0.here hx rfl (pc0 := 1) (pc' := 15) rfl (hb hby own_d_method_2_1) rfl ((if0 _ _).trans (feq (by decide : ¬ ((3 : Int32) = (0 : Int32)))).2) (by decide) (by decide) k) ?_
    refine own_to (T' := s₁) (mkF m 16 #[iv 3, iv x0, iv x1, iv x2, .unset] [(.int (3 : Int32))]) (fun _ k => XS.iloadN X0.here hx rfl (hb hby own_d_method_2_15) rfl k) ?_
    refine own_to (T' := s₁) (mkF m 17 #[iv 3, iv x0, iv x1, iv x2, .unset] [(.int (1 : Int32)), (.int (3 : Int32))]) (fun _ k => XS.iconst X0.here hx rfl (hb hby own_d_method_2_16) k) ?_
    refine own_to (T' := s₁) (mkF m 40 #[iv 3, iv x0, iv x1, iv x2, .unset] []) (fun _ k => XS.icmpYes X0.here hx rfl (pc0 := 17) (pc' := 40) rfl (hb hby own_d_method_2_17) rfl (feq (by decide : ¬ ((3 : Int32) = (1 : Int32)))).2 (by decide) (by decide) k) ?_
    refine own_to (T' := s₁) (mkF m 41 #[iv 3, iv x0, iv x1, iv x2, .unset] [(.int (3 : Int32))]) (fun _ k => XS.iloadN X0.here hx rfl (hb hby own_d_method_2_40) rfl k) ?_
    refine own_to (T' := s₁) (mkF m 42 #[iv 3, iv x0, iv x1, iv x2, .unset] [(.int (2 : Int32)), (.int (3 : Int32))]) (fun _ k => XS.iconst X0.here hx rfl (hb hby own_d_method_2_41) k) ?_
    refine own_to (T' := s₁) (mkF m 70 #[iv 3, iv x0, iv x1, iv x2, .unset] []) (fun _ k => XS.icmpYes X0.here hx rfl (pc0 := 42) (pc' := 70) rfl (hb hby own_d_method_2_42) rfl (feq (by decide : ¬ ((3 : Int32) = (2 : Int32)))).2 (by decide) (by decide) k) ?_
    refine own_to (T' := s₁) (mkF m 71 #[iv 3, iv x0, iv x1, iv x2, .unset] [(.int (3 : Int32))]) (fun _ k => XS.iconst X0.here hx rfl (hb hby own_d_method_2_70) k) ?_
    obtain ⟨T24, h24, k24, X24, e24, E24, A24, B24, st24⟩ := newPE X0 hx hZ (hw _ (List.mem_of_getElem? (i := 7) rfl)) e0 (g := (mkF m 71 #[iv 3, iv x0, iv x1, iv x2, .unset] [(.int (3 : Int32))])) rfl (hb hby own_d_method_2_71) rfl (by decide) (cap := 3) (by decide) (by decide) (by decide) (by decide) (ad := "[C") (by decide)
    obtain ⟨b24, g24⟩ : ∃ z, z = h0.size := ⟨_, rfl⟩
    rw [← g24] at A24 B24 st24
    have sz_b24 : h0.size ≤ b24 := Nat.le_trans KP.1 (Nat.le_of_eq g24.symm)
    have ge_b24 : n0 ≤ b24 := Nat.le_trans Z0 sz_b24
    have CHR := CHR.trans (CHr.ext E24 CH)
    have CH := CH.ext E24
    have OL := OL.ext E24
    have KP := KP.ext E24
    have hk1 := Nat.le_trans hk1 E24.1
    have V_b24 : Arv Z h24 b24 k24 .char (3 : Int32) [(.int (0 : Int32)), (.int (0 : Int32)), (.int (0 : Int32))] (.int (0 : Int32)) := (Arv.new A24 (by decide)).pad (pad_rep [] (.int (0 : Int32)) 3)
    refine own_to (mkF m 73 #[iv 3, iv x0, iv x1, iv x2, .unset] [(.ref b24)]) st24 ?_
    refine own_to (T' := T24) (mkF m 75 #[iv 3, iv x0, iv x1, iv x2, rv b24] []) (fun _ k => XS.astore X24.here hx rfl (hb hby own_d_method_2_73) rfl rfl (l' := #[iv 3, iv x0, iv x1, iv x2, rv b24]) rfl k) ?_
    refine own_to (T' := T24) (mkF m 77 #[iv 3, iv x0, iv x1, iv x2, rv b24] [(.ref b24)]) (fun _ k => XS.aload X24.here hx rfl (hb hby own_d_method_2_75) rfl rfl k) ?_
    refine own_to (T' := T24) (mkF m 78 #[iv 3, iv x0, iv x1, iv x2, rv b24] [(.int (0 : Int32)), (.ref b24)]) (fun _ k => XS.iconst X24.here hx rfl (hb hby own_d_method_2_77) k) ?_
    refine own_to (T' := T24) (mkF m 79 #[iv 3, iv x0, iv x1, iv x2, rv b24] [(.int x0), (.int (0 : Int32)), (.ref b24)]) (fun _ k => XS.iloadN X24.here hx rfl (hb hby own_d_method_2_78) rfl k) ?_
    obtain ⟨cl25, Ar25, q25, S25, M25, H25, G25⟩ := id V_b24
    obtain ⟨T25, h25, X25, e25, W25, st25⟩ := stC X24 hx hZ e24 Ar25 (j := (0 : Int32)) (inb_of S25 ⟨by decide, by decide⟩) (g := (mkF m 79 #[iv 3, iv x0, iv x1, iv x2, rv b24] [(.int x0), (.int (0 : Int32)), (.ref b24)])) rfl rfl (hb hby own_d_method_2_79)
    refine own_to (mkF m 80 #[iv 3, iv x0, iv x1, iv x2, rv b24] []) st25 ?_
    have N25 := Fr.snoc X25 N0 ge_b24
    have tmp25 : Arv Z h25 b24 k24 .char (3 : Int32) [(.int (nar .char x0)), (.int (0 : Int32)), (.int (0 : Int32))] (.int (0 : Int32)) := Arv.set Ar25 q25 S25 M25 H25 G25 (fits_nar_char _) W25 0 rfl (Nat.le_of_ble_eq_true rfl)
    rw [own_nar8 c8_x0] at tmp25
    have SFa : Safe Z own_EL s.vm h24 b24 := (Safe.arv hZ.alike V_b24 (by decide))
    have CHR := CHR.trans (CHr.wr W25 SFa CH)
    have CH := CH.wr W25 SFa
    have OL := OL.wr W25 ge_b24
    have KP := KP.wr W25 (Or.inr sz_b24)
    have hk1 := Nat.le_trans hk1 (Keep.of_wr W25).1
    have V_b24 := tmp25
    refine own_to (T' := T25) (mkF m 82 #[iv 3, iv x0, iv x1, iv x2, rv b24] [(.ref b24)]) (fun _ k => XS.aload X25.here hx rfl (hb hby own_d_method_2_80) rfl rfl k) ?_
    refine own_to (T' := T25) (mkF m 83 #[iv 3, iv x0, iv x1, iv x2, rv b24] [(.int (1 : Int32)), (.ref b24)]) (fun _ k => XS.iconst X25.here hx rfl (hb hby own_d_method_2_82) k) ?_
    refine own_to (T' := T25) (mkF m 84 #[iv 3, iv x0, iv x1, iv x2, rv b24] [(.int x1), (.int (1 : Int32)), (.ref b24)]) (fun _ k => XS.iloadN X25.here hx rfl (hb hby own_d_method_2_83) rfl k) ?_
    obtain ⟨cl26, Ar26, q26, S26, M26, H26, G26⟩ := id V_b24
    obtain ⟨T26, h26, X26, e26, W26, st26⟩ := stC X25 hx hZ e25 Ar26 (j := (1 : Int32)) (inb_of S26 ⟨by decide, by decide⟩) (g := (mkF m 84 #[iv 3, iv x0, iv x1, iv x2, rv b24] [(.int x1), (.int (1 : Int32)), (.ref b24)])) rfl rfl (hb hby own_d_method_2_84)
    refine own_to (mkF m 85 #[iv 3, iv x0, iv x1, iv x2, rv b24] []) st26 ?_
    have N26 := Fr.snoc X26 N25 ge_b24
    have tmp26 : Arv Z h26 b24 k24 .char (3 : Int32) [(.int x0), (.int (nar .char x1)), (.int (0 : Int32))] (.int (0 : Int32)) := Arv.set Ar26 q26 S26 M26 H26 G26 (fits_nar_char _) W26 1 rfl (Nat.le_of_ble_eq_true rfl)
    rw [own_nar8 c8_x1] at tmp26
    have SFa : Safe Z own_EL s.vm h25 b24 := (Safe.arv hZ.alike V_b24 (by decide))
    have CHR := CHR.trans (CHr.wr W26 SFa CH)
    have CH := CH.wr W26 SFa
    have OL := OL.wr W26 ge_b24
    have KP := KP.wr W26 (Or.inr sz_b24)
    have hk1 := Nat.le_trans hk1 (Keep.of_wr W26).1
    have V_b24 := tmp26
    refine own_to (T' := T26) (mkF m 87 #[iv 3, iv x0, iv x1, iv x2, rv b24] [(.ref b24)]) (fun _ k => XS.aload X26.here hx rfl (hb hby own_d_method_2_85) rfl rfl k) ?_
    refine own_to (T' := T26) (mkF m 88 #[iv 3, iv x0, iv x1, iv x2, rv b24] [(.int (2 : Int32)), (.ref b24)]) (fun _ k => XS.iconst X26.here hx rfl (hb hby own_d_method_2_87) k) ?_
    refine own_to (T' := T26) (mkF m 89 #[iv 3, iv x0, iv x1, iv x2, rv b24] [(.int x2), (.int (2 : Int32)), (.ref b24)]) (fun _ k => XS.iloadN X26.here hx rfl (hb hby own_d_method_2_88) rfl k) ?_
    obtain ⟨cl27, Ar27, q27, S27, M27, H27, G27⟩ := id V_b24
    obtain ⟨T27, h27, X27, e27, W27, st27⟩ := stC X26 hx hZ e26 Ar27 (j := (2 : Int32)) (inb_of S27 ⟨by decide, by decide⟩) (g := (mkF m 89 #[iv 3, iv x0, iv x1, iv x2, rv b24] [(.int x2), (.int (2 : Int32)), (.ref b24)])) rfl rfl (hb hby own_d_method_2_89)
    refine own_to (mkF m 90 #[iv 3, iv x0, iv x1, iv x2, rv b24] []) st27 ?_
    have N27 := Fr.snoc X27 N26 ge_b24
    have tmp27 : Arv Z h27 b24 k24 .char (3 : Int32) [(.int x0), (.int x1), (.int (nar .char x2))] (.int (0 : Int32)) := Arv.set Ar27 q27 S27 M27 H27 G27 (fits_nar_char _) W27 2 rfl (Nat.le_of_ble_eq_true rfl)
    rw [own_nar8 c8_x2] at tmp27
    have SFa : Safe Z own_EL s.vm h26 b24 := (Safe.arv hZ.alike V_b24 (by decide))
    have CHR := CHR.trans (CHr.wr W27 SFa CH)
    have CH := CH.wr W27 SFa
    have OL := OL.wr W27 ge_b24
    have KP := KP.wr W27 (Or.inr sz_b24)
    have hk1 := Nat.le_trans hk1 (Keep.of_wr W27).1
    have V_b24 := tmp27
    obtain ⟨T28, h28, X28, e28, E28, A28, D28, -, st28⟩ := newO X27 hx hZ hown (hw _ (List.mem_of_getElem? (i := 4) rfl)) (hw _ (List.mem_of_getElem? (i := 5) rfl)) (hw _ (List.mem_of_getElem? (i := 6) rfl)) e27 (g := (mkF m 90 #[iv 3, iv x0, iv x1, iv x2, rv b24] [])) rfl (hb hby own_d_method_2_90) (by decide) (by decide)
    obtain ⟨b28, g28⟩ : ∃ z, z = h27.size := ⟨_, rfl⟩
    rw [← g28] at A28 D28 st28
    have sz_b28 : h0.size ≤ b28 := Nat.le_trans KP.1 (Nat.le_of_eq g28.symm)
    have ge_b28 : n0 ≤ b28 := Nat.le_trans Z0 sz_b28
    have ne_b24_b28 : b24 ≠ b28 := Nat.ne_of_lt (Nat.lt_of_lt_of_le V_b24.lt (Nat.le_of_eq g28.symm))
    have CHR := CHR.trans (CHr.ext E28 CH)
    have CH := CH.ext E28
    have OL := OL.ext E28
    have KP := KP.ext E28
    have hk1 := Nat.le_trans hk1 E28.1
    have V_b24 := V_b24.ext E28
    have E_b28 : Exa Z h28 b28 "java/lang/String" := A28
    have F_value_b28 : Fld Z h28 b28 "java/lang/String" "value" "[B" .null := D28 (Or.inr (hw _ (List.mem_of_getElem? (i := 20) rfl))) (ty := (.array .byte)) (by decide)
    have F_coder_b28 : Fld Z h28 b28 "java/lang/String" "coder" "B" (.int (0 : Int32)) := D28 (Or.inr (hw _ (List.mem_of_getElem? (i := 21) rfl))) (ty := .byte) (by decide)
    refine own_to (mkF m 93 #[iv 3, iv x0, iv x1, iv x2, rv b24] [(.ref b28)]) st28 ?_
    refine own_to (T' := T28) (mkF m 94 #[iv 3, iv x0, iv x1, iv x2, rv b24] [(.ref b28), (.ref b28)]) (fun _ k => XS.dup X28.here hx rfl (hb hby own_d_method_2_93) rfl rfl k) ?_
    refine own_to (T' := T28) (mkF m 96 #[iv 3, iv x0, iv x1, iv x2, rv b24] [(.ref b24), (.ref b28), (.ref b28)]) (fun _ k => XS.aload X28.here hx rfl (hb hby own_d_method_2_94) rfl rfl k) ?_
    have hp29 : ∀ c ∈ ([x0, x1, x2] : List Int32), ¬ c < 0 ∧ ¬ (255 : Int32) < c := (own_allS c8_x0 (own_allS c8_x1 (own_allS c8_x2 own_all0)))
    have KP0 := KP
    have lt0_b24 := V_b24.lt
    have lt0_b28 := E_b28.lt
    obtain ⟨_, _, ⟨T30, L30, k30, n30⟩, -, X30, ⟨Lc30, hQ30, l30, y30, z30⟩, st30⟩ := X28.specialBack hx (y := (⟨"java/lang/String", "<init>", "([C)V"⟩ : MethodName)) rfl hown (mvT hZ (hw _ (List.mem_of_getElem? (i := 8) rfl))) (mvT hZ (hw _ (List.mem_of_getElem? (i := 9) rfl))) (mvT hZ (hw _ (List.mem_of_getElem? (i := 10) rfl))) (by decide) (StrChars.Road.backV (W := 1) hZ hwsV (kI := 4) (hw _ (List.mem_of_getElem? (i := 5) rfl)) (cs := ([x0, x1, x2] : List Int32)) (bs := (([x0, x1, x2] : List Int32)).map (fun c => c.toInt8.toInt32)) (n := 3) ge_b28 (Nat.le_trans Z0 KP.1) E_b28 F_value_b28 F_coder_b28 V_b24 (O2.ext OL.2) P5 rfl rfl (by decide) (by decide) hp29 rfl (by decide) (by decide)) (g := (mkF m 96 #[iv 3, iv x0, iv x1, iv x2, rv b24] [(.ref b24), (.ref b28), (.ref b28)])) rfl (by rw [hml]; rfl) (Steps.refl _) (a := b28) (argsL := [(.ref b24)]) (rest := [(.ref b28)]) (lenOf own_pd1 rfl) rfl (by show 2 * 0 + _ ≤ _; exact Nat.le_of_eq rfl) (hb hby own_d_method_2_96) (fun _ _ => ⟨rfl, e28, (by decide : 2 + 1 ≤ _), (by decide : 7 + 3 ≤ _)⟩)
    dsimp only [Pt.U, Pt.locs, Pt.cells, Pt.slots] at X30 l30 y30 z30 st30 hQ30
    subst l30 y30 z30
    obtain ⟨rfl, N30q, K30, Ex30, Cx30, t_nm, kb_nm, ge_t_nm, sz0_t_nm, ne_t_nm_b28, Vx30, Kx30⟩ := hQ30
    have N30 := Fr.app N27 N30q
    have SFk : ∀ x ∈ [b28], Safe Z own_EL s.vm h28 x := (sfS (own_safeN hZ.alike E_b28 F_value_b28) sf0)
    have CHR := CHR.trans (CHr.keep K30 SFk CH)
    have CH := CH.keep K30 SFk
    have OL := OL.keep K30 (allS ge_b28 all0)
    have KP := KP.trans K30 (allS (Or.inr sz_b28) all0)
    have hk1 := Nat.le_trans hk1 K30.1
    have V_b24 := V_b24.keep K30 (ninS ne_b24_b28 nin0)
    have E_b28 := E_b28.keep K30
    refine own_via (mkF m 99 #[iv 3, iv x0, iv x1, iv x2, rv b24] [(.ref b28)]) st30 ?_
    have sz_t_nm : h0.size ≤ t_nm := Nat.le_trans KP0.1 sz0_t_nm
    have ne_b24_t_nm : b24 ≠ t_nm := Nat.ne_of_lt (Nat.lt_of_lt_of_le lt0_b24 sz0_t_nm)
    have S_nm : own_Str Z T30.heap b28 t_nm kb_nm ([x0, x1, x2] : List Int32) := ⟨Ex30, Vx30, Cx30, Kx30, hp29, Nat.le_of_ble_eq_true rfl⟩
    exact own_retAH (s := s) (vm₁ := s.vm) X30 hS (by exact hk1) hZ hEW (by exact CH) (by rw [hh]; exact CHR) hx Bd.returns rfl hlk (hb hby own_d_method_2_99) rfl (by decide) (by decide) (by exact ⟨b28, t_nm, kb_nm, rfl, N30, KP, ge_b28, sz_b28, by simpa [own_cs] using S_nm⟩)
def own_QKO (Z : State) (idx : Int32) (aI aS aN aY aE : Addr) (h0 : Heap) (n0 : Nat) (v : Option Value) (h : Heap) (L : List Loc) : Prop := ∃ ak : Addr, v = some (.ref ak) ∧ ak = own_kd idx aI aS aN aY aE ∧ Fr n0 L ∧ h = h0
set_option maxRecDepth 65536 in
set_option maxHeartbeats 40000000 in
theorem own_rmKO (l : Launch) (Z : State) (a0 : Array Value) (hw : ∀ d ∈ tables_1, d.before a0 Z = true) (ws : List Jvm.Cond) (idx : Int32) (aI aS aN aY aE : Addr) (h0 : Heap) (n0 : Nat) (Z0 : n0 ≤ h0.size) (OL : Old Z n0 h0) (SaI : Sta Z Z.heap "com/example/ianus/ianus/Token$Kind" "IDENTIFIER" "Lcom/example/ianus/ianus/Token$Kind;" (.ref aI)) (SaS : Sta Z Z.heap "com/example/ianus/ianus/Token$Kind" "STRING" "Lcom/example/ianus/ianus/Token$Kind;" (.ref aS)) (SaN : Sta Z Z.heap "com/example/ianus/ianus/Token$Kind" "NUMBER" "Lcom/example/ianus/ianus/Token$Kind;" (.ref aN)) (SaY : Sta Z Z.heap "com/example/ianus/ianus/Token$Kind" "SYMBOL" "Lcom/example/ianus/ianus/Token$Kind;" (.ref aY)) (SaE : Sta Z Z.heap "com/example/ianus/ianus/Token$Kind" "END" "Lcom/example/ianus/ianus/Token$Kind;" (.ref aE)) :
    MetFree l (⟨"com/example/ianus/ianus/TokenIsPinLaw", "kindOf", "(I)Lcom/example/ianus/ianus/Token$Kind;"⟩ : MethodName) (head1 (Jvm.Cond.code (⟨"com/example/ianus/ianus/TokenIsPinLaw", "kindOf", "(I)Lcom/example/ianus/ianus/Token$Kind;"⟩ : MethodName) method_3_code 1 (some (.object "com/example/ianus/ianus/Token$Kind")) :: ws) ({ frames := 0, cells := 0, slots := 0, locals := 0 } : Room)) (fun aa_ U => aa_ = #[(.int idx)] ∧ Z.Warmed39 U.vm ∧ U.heap = h0) (fun _ _ _ _ _ => True) (fun _ U o U' => ∃ v L, o = .returned v ∧ own_QKO Z idx aI aS aN aY aE h0 n0 v U'.heap L ∧ FrameEnd U o U' L ({ frames := 0, cells := 0, slots := 0, locals := 0 } : Room).cells ({ frames := 0, cells := 0, slots := 0, locals := 0 } : Room).slots) := by
  refine MetFree.of_bodySF (plainFor_of_name own_pn1) hisR ?_
  intro p e s m args below meth c s₁ Bd hml0 hP hK
  obtain ⟨rfl, hZ, hh⟩ := hP
  have hx := Bd.exec
  have hby := Bd.bytes
  have hlk : meth.locks = false := BodyLoose.notSynchronized Bd
  have hml : c.maxLocals = 1 := hml0
  have hown : s.vm.findClass "com/example/ianus/ianus/TokenIsPinLaw" = some m.cls := findClass_of_methodNamed Bd.named
  have hnm := (name_of_methodNamed Bd.named Bd.method).1
  have X0 : Stand p l e ({ frames := 0, cells := 0, slots := 0, locals := 0 } : Room) s m #[(.int idx)] below meth c s₁ [] 0 0 := Stand.of_body Bd
  have e0 : s₁.heap = h0 := by rw [← hh, Bd.state]; rfl
  have N0 := Fr.nil n0
  have KP : Keep h0 h0 [] := Keep.refl _ _
  refine own_start (Fin := (own_Fin s (own_QKO Z idx aI aS aN aY aE h0 n0) ({ frames := 0, cells := 0, slots := 0, locals := 0 } : Room).cells ({ frames := 0, cells := 0, slots := 0, locals := 0 } : Room).slots)) (own_from (mkF m 0 #[iv idx] []) (castTop (own_ef_KO m idx)) ?_)
  refine own_to (T' := s₁) (mkF m 1 #[iv idx] [(.int idx)]) (fun _ k => XS.iloadN X0.here hx rfl (hb hby own_d_method_3_0) rfl k) ?_
  by_cases hi0 : idx = (0 : Int32)
  · refine own_to (T' := s₁) (mkF m 4 #[iv idx] []) (fun _ k => XS.ifNo X0.here hx rfl (hb hby own_d_method_3_1) rfl ((if0 _ _).trans (teq hi0).2) k) ?_
    obtain ⟨T31, X31, e31, st31⟩ := getS2 X0 hx hZ hown (host := "") (Or.inl (hw _ (List.mem_of_getElem? (i := 32) rfl))) Via.refl e0 (SaI.ext OL.2) (g := (mkF m 4 #[iv idx] [])) rfl (hb hby own_d_method_3_4)
    refine own_to (mkF m 7 #[iv idx] [(.ref aI)]) st31 ?_
    exact own_retA X31 hx Bd.returns rfl hlk (hb hby own_d_method_3_7) rfl (by decide) (by decide) (by rw [e31]; exact ⟨_, rfl, by simp [own_kd, hi0], N0, rfl⟩)
  · refine own_to (T' := s₁) (mkF m 8 #[iv idx] []) (fun _ k => XS.ifYes X0.here hx rfl (pc0 := 1) (pc' := 8) rfl (hb hby own_d_method_3_1) rfl ((if0 _ _).trans (feq hi0).2) (by decide) (by decide) k) ?_
    refine own_to (T' := s₁) (mkF m 9 #[iv idx] [(.int idx)]) (fun _ k => XS.iloadN X0.here hx rfl (hb hby own_d_method_3_8) rfl k) ?_
    refine own_to (T' := s₁) (mkF m 10 #[iv idx] [(.int (1 : Int32)), (.int idx)]) (fun _ k => XS.iconst X0.here hx rfl (hb hby own_d_method_3_9) k) ?_
    by_cases hi1 : idx = (1 : Int32)
    · refine own_to (T' := s₁) (mkF m 13 #[iv idx] []) (fun _ k => XS.icmpNo X0.here hx rfl (hb hby own_d_method_3_10) rfl (teq hi1).2 k) ?_
      obtain ⟨T32, X32, e32, st32⟩ := getS2 X0 hx hZ hown (host := "") (Or.inl (hw _ (List.mem_of_getElem? (i := 83) rfl))) Via.refl e0 (SaS.ext OL.2) (g := (mkF m 13 #[iv idx] [])) rfl (hb hby own_d_method_3_13)
      refine own_to (mkF m 16 #[iv idx] [(.ref aS)]) st32 ?_
      exact own_retA X32 hx Bd.returns rfl hlk (hb hby own_d_method_3_16) rfl (by decide) (by decide) (by rw [e32]; exact ⟨_, rfl, by simp [own_kd, hi1], N0, rfl⟩)
    · refine own_to (T' := s₁) (mkF m 17 #[iv idx] []) (fun _ k => XS.icmpYes X0.here hx rfl (pc0 := 10) (pc' := 17) rfl (hb hby own_d_method_3_10) rfl (feq hi1).2 (by decide) (by decide) k) ?_
      refine own_to (T' := s₁) (mkF m 18 #[iv idx] [(.int idx)]) (fun _ k => XS.iloadN X0.here hx rfl (hb hby own_d_method_3_17) rfl k) ?_
      refine own_to (T' := s₁) (mkF m 19 #[iv idx] [(.int (2 : Int32)), (.int idx)]) (fun _ k => XS.iconst X0.here hx rfl (hb hby own_d_method_3_18) k) ?_
      by_cases hi2 : idx = (2 : Int32)
      · refine own_to (T' := s₁) (mkF m 22 #[iv idx] []) (fun _ k => XS.icmpNo X0.here hx rfl (hb hby own_d_method_3_19) rfl (teq hi2).2 k) ?_
        obtain ⟨T33, X33, e33, st33⟩ := getS2 X0 hx hZ hown (host := "") (Or.inl (hw _ (List.mem_of_getElem? (i := 81) rfl))) Via.refl e0 (SaN.ext OL.2) (g := (mkF m 22 #[iv idx] [])) rfl (hb hby own_d_method_3_22)
        refine own_to (mkF m 25 #[iv idx] [(.ref aN)]) st33 ?_
        exact own_retA X33 hx Bd.returns rfl hlk (hb hby own_d_method_3_25) rfl (by decide) (by decide) (by rw [e33]; exact ⟨_, rfl, by simp [own_kd, hi2], N0, rfl⟩)
      · refine own_to (T' := s₁) (mkF m 26 #[iv idx] []) (fun _ k => XS.icmpYes X0.here hx rfl (pc0 := 19) (pc' := 26) rfl (hb hby own_d_method_3_19) rfl (feq hi2).2 (by decide) (by decide) k) ?_
        refine own_to (T' := s₁) (mkF m 27 #[iv idx] [(.int idx)]) (fun _ k => XS.iloadN X0.here hx rfl (hb hby own_d_method_3_26) rfl k) ?_
        refine own_to (T' := s₁) (mkF m 28 #[iv idx] [(.int (3 : Int32)), (.int idx)]) (fun _ k => XS.iconst X0.here hx rfl (hb hby own_d_method_3_27) k) ?_
        by_cases hi3 : idx = (3 : Int32)
        · refine own_to (T' := s₁) (mkF m 31 #[iv idx] []) (fun _ k => XS.icmpNo X0.here hx rfl (hb hby own_d_method_3_28) rfl (teq hi3).2 k) ?_
          obtain ⟨T34, X34, e34, st34⟩ := getS2 X0 hx hZ hown (host := "") (Or.inl (hw _ (List.mem_of_getElem? (i := 64) rfl))) Via.refl e0 (SaY.ext OL.2) (g := (mkF m 31 #[iv idx] [])) rfl (hb hby own_d_method_3_31)
          refine own_to (mkF m 34 #[iv idx] [(.ref aY)]) st34 ?_
          exact own_retA X34 hx Bd.returns rfl hlk (hb hby own_d_method_3_34) rfl (by decide) (by decide) (by rw [e34]; exact ⟨_, rfl, by simp [own_kd, hi3], N0, rfl⟩)
        · refine own_to (T' := s₁) (mkF m 35 #[iv idx] []) (fun _ k => XS.icmpYes X0.here hx rfl (pc0 := 28) (pc' := 35) rfl (hb hby own_d_method_3_28) rfl (feq hi3).2 (by decide) (by decide) k) ?_
          obtain ⟨T35, X35, e35, st35⟩ := getS2 X0 hx hZ hown (host := "") (Or.inl (hw _ (List.mem_of_getElem? (i := 62) rfl))) Via.refl e0 (SaE.ext OL.2) (g := (mkF m 35 #[iv idx] [])) rfl (hb hby own_d_method_3_35)
          refine own_to (mkF m 38 #[iv idx] [(.ref aE)]) st35 ?_
          exact own_retA X35 hx Bd.returns rfl hlk (hb hby own_d_method_3_38) rfl (by decide) (by decide) (by rw [e35]; exact ⟨_, rfl, by simp [own_kd, hi0, hi1, hi2, hi3], N0, rfl⟩)
def own_QCT (Z : State) (tk ak tx vx : Addr) (ln cl : Int32) (h0 : Heap) (n0 : Nat) (v : Option Value) (h : Heap) (L : List Loc) : Prop := v = none ∧ Fr n0 L ∧ Keep h0 h [tk] ∧ Exa Z h tk "com/example/ianus/ianus/Token" ∧ Fld Z h tk "com/example/ianus/ianus/Token" "kind" "Lcom/example/ianus/ianus/Token$Kind;" (.ref ak) ∧ Fld Z h tk "com/example/ianus/ianus/Token" "text" "Ljava/lang/String;" (.ref tx) ∧ Fld Z h tk "com/example/ianus/ianus/Token" "line" "I" (.int ln) ∧ Fld Z h tk "com/example/ianus/ianus/Token" "column" "I" (.int cl)
set_option maxRecDepth 65536 in
set_option maxHeartbeats 40000000 in
theorem own_rmCT (l : Launch) (Z : State) (a0 : Array Value) (hw : ∀ d ∈ tables_1, d.before a0 Z = true) (ws : List Jvm.Cond) (tk ak tx vx : Addr) (ln cl : Int32) (h0 : Heap) (n0 : Nat) (Z0 : n0 ≤ h0.size) (OL : Old Z n0 h0) (ge_tk : n0 ≤ tk) (E_tk : Exa Z h0 tk "com/example/ianus/ianus/Token") (F_kind_tk : Fld Z h0 tk "com/example/ianus/ianus/Token" "kind" "Lcom/example/ianus/ianus/Token$Kind;" .null) (F_text_tk : Fld Z h0 tk "com/example/ianus/ianus/Token" "text" "Ljava/lang/String;" .null) (F_value_tk : Fld Z h0 tk "com/example/ianus/ianus/Token" "value" "Ljava/lang/String;" .null) (F_line_tk : Fld Z h0 tk "com/example/ianus/ianus/Token" "line" "I" (.int (0 : Int32))) (F_column_tk : Fld Z h0 tk "com/example/ianus/ianus/Token" "column" "I" (.int (0 : Int32))) :
    MetFree l (⟨"com/example/ianus/ianus/Token", "<init>", "(Lcom/example/ianus/ianus/Token$Kind;Ljava/lang/String;Ljava/lang/String;II)V"⟩ : MethodName) (head1 (Jvm.Cond.code (⟨"com/example/ianus/ianus/Token", "<init>", "(Lcom/example/ianus/ianus/Token$Kind;Ljava/lang/String;Ljava/lang/String;II)V"⟩ : MethodName) prog_18_method_1_code 6 none :: ws) ({ frames := 1, cells := 0, slots := 0, locals := 12 } : Room)) (fun aa_ U => aa_ = #[(.ref tk), (.ref ak), (.ref tx), (.ref vx), (.int ln), (.int cl)] ∧ Z.Warmed39 U.vm ∧ U.heap = h0) (fun _ _ _ _ _ => True) (fun _ U o U' => ∃ v L, o = .returned v ∧ own_QCT Z tk ak tx vx ln cl h0 n0 v U'.heap L ∧ FrameEnd U o U' L ({ frames := 1, cells := 0, slots := 0, locals := 12 } : Room).cells ({ frames := 1, cells := 0, slots := 0, locals := 12 } : Room).slots) := by
  refine MetFree.of_bodySF (plainFor_of_name own_pn2) hisR ?_
  intro p e s m args below meth c s₁ Bd hml0 hP hK
  obtain ⟨rfl, hZ, hh⟩ := hP
  have hx := Bd.exec
  have hby := Bd.bytes
  have hlk : meth.locks = false := BodyLoose.notSynchronized Bd
  have hml : c.maxLocals = 6 := hml0
  have hown : s.vm.findClass "com/example/ianus/ianus/Token" = some m.cls := findClass_of_methodNamed Bd.named
  have hnm := (name_of_methodNamed Bd.named Bd.method).1
  have X0 : Stand p l e ({ frames := 1, cells := 0, slots := 0, locals := 12 } : Room) s m #[(.ref tk), (.ref ak), (.ref tx), (.ref vx), (.int ln), (.int cl)] below meth c s₁ [] 0 0 := Stand.of_body Bd
  have e0 : s₁.heap = h0 := by rw [← hh, Bd.state]; rfl
  have N0 := Fr.nil n0
  have KP : Keep h0 h0 [tk] := Keep.refl _ _
  refine own_start (Fin := (own_Fin s (own_QCT Z tk ak tx vx ln cl h0 n0) ({ frames := 1, cells := 0, slots := 0, locals := 12 } : Room).cells ({ frames := 1, cells := 0, slots := 0, locals := 12 } : Room).slots)) (own_from (mkF m 0 #[rv tk, rv ak, rv tx, rv vx, iv ln, iv cl] []) (castTop (own_ef_CT m tk ak tx vx ln cl)) ?_)
  refine own_to (T' := s₁) (mkF m 1 #[rv tk, rv ak, rv tx, rv vx, iv ln, iv cl] [(.ref tk)]) (fun _ k => XS.aloadN X0.here hx rfl (hb hby own_d_prog_18_method_1_0) rfl rfl k) ?_
  obtain ⟨T36, X36, e36, st36⟩ := initO X0 hx hZ hown (hw _ (List.mem_of_getElem? (i := 38) rfl)) (hw _ (List.mem_of_getElem? (i := 16) rfl)) (hw _ (List.mem_of_getElem? (i := 17) rfl)) e0 (g := (mkF m 1 #[rv tk, rv ak, rv tx, rv vx, iv ln, iv cl] [(.ref tk)])) rfl (by rw [hml]; rfl) rfl (hb hby own_d_prog_18_method_1_1) (by decide) (W := 0) (by show 2 * 0 + _ ≤ _; exact Nat.le_of_eq rfl) (by decide)
  refine own_to (mkF m 4 #[rv tk, rv ak, rv tx, rv vx, iv ln, iv cl] []) st36 ?_
  refine own_to (T' := T36) (mkF m 5 #[rv tk, rv ak, rv tx, rv vx, iv ln, iv cl] [(.ref tk)]) (fun _ k => XS.aloadN X36.here hx rfl (hb hby own_d_prog_18_method_1_4) rfl rfl k) ?_
  refine own_to (T' := T36) (mkF m 6 #[rv tk, rv ak, rv tx, rv vx, iv ln, iv cl] [(.ref ak), (.ref tk)]) (fun _ k => XS.aloadN X36.here hx rfl (hb hby own_d_prog_18_method_1_5) rfl rfl k) ?_
  obtain ⟨T37, h37, X37, e37, W37, st37⟩ := putF X36 hx hZ hown (host := "") (Or.inl (hw _ (List.mem_of_getElem? (i := 39) rfl))) Via.refl e36 F_kind_tk E_tk (Or.inr ⟨(hw _ (List.mem_of_getElem? (i := 40) rfl)), rfl, hnm⟩) (hw _ (List.mem_of_getElem? (i := 27) rfl)) (ty := (.object "com/example/ianus/ianus/Token$Kind")) (by decide) rfl rfl (g := (mkF m 6 #[rv tk, rv ak, rv tx, rv vx, iv ln, iv cl] [(.ref ak), (.ref tk)])) rfl rfl (hb hby own_d_prog_18_method_1_6)
  refine own_to (mkF m 9 #[rv tk, rv ak, rv tx, rv vx, iv ln, iv cl] []) st37 ?_
  have N37 := Fr.snoc X37 N0 ge_tk
  have tmp37 : Fld Z h37 tk "com/example/ianus/ianus/Token" "kind" "Lcom/example/ianus/ianus/Token$Kind;" (.ref ak) := F_kind_tk.same W37
  have OL := OL.wr W37 ge_tk
  have KP := KP.wr W37 (Or.inl (List.mem_of_getElem? (i := 0) rfl))
  have E_tk := E_tk.wr W37
  have F_text_tk := F_text_tk.other W37 (Or.inr (slot_ne (Or.inr (hw _ (List.mem_of_getElem? (i := 42) rfl))) (Or.inr (hw _ (List.mem_of_getElem? (i := 40) rfl))) (by decide) (t := (.object "java/lang/String")) (t' := (.object "com/example/ianus/ianus/Token$Kind")) (by decide) (by decide)))
  have F_value_tk := F_value_tk.other W37 (Or.inr (slot_ne (Or.inr (hw _ (List.mem_of_getElem? (i := 44) rfl))) (Or.inr (hw _ (List.mem_of_getElem? (i := 40) rfl))) (by decide) (t := (.object "java/lang/String")) (t' := (.object "com/example/ianus/ianus/Token$Kind")) (by decide) (by decide)))
  have F_line_tk := F_line_tk.other W37 (Or.inr (slot_ne (Or.inr (hw _ (List.mem_of_getElem? (i := 46) rfl))) (Or.inr (hw _ (List.mem_of_getElem? (i := 40) rfl))) (by decide) (t := .int) (t' := (.object "com/example/ianus/ianus/Token$Kind")) (by decide) (by decide)))
  have F_column_tk := F_column_tk.other W37 (Or.inr (slot_ne (Or.inr (hw _ (List.mem_of_getElem? (i := 48) rfl))) (Or.inr (hw _ (List.mem_of_getElem? (i := 40) rfl))) (by decide) (t := .int) (t' := (.object "com/example/ianus/ianus/Token$Kind")) (by decide) (by decide)))
  have F_kind_tk := tmp37
  refine own_to (T' := T37) (mkF m 10 #[rv tk, rv ak, rv tx, rv vx, iv ln, iv cl] [(.ref tk)]) (fun _ k => XS.aloadN X37.here hx rfl (hb hby own_d_prog_18_method_1_9) rfl rfl k) ?_
  refine own_to (T' := T37) (mkF m 11 #[rv tk, rv ak, rv tx, rv vx, iv ln, iv cl] [(.ref tx), (.ref tk)]) (fun _ k => XS.aloadN X37.here hx rfl (hb hby own_d_prog_18_method_1_10) rfl rfl k) ?_
  obtain ⟨T38, h38, X38, e38, W38, st38⟩ := putF X37 hx hZ hown (host := "") (Or.inl (hw _ (List.mem_of_getElem? (i := 41) rfl))) Via.refl e37 F_text_tk E_tk (Or.inr ⟨(hw _ (List.mem_of_getElem? (i := 42) rfl)), rfl, hnm⟩) (hw _ (List.mem_of_getElem? (i := 27) rfl)) (ty := (.object "java/lang/String")) (by decide) rfl rfl (g := (mkF m 11 #[rv tk, rv ak, rv tx, rv vx, iv ln, iv cl] [(.ref tx), (.ref tk)])) rfl rfl (hb hby own_d_prog_18_method_1_11)
  refine own_to (mkF m 14 #[rv tk, rv ak, rv tx, rv vx, iv ln, iv cl] []) st38 ?_
  have N38 := Fr.snoc X38 N37 ge_tk
  have tmp38 : Fld Z h38 tk "com/example/ianus/ianus/Token" "text" "Ljava/lang/String;" (.ref tx) := F_text_tk.same W38
  have OL := OL.wr W38 ge_tk
  have KP := KP.wr W38 (Or.inl (List.mem_of_getElem? (i := 0) rfl))
  have E_tk := E_tk.wr W38
  have F_kind_tk := F_kind_tk.other W38 (Or.inr (slot_ne (Or.inr (hw _ (List.mem_of_getElem? (i := 40) rfl))) (Or.inr (hw _ (List.mem_of_getElem? (i := 42) rfl))) (by decide) (t := (.object "com/example/ianus/ianus/Token$Kind")) (t' := (.object "java/lang/String")) (by decide) (by decide)))
  have F_value_tk := F_value_tk.other W38 (Or.inr (slot_ne (Or.inr (hw _ (List.mem_of_getElem? (i := 44) rfl))) (Or.inr (hw _ (List.mem_of_getElem? (i := 42) rfl))) (by decide) (t := (.object "java/lang/String")) (t' := (.object "java/lang/String")) (by decide) (by decide)))
  have F_line_tk := F_line_tk.other W38 (Or.inr (slot_ne (Or.inr (hw _ (List.mem_of_getElem? (i := 46) rfl))) (Or.inr (hw _ (List.mem_of_getElem? (i := 42) rfl))) (by decide) (t := .int) (t' := (.object "java/lang/String")) (by decide) (by decide)))
  have F_column_tk := F_column_tk.other W38 (Or.inr (slot_ne (Or.inr (hw _ (List.mem_of_getElem? (i := 48) rfl))) (Or.inr (hw _ (List.mem_of_getElem? (i := 42) rfl))) (by decide) (t := .int) (t' := (.object "java/lang/String")) (by decide) (by decide)))
  have F_text_tk := tmp38
  refine own_to (T' := T38) (mkF m 15 #[rv tk, rv ak, rv tx, rv vx, iv ln, iv cl] [(.ref tk)]) (fun _ k => XS.aloadN X38.here hx rfl (hb hby own_d_prog_18_method_1_14) rfl rfl k) ?_
  refine own_to (T' := T38) (mkF m 16 #[rv tk, rv ak, rv tx, rv vx, iv ln, iv cl] [(.ref vx), (.ref tk)]) (fun _ k => XS.aloadN X38.here hx rfl (hb hby own_d_prog_18_method_1_15) rfl rfl k) ?_
  obtain ⟨T39, h39, X39, e39, W39, st39⟩ := putF X38 hx hZ hown (host := "") (Or.inl (hw _ (List.mem_of_getElem? (i := 43) rfl))) Via.refl e38 F_value_tk E_tk (Or.inr ⟨(hw _ (List.mem_of_getElem? (i := 44) rfl)), rfl, hnm⟩) (hw _ (List.mem_of_getElem? (i := 27) rfl)) (ty := (.object "java/lang/String")) (by decide) rfl rfl (g := (mkF m 16 #[rv tk, rv ak, rv tx, rv vx, iv ln, iv cl] [(.ref vx), (.ref tk)])) rfl rfl (hb hby own_d_prog_18_method_1_16)
  refine own_to (mkF m 19 #[rv tk, rv ak, rv tx, rv vx, iv ln, iv cl] []) st39 ?_
  have N39 := Fr.snoc X39 N38 ge_tk
  have tmp39 : Fld Z h39 tk "com/example/ianus/ianus/Token" "value" "Ljava/lang/String;" (.ref vx) := F_value_tk.same W39
  have OL := OL.wr W39 ge_tk
  have KP := KP.wr W39 (Or.inl (List.mem_of_getElem? (i := 0) rfl))
  have E_tk := E_tk.wr W39
  have F_kind_tk := F_kind_tk.other W39 (Or.inr (slot_ne (Or.inr (hw _ (List.mem_of_getElem? (i := 40) rfl))) (Or.inr (hw _ (List.mem_of_getElem? (i := 44) rfl))) (by decide) (t := (.object "com/example/ianus/ianus/Token$Kind")) (t' := (.object "java/lang/String")) (by decide) (by decide)))
  have F_text_tk := F_text_tk.other W39 (Or.inr (slot_ne (Or.inr (hw _ (List.mem_of_getElem? (i := 42) rfl))) (Or.inr (hw _ (List.mem_of_getElem? (i := 44) rfl))) (by decide) (t := (.object "java/lang/String")) (t' := (.object "java/lang/String")) (by decide) (by decide)))
  have F_line_tk := F_line_tk.other W39 (Or.inr (slot_ne (Or.inr (hw _ (List.mem_of_getElem? (i := 46) rfl))) (Or.inr (hw _ (List.mem_of_getElem? (i := 44) rfl))) (by decide) (t := .int) (t' := (.object "java/lang/String")) (by decide) (by decide)))
  have F_column_tk := F_column_tk.other W39 (Or.inr (slot_ne (Or.inr (hw _ (List.mem_of_getElem? (i := 48) rfl))) (Or.inr (hw _ (List.mem_of_getElem? (i := 44) rfl))) (by decide) (t := .int) (t' := (.object "java/lang/String")) (by decide) (by decide)))
  have F_value_tk := tmp39
  refine own_to (T' := T39) (mkF m 20 #[rv tk, rv ak, rv tx, rv vx, iv ln, iv cl] [(.ref tk)]) (fun _ k => XS.aloadN X39.here hx rfl (hb hby own_d_prog_18_method_1_19) rfl rfl k) ?_
  refine own_to (T' := T39) (mkF m 22 #[rv tk, rv ak, rv tx, rv vx, iv ln, iv cl] [(.int ln), (.ref tk)]) (fun _ k => XS.iload X39.here hx rfl (hb hby own_d_prog_18_method_1_20) rfl k) ?_
  obtain ⟨T40, h40, X40, e40, W40, st40⟩ := putF X39 hx hZ hown (host := "") (Or.inl (hw _ (List.mem_of_getElem? (i := 45) rfl))) Via.refl e39 F_line_tk E_tk (Or.inr ⟨(hw _ (List.mem_of_getElem? (i := 46) rfl)), rfl, hnm⟩) (hw _ (List.mem_of_getElem? (i := 27) rfl)) (ty := .int) (by decide) rfl rfl (g := (mkF m 22 #[rv tk, rv ak, rv tx, rv vx, iv ln, iv cl] [(.int ln), (.ref tk)])) rfl rfl (hb hby own_d_prog_18_method_1_22)
  refine own_to (mkF m 25 #[rv tk, rv ak, rv tx, rv vx, iv ln, iv cl] []) st40 ?_
  have N40 := Fr.snoc X40 N39 ge_tk
  have tmp40 : Fld Z h40 tk "com/example/ianus/ianus/Token" "line" "I" (.int ln) := F_line_tk.same W40
  have OL := OL.wr W40 ge_tk
  have KP := KP.wr W40 (Or.inl (List.mem_of_getElem? (i := 0) rfl))
  have E_tk := E_tk.wr W40
  have F_kind_tk := F_kind_tk.other W40 (Or.inr (slot_ne (Or.inr (hw _ (List.mem_of_getElem? (i := 40) rfl))) (Or.inr (hw _ (List.mem_of_getElem? (i := 46) rfl))) (by decide) (t := (.object "com/example/ianus/ianus/Token$Kind")) (t' := .int) (by decide) (by decide)))
  have F_text_tk := F_text_tk.other W40 (Or.inr (slot_ne (Or.inr (hw _ (List.mem_of_getElem? (i := 42) rfl))) (Or.inr (hw _ (List.mem_of_getElem? (i := 46) rfl))) (by decide) (t := (.object "java/lang/String")) (t' := .int) (by decide) (by decide)))
  have F_value_tk := F_value_tk.other W40 (Or.inr (slot_ne (Or.inr (hw _ (List.mem_of_getElem? (i := 44) rfl))) (Or.inr (hw _ (List.mem_of_getElem? (i := 46) rfl))) (by decide) (t := (.object "java/lang/String")) (t' := .int) (by decide) (by decide)))
  have F_column_tk := F_column_tk.other W40 (Or.inr (slot_ne (Or.inr (hw _ (List.mem_of_getElem? (i := 48) rfl))) (Or.inr (hw _ (List.mem_of_getElem? (i := 46) rfl))) (by decide) (t := .int) (t' := .int) (by decide) (by decide)))
  have F_line_tk := tmp40
  refine own_to (T' := T40) (mkF m 26 #[rv tk, rv ak, rv tx, rv vx, iv ln, iv cl] [(.ref tk)]) (fun _ k => XS.aloadN X40.here hx rfl (hb hby own_d_prog_18_method_1_25) rfl rfl k) ?_
  refine own_to (T' := T40) (mkF m 28 #[rv tk, rv ak, rv tx, rv vx, iv ln, iv cl] [(.int cl), (.ref tk)]) (fun _ k => XS.iload X40.here hx rfl (hb hby own_d_prog_18_method_1_26) rfl k) ?_
  obtain ⟨T41, h41, X41, e41, W41, st41⟩ := putF X40 hx hZ hown (host := "") (Or.inl (hw _ (List.mem_of_getElem? (i := 47) rfl))) Via.refl e40 F_column_tk E_tk (Or.inr ⟨(hw _ (List.mem_of_getElem? (i := 48) rfl)), rfl, hnm⟩) (hw _ (List.mem_of_getElem? (i := 27) rfl)) (ty := .int) (by decide) rfl rfl (g := (mkF m 28 #[rv tk, rv ak, rv tx, rv vx, iv ln, iv cl] [(.int cl), (.ref tk)])) rfl rfl (hb hby own_d_prog_18_method_1_28)
  refine own_to (mkF m 31 #[rv tk, rv ak, rv tx, rv vx, iv ln, iv cl] []) st41 ?_
  have N41 := Fr.snoc X41 N40 ge_tk
  have tmp41 : Fld Z h41 tk "com/example/ianus/ianus/Token" "column" "I" (.int cl) := F_column_tk.same W41
  have OL := OL.wr W41 ge_tk
  have KP := KP.wr W41 (Or.inl (List.mem_of_getElem? (i := 0) rfl))
  have E_tk := E_tk.wr W41
  have F_kind_tk := F_kind_tk.other W41 (Or.inr (slot_ne (Or.inr (hw _ (List.mem_of_getElem? (i := 40) rfl))) (Or.inr (hw _ (List.mem_of_getElem? (i := 48) rfl))) (by decide) (t := (.object "com/example/ianus/ianus/Token$Kind")) (t' := .int) (by decide) (by decide)))
  have F_text_tk := F_text_tk.other W41 (Or.inr (slot_ne (Or.inr (hw _ (List.mem_of_getElem? (i := 42) rfl))) (Or.inr (hw _ (List.mem_of_getElem? (i := 48) rfl))) (by decide) (t := (.object "java/lang/String")) (t' := .int) (by decide) (by decide)))
  have F_value_tk := F_value_tk.other W41 (Or.inr (slot_ne (Or.inr (hw _ (List.mem_of_getElem? (i := 44) rfl))) (Or.inr (hw _ (List.mem_of_getElem? (i := 48) rfl))) (by decide) (t := (.object "java/lang/String")) (t' := .int) (by decide) (by decide)))
  have F_line_tk := F_line_tk.other W41 (Or.inr (slot_ne (Or.inr (hw _ (List.mem_of_getElem? (i := 46) rfl))) (Or.inr (hw _ (List.mem_of_getElem? (i := 48) rfl))) (by decide) (t := .int) (t' := .int) (by decide) (by decide)))
  have F_column_tk := tmp41
  exact own_ret0 X41 hx Bd.returns hlk (hb hby own_d_prog_18_method_1_31) (by decide) (by decide) (by rw [e41]; exact ⟨rfl, N41, KP, E_tk, F_kind_tk, F_text_tk, F_line_tk, F_column_tk⟩)
def own_QISN (Z : State) (tk ak tx : Addr) (aI aS aN aY aE : Addr) (h0 : Heap) (n0 : Nat) (v : Option Value) (h : Heap) (L : List Loc) : Prop := v = some (.int 0) ∧ Fr n0 L ∧ h = h0
set_option maxRecDepth 65536 in
set_option maxHeartbeats 40000000 in
theorem own_rmISN (l : Launch) (Z : State) (a0 : Array Value) (hw : ∀ d ∈ tables_1, d.before a0 Z = true) (ws : List Jvm.Cond) (tk ak tx : Addr) (aI aS aN aY aE : Addr) (h0 : Heap) (n0 : Nat) (Z0 : n0 ≤ h0.size) (OL : Old Z n0 h0) (Fk : Fld Z h0 tk "com/example/ianus/ianus/Token" "kind" "Lcom/example/ianus/ianus/Token$Kind;" (.ref ak)) (Ft : Fld Z h0 tk "com/example/ianus/ianus/Token" "text" "Ljava/lang/String;" (.ref tx)) (Et : Exa Z h0 tx "java/lang/String") (SaI : Sta Z Z.heap "com/example/ianus/ianus/Token$Kind" "IDENTIFIER" "Lcom/example/ianus/ianus/Token$Kind;" (.ref aI)) (SaS : Sta Z Z.heap "com/example/ianus/ianus/Token$Kind" "STRING" "Lcom/example/ianus/ianus/Token$Kind;" (.ref aS)) (SaN : Sta Z Z.heap "com/example/ianus/ianus/Token$Kind" "NUMBER" "Lcom/example/ianus/ianus/Token$Kind;" (.ref aN)) (SaY : Sta Z Z.heap "com/example/ianus/ianus/Token$Kind" "SYMBOL" "Lcom/example/ianus/ianus/Token$Kind;" (.ref aY)) (SaE : Sta Z Z.heap "com/example/ianus/ianus/Token$Kind" "END" "Lcom/example/ianus/ianus/Token$Kind;" (.ref aE)) :
    MetFree l (⟨"com/example/ianus/ianus/Token", "is", "(Ljava/lang/String;)Z"⟩ : MethodName) (head1 (Jvm.Cond.code (⟨"com/example/ianus/ianus/Token", "is", "(Ljava/lang/String;)Z"⟩ : MethodName) prog_18_method_7_code 2 (some .boolean) :: ws) ({ frames := 1, cells := 0, slots := 0, locals := 14 } : Room)) (fun aa_ U => aa_ = #[(.ref tk), .null] ∧ Z.Warmed39 U.vm ∧ U.heap = h0) (fun _ _ _ _ _ => True) (fun _ U o U' => ∃ v L, o = .returned v ∧ own_QISN Z tk ak tx aI aS aN aY aE h0 n0 v U'.heap L ∧ FrameEnd U o U' L ({ frames := 1, cells := 0, slots := 0, locals := 14 } : Room).cells ({ frames := 1, cells := 0, slots := 0, locals := 14 } : Room).slots) := by
  refine MetFree.of_bodySF (plainFor_of_name own_pn2) hisR ?_
  intro p e s m args below meth c s₁ Bd hml0 hP hK
  obtain ⟨rfl, hZ, hh⟩ := hP
  have hx := Bd.exec
  have hby := Bd.bytes
  have hlk : meth.locks = false := BodyLoose.notSynchronized Bd
  have hml : c.maxLocals = 2 := hml0
  have hown : s.vm.findClass "com/example/ianus/ianus/Token" = some m.cls := findClass_of_methodNamed Bd.named
  have hnm := (name_of_methodNamed Bd.named Bd.method).1
  have X0 : Stand p l e ({ frames := 1, cells := 0, slots := 0, locals := 14 } : Room) s m #[(.ref tk), .null] below meth c s₁ [] 0 0 := Stand.of_body Bd
  have e0 : s₁.heap = h0 := by rw [← hh, Bd.state]; rfl
  have N0 := Fr.nil n0
  have KP : Keep h0 h0 [] := Keep.refl _ _
  refine own_start (Fin := (own_Fin s (own_QISN Z tk ak tx aI aS aN aY aE h0 n0) ({ frames := 1, cells := 0, slots := 0, locals := 14 } : Room).cells ({ frames := 1, cells := 0, slots := 0, locals := 14 } : Room).slots)) (own_from (mkF m 0 #[rv tk, .val .null] []) (castTop (own_ef_ISN m tk)) ?_)
  refine own_to (T' := s₁) (mkF m 1 #[rv tk, .val .null] [(.ref tk)]) (fun _ k => XS.aloadN X0.here hx rfl (hb hby own_d_prog_18_method_7_0) rfl rfl k) ?_
  obtain ⟨T42, X42, e42, st42⟩ := getF X0 hx hZ hown (host := "") (Or.inl (hw _ (List.mem_of_getElem? (i := 39) rfl))) Via.refl e0 Fk (g := (mkF m 1 #[rv tk, .val .null] [(.ref tk)])) rfl rfl (hb hby own_d_prog_18_method_7_1)
  refine own_to (mkF m 4 #[rv tk, .val .null] [(.ref ak)]) st42 ?_
  obtain ⟨T43, X43, e43, st43⟩ := getS2 X42 hx hZ hown (host := "") (Or.inl (hw _ (List.mem_of_getElem? (i := 54) rfl))) Via.refl e42 (SaY.ext OL.2) (g := (mkF m 4 #[rv tk, .val .null] [(.ref ak)])) rfl (hb hby own_d_prog_18_method_7_4)
  refine own_to (mkF m 7 #[rv tk, .val .null] [(.ref aY), (.ref ak)]) st43 ?_
  by_cases hy : ak = aY
  · refine own_to (T' := T43) (mkF m 20 #[rv tk, .val .null] []) (fun _ k => Jvm.RoadKit.acmp (g := (mkF m 7 #[rv tk, .val .null] [(.ref aY), (.ref ak)])) X43 hx rfl rfl rfl (pc0 := 7) (pc' := 20) (same := true) rfl (hb hby own_d_prog_18_method_7_7) rfl (decide_eq_true (congrArg Value.ref hy)) (by decide) (by decide) k) ?_
    refine own_to (T' := T43) (mkF m 21 #[rv tk, .val .null] [(.ref tk)]) (fun _ k => XS.aloadN X43.here hx rfl (hb hby own_d_prog_18_method_7_20) rfl rfl k) ?_
    obtain ⟨T44, X44, e44, st44⟩ := getF X43 hx hZ hown (host := "") (Or.inl (hw _ (List.mem_of_getElem? (i := 41) rfl))) Via.refl e43 Ft (g := (mkF m 21 #[rv tk, .val .null] [(.ref tk)])) rfl rfl (hb hby own_d_prog_18_method_7_21)
    refine own_to (mkF m 24 #[rv tk, .val .null] [(.ref tx)]) st44 ?_
    refine own_to (T' := T44) (mkF m 25 #[rv tk, .val .null] [.null, (.ref tx)]) (fun _ k => XS.aloadN X44.here hx rfl (hb hby own_d_prog_18_method_7_24) rfl rfl k) ?_
    obtain ⟨cq45, kq45, q45a, q45b, q45c⟩ := isOf hZ e44 Et
    obtain ⟨_, _, ⟨T45, L45, k45, n45⟩, -, X45, ⟨Lc45, hQ45, l45, y45, z45⟩, st45⟩ := X44.virtualBack hx (y := (⟨"java/lang/String", "equals", "(Ljava/lang/Object;)Z"⟩ : MethodName)) (z := (⟨"java/lang/String", "equals", "(Ljava/lang/Object;)Z"⟩ : MethodName)) hown (mvT hZ (hw _ (List.mem_of_getElem? (i := 57) rfl))) (mvT hZ (hw _ (List.mem_of_getElem? (i := 58) rfl))) (notFace_of_selects (args := #[]) (mvT hZ (hw _ (List.mem_of_getElem? (i := 60) rfl)))) (mvT hZ (hw _ (List.mem_of_getElem? (i := 60) rfl))) (mvT hZ (hw _ (List.mem_of_getElem? (i := 59) rfl))) (by decide) (backOf (W := 0) (own_rmEN l Z a0 hw [] tx h0 n0 (Nat.le_trans Z0 KP.1) OL) hZ (hw _ (List.mem_of_getElem? (i := 61) rfl)) (hw _ (List.mem_of_getElem? (i := 6) rfl)) (by decide) (by decide)) q45a q45c (g := (mkF m 25 #[rv tk, .val .null] [.null, (.ref tx)])) rfl (by rw [hml]; rfl) (Steps.refl _) (argsL := [.null]) (rest := []) (lenOf own_pd2 rfl) rfl (by show 2 * 0 + _ ≤ _; exact Nat.le_of_eq rfl) (hb hby own_d_prog_18_method_7_25) (fun _ _ => ⟨rfl, e44, (by decide : 0 + 0 ≤ _), (by decide : 0 + 0 ≤ _)⟩)
    dsimp only [Pt.U, Pt.locs, Pt.cells, Pt.slots] at X45 l45 y45 z45 st45 hQ45
    subst l45 y45 z45
    obtain ⟨rfl, N45q, e45⟩ := hQ45
    have N45 := Fr.app N0 N45q
    refine own_via (mkF m 28 #[rv tk, .val .null] [(.int (0 : Int32))]) st45 ?_
    refine own_to (T' := T45) (mkF m 35 #[rv tk, .val .null] []) (fun _ k => XS.ifYes X45.here hx rfl (pc0 := 28) (pc' := 35) rfl (hb hby own_d_prog_18_method_7_28) rfl ((if0 _ _).trans (teq (by decide : (0 : Int32) = (0 : Int32))).1) (by decide) (by decide) k) ?_
    refine own_to (T' := T45) (mkF m 36 #[rv tk, .val .null] [(.int (0 : Int32))]) (fun _ k => XS.iconst X45.here hx rfl (hb hby own_d_prog_18_method_7_35) k) ?_
    exact own_retN X45 hx (t := .boolean) Bd.returns (by simp) hlk (hb hby own_d_prog_18_method_7_36) (by decide) (by decide) (by rw [e45]; exact ⟨rfl, N45, rfl⟩)
  · refine own_to (T' := T43) (mkF m 10 #[rv tk, .val .null] []) (fun _ k => Jvm.RoadKit.acmp (g := (mkF m 7 #[rv tk, .val .null] [(.ref aY), (.ref ak)])) X43 hx rfl rfl rfl (pc0 := 7) (pc' := 10) (same := false) rfl (hb hby own_d_prog_18_method_7_7) rfl (decide_eq_false fun q => hy (Value.ref.inj q)) (by decide) (by decide) k) ?_
    refine own_to (T' := T43) (mkF m 11 #[rv tk, .val .null] [(.ref tk)]) (fun _ k => XS.aloadN X43.here hx rfl (hb hby own_d_prog_18_method_7_10) rfl rfl k) ?_
    obtain ⟨T46, X46, e46, st46⟩ := getF X43 hx hZ hown (host := "") (Or.inl (hw _ (List.mem_of_getElem? (i := 39) rfl))) Via.refl e43 Fk (g := (mkF m 11 #[rv tk, .val .null] [(.ref tk)])) rfl rfl (hb hby own_d_prog_18_method_7_11)
    refine own_to (mkF m 14 #[rv tk, .val .null] [(.ref ak)]) st46 ?_
    obtain ⟨T47, X47, e47, st47⟩ := getS2 X46 hx hZ hown (host := "") (Or.inl (hw _ (List.mem_of_getElem? (i := 56) rfl))) Via.refl e46 (SaI.ext OL.2) (g := (mkF m 14 #[rv tk, .val .null] [(.ref ak)])) rfl (hb hby own_d_prog_18_method_7_14)
    refine own_to (mkF m 17 #[rv tk, .val .null] [(.ref aI), (.ref ak)]) st47 ?_
    by_cases hi : ak = aI
    · refine own_to (T' := T47) (mkF m 20 #[rv tk, .val .null] []) (fun _ k => Jvm.RoadKit.acmp (g := (mkF m 17 #[rv tk, .val .null] [(.ref aI), (.ref ak)])) X47 hx rfl rfl rfl (pc0 := 17) (pc' := 20) (same := true) rfl (hb hby own_d_prog_18_method_7_17) rfl (decide_eq_true (congrArg Value.ref hi)) (by decide) (by decide) k) ?_
      refine own_to (T' := T47) (mkF m 21 #[rv tk, .val .null] [(.ref tk)]) (fun _ k => XS.aloadN X47.here hx rfl (hb hby own_d_prog_18_method_7_20) rfl rfl k) ?_
      obtain ⟨T48, X48, e48, st48⟩ := getF X47 hx hZ hown (host := "") (Or.inl (hw _ (List.mem_of_getElem? (i := 41) rfl))) Via.refl e47 Ft (g := (mkF m 21 #[rv tk, .val .null] [(.ref tk)])) rfl rfl (hb hby own_d_prog_18_method_7_21)
      refine own_to (mkF m 24 #[rv tk, .val .null] [(.ref tx)]) st48 ?_
      refine own_to (T' := T48) (mkF m 25 #[rv tk, .val .null] [.null, (.ref tx)]) (fun _ k => XS.aloadN X48.here hx rfl (hb hby own_d_prog_18_method_7_24) rfl rfl k) ?_
      obtain ⟨cq49, kq49, q49a, q49b, q49c⟩ := isOf hZ e48 Et
      obtain ⟨_, _, ⟨T49, L49, k49, n49⟩, -, X49, ⟨Lc49, hQ49, l49, y49, z49⟩, st49⟩ := X48.virtualBack hx (y := (⟨"java/lang/String", "equals", "(Ljava/lang/Object;)Z"⟩ : MethodName)) (z := (⟨"java/lang/String", "equals", "(Ljava/lang/Object;)Z"⟩ : MethodName)) hown (mvT hZ (hw _ (List.mem_of_getElem? (i := 57) rfl))) (mvT hZ (hw _ (List.mem_of_getElem? (i := 58) rfl))) (notFace_of_selects (args := #[]) (mvT hZ (hw _ (List.mem_of_getElem? (i := 60) rfl)))) (mvT hZ (hw _ (List.mem_of_getElem? (i := 60) rfl))) (mvT hZ (hw _ (List.mem_of_getElem? (i := 59) rfl))) (by decide) (backOf (W := 0) (own_rmEN l Z a0 hw [] tx h0 n0 (Nat.le_trans Z0 KP.1) OL) hZ (hw _ (List.mem_of_getElem? (i := 61) rfl)) (hw _ (List.mem_of_getElem? (i := 6) rfl)) (by decide) (by decide)) q49a q49c (g := (mkF m 25 #[rv tk, .val .null] [.null, (.ref tx)])) rfl (by rw [hml]; rfl) (Steps.refl _) (argsL := [.null]) (rest := []) (lenOf own_pd2 rfl) rfl (by show 2 * 0 + _ ≤ _; exact Nat.le_of_eq rfl) (hb hby own_d_prog_18_method_7_25) (fun _ _ => ⟨rfl, e48, (by decide : 0 + 0 ≤ _), (by decide : 0 + 0 ≤ _)⟩)
      dsimp only [Pt.U, Pt.locs, Pt.cells, Pt.slots] at X49 l49 y49 z49 st49 hQ49
      subst l49 y49 z49
      obtain ⟨rfl, N49q, e49⟩ := hQ49
      have N49 := Fr.app N0 N49q
      refine own_via (mkF m 28 #[rv tk, .val .null] [(.int (0 : Int32))]) st49 ?_
      refine own_to (T' := T49) (mkF m 35 #[rv tk, .val .null] []) (fun _ k => XS.ifYes X49.here hx rfl (pc0 := 28) (pc' := 35) rfl (hb hby own_d_prog_18_method_7_28) rfl ((if0 _ _).trans (teq (by decide : (0 : Int32) = (0 : Int32))).1) (by decide) (by decide) k) ?_
      refine own_to (T' := T49) (mkF m 36 #[rv tk, .val .null] [(.int (0 : Int32))]) (fun _ k => XS.iconst X49.here hx rfl (hb hby own_d_prog_18_method_7_35) k) ?_
      exact own_retN X49 hx (t := .boolean) Bd.returns (by simp) hlk (hb hby own_d_prog_18_method_7_36) (by decide) (by decide) (by rw [e49]; exact ⟨rfl, N49, rfl⟩)
    · refine own_to (T' := T47) (mkF m 35 #[rv tk, .val .null] []) (fun _ k => Jvm.RoadKit.acmp (g := (mkF m 17 #[rv tk, .val .null] [(.ref aI), (.ref ak)])) X47 hx rfl rfl rfl (pc0 := 17) (pc' := 35) (same := false) rfl (hb hby own_d_prog_18_method_7_17) rfl (decide_eq_false fun q => hi (Value.ref.inj q)) (by decide) (by decide) k) ?_
      refine own_to (T' := T47) (mkF m 36 #[rv tk, .val .null] [(.int (0 : Int32))]) (fun _ k => XS.iconst X47.here hx rfl (hb hby own_d_prog_18_method_7_35) k) ?_
      exact own_retN X47 hx (t := .boolean) Bd.returns (by simp) hlk (hb hby own_d_prog_18_method_7_36) (by decide) (by decide) (by rw [e47]; exact ⟨rfl, N0, rfl⟩)
def own_QISS (Z : State) (G1 : Int32) (tk ak tx tt : Addr) (kt : ClassId) (cs : List Int32) (ar ta : Addr) (ka : ClassId) (ds : List Int32) (aI aS aN aY aE : Addr) (h0 : Heap) (n0 : Nat) (v : Option Value) (h : Heap) (L : List Loc) : Prop := ∃ r : Int32, v = some (.int r) ∧ (r = 0 ∨ r = 1) ∧ (r = 1 ↔ ((ak = aY ∨ ak = aI) ∧ cs = ds)) ∧ Fr n0 L ∧ h = h0
set_option maxRecDepth 65536 in
set_option maxHeartbeats 40000000 in
theorem own_rmISS (l : Launch) (Z : State) (a0 : Array Value) (hw : ∀ d ∈ tables_1, d.before a0 Z = true) (ws : List Jvm.Cond) (G1 : Int32) (tk ak tx tt : Addr) (kt : ClassId) (cs : List Int32) (ar ta : Addr) (ka : ClassId) (ds : List Int32) (aI aS aN aY aE : Addr) (h0 : Heap) (n0 : Nat) (Z0 : n0 ≤ h0.size) (OL : Old Z n0 h0) (Fk : Fld Z h0 tk "com/example/ianus/ianus/Token" "kind" "Lcom/example/ianus/ianus/Token$Kind;" (.ref ak)) (Ft : Fld Z h0 tk "com/example/ianus/ianus/Token" "text" "Ljava/lang/String;" (.ref tx)) (St : own_Str Z h0 tx tt kt cs) (Sa : own_Str Z h0 ar ta ka ds) (O2 : Sta Z Z.heap "java/lang/String" "COMPACT_STRINGS" "Z" (.int G1)) (P5 : ¬ (G1 = (0 : Int32))) (SaI : Sta Z Z.heap "com/example/ianus/ianus/Token$Kind" "IDENTIFIER" "Lcom/example/ianus/ianus/Token$Kind;" (.ref aI)) (SaS : Sta Z Z.heap "com/example/ianus/ianus/Token$Kind" "STRING" "Lcom/example/ianus/ianus/Token$Kind;" (.ref aS)) (SaN : Sta Z Z.heap "com/example/ianus/ianus/Token$Kind" "NUMBER" "Lcom/example/ianus/ianus/Token$Kind;" (.ref aN)) (SaY : Sta Z Z.heap "com/example/ianus/ianus/Token$Kind" "SYMBOL" "Lcom/example/ianus/ianus/Token$Kind;" (.ref aY)) (SaE : Sta Z Z.heap "com/example/ianus/ianus/Token$Kind" "END" "Lcom/example/ianus/ianus/Token$Kind;" (.ref aE)) :
    MetFree l (⟨"com/example/ianus/ianus/Token", "is", "(Ljava/lang/String;)Z"⟩ : MethodName) (head1 (Jvm.Cond.code (⟨"com/example/ianus/ianus/Token", "is", "(Ljava/lang/String;)Z"⟩ : MethodName) prog_18_method_7_code 2 (some .boolean) :: ws) ({ frames := 3, cells := 0, slots := 0, locals := 40 } : Room)) (fun aa_ U => aa_ = #[(.ref tk), (.ref ar)] ∧ Z.Warmed39 U.vm ∧ U.heap = h0) (fun _ _ _ _ _ => True) (fun _ U o U' => ∃ v L, o = .returned v ∧ own_QISS Z G1 tk ak tx tt kt cs ar ta ka ds aI aS aN aY aE h0 n0 v U'.heap L ∧ FrameEnd U o U' L ({ frames := 3, cells := 0, slots := 0, locals := 40 } : Room).cells ({ frames := 3, cells := 0, slots := 0, locals := 40 } : Room).slots) := by
  refine MetFree.of_bodySF (plainFor_of_name own_pn2) hisR ?_
  intro p e s m args below meth c s₁ Bd hml0 hP hK
  obtain ⟨rfl, hZ, hh⟩ := hP
  have hx := Bd.exec
  have hby := Bd.bytes
  have hlk : meth.locks = false := BodyLoose.notSynchronized Bd
  have hml : c.maxLocals = 2 := hml0
  have hown : s.vm.findClass "com/example/ianus/ianus/Token" = some m.cls := findClass_of_methodNamed Bd.named
  have hnm := (name_of_methodNamed Bd.named Bd.method).1
  have X0 : Stand p l e ({ frames := 3, cells := 0, slots := 0, locals := 40 } : Room) s m #[(.ref tk), (.ref ar)] below meth c s₁ [] 0 0 := Stand.of_body Bd
  have e0 : s₁.heap = h0 := by rw [← hh, Bd.state]; rfl
  have N0 := Fr.nil n0
  have KP : Keep h0 h0 [] := Keep.refl _ _
  refine own_start (Fin := (own_Fin s (own_QISS Z G1 tk ak tx tt kt cs ar ta ka ds aI aS aN aY aE h0 n0) ({ frames := 3, cells := 0, slots := 0, locals := 40 } : Room).cells ({ frames := 3, cells := 0, slots := 0, locals := 40 } : Room).slots)) (own_from (mkF m 0 #[rv tk, rv ar] []) (castTop (own_ef_ISS m tk ar)) ?_)
  have hwsE : ∀ d ∈ StrChars.Road.wordsEq, d.before a0 Z = true := fun d hd => hw d (own_wEq d hd)
  refine own_to (T' := s₁) (mkF m 1 #[rv tk, rv ar] [(.ref tk)]) (fun _ k => XS.aloadN X0.here hx rfl (hb hby own_d_prog_18_method_7_0) rfl rfl k) ?_
  obtain ⟨T50, X50, e50, st50⟩ := getF X0 hx hZ hown (host := "") (Or.inl (hw _ (List.mem_of_getElem? (i := 39) rfl))) Via.refl e0 Fk (g := (mkF m 1 #[rv tk, rv ar] [(.ref tk)])) rfl rfl (hb hby own_d_prog_18_method_7_1)
  refine own_to (mkF m 4 #[rv tk, rv ar] [(.ref ak)]) st50 ?_
  obtain ⟨T51, X51, e51, st51⟩ := getS2 X50 hx hZ hown (host := "") (Or.inl (hw _ (List.mem_of_getElem? (i := 54) rfl))) Via.refl e50 (SaY.ext OL.2) (g := (mkF m 4 #[rv tk, rv ar] [(.ref ak)])) rfl (hb hby own_d_prog_18_method_7_4)
  refine own_to (mkF m 7 #[rv tk, rv ar] [(.ref aY), (.ref ak)]) st51 ?_
  by_cases hy : ak = aY
  · refine own_to (T' := T51) (mkF m 20 #[rv tk, rv ar] []) (fun _ k => Jvm.RoadKit.acmp (g := (mkF m 7 #[rv tk, rv ar] [(.ref aY), (.ref ak)])) X51 hx rfl rfl rfl (pc0 := 7) (pc' := 20) (same := true) rfl (hb hby own_d_prog_18_method_7_7) rfl (decide_eq_true (congrArg Value.ref hy)) (by decide) (by decide) k) ?_
    refine own_to (T' := T51) (mkF m 21 #[rv tk, rv ar] [(.ref tk)]) (fun _ k => XS.aloadN X51.here hx rfl (hb hby own_d_prog_18_method_7_20) rfl rfl k) ?_
    obtain ⟨T52, X52, e52, st52⟩ := getF X51 hx hZ hown (host := "") (Or.inl (hw _ (List.mem_of_getElem? (i := 41) rfl))) Via.refl e51 Ft (g := (mkF m 21 #[rv tk, rv ar] [(.ref tk)])) rfl rfl (hb hby own_d_prog_18_method_7_21)
    refine own_to (mkF m 24 #[rv tk, rv ar] [(.ref tx)]) st52 ?_
    refine own_to (T' := T52) (mkF m 25 #[rv tk, rv ar] [(.ref ar), (.ref tx)]) (fun _ k => XS.aloadN X52.here hx rfl (hb hby own_d_prog_18_method_7_24) rfl rfl k) ?_
    obtain ⟨cq53, kq53, q53a, q53b, q53c⟩ := isOf hZ e52 St.1
    obtain ⟨_, _, ⟨T53, L53, k53, n53⟩, -, X53, ⟨Lc53, hQ53, l53, y53, z53⟩, st53⟩ := X52.virtualBack hx (y := (⟨"java/lang/String", "equals", "(Ljava/lang/Object;)Z"⟩ : MethodName)) (z := (⟨"java/lang/String", "equals", "(Ljava/lang/Object;)Z"⟩ : MethodName)) hown (mvT hZ (hw _ (List.mem_of_getElem? (i := 57) rfl))) (mvT hZ (hw _ (List.mem_of_getElem? (i := 58) rfl))) (notFace_of_selects (args := #[]) (mvT hZ (hw _ (List.mem_of_getElem? (i := 60) rfl)))) (mvT hZ (hw _ (List.mem_of_getElem? (i := 60) rfl))) (mvT hZ (hw _ (List.mem_of_getElem? (i := 59) rfl))) (by decide) (own_backEq (W := 0) hZ hwsE (hw _ (List.mem_of_getElem? (i := 5) rfl)) St Sa (O2.ext OL.2) P5 (by decide) (by decide)) q53a q53c (g := (mkF m 25 #[rv tk, rv ar] [(.ref ar), (.ref tx)])) rfl (by rw [hml]; rfl) (Steps.refl _) (argsL := [(.ref ar)]) (rest := []) (lenOf own_pd2 rfl) rfl (by show 2 * 0 + _ ≤ _; exact Nat.le_of_eq rfl) (hb hby own_d_prog_18_method_7_25) (fun _ _ => ⟨rfl, e52, (by decide : 0 + 0 ≤ _), (by decide : 0 + 0 ≤ _)⟩)
    dsimp only [Pt.U, Pt.locs, Pt.cells, Pt.slots] at X53 l53 y53 z53 st53 hQ53
    subst l53 y53 z53
    obtain ⟨hor53, rfl, e53⟩ := hQ53
    have N53q : Fr n0 ([] : List Loc) := Fr.nil n0
    have N53 := Fr.app N0 N53q
    rcases hor53 with ⟨rfl, q⟩ | ⟨rfl, q⟩
    · refine own_via (mkF m 28 #[rv tk, rv ar] [(.int (1 : Int32))]) st53 ?_
      refine own_to (T' := T53) (mkF m 31 #[rv tk, rv ar] []) (fun _ k => XS.ifNo X53.here hx rfl (hb hby own_d_prog_18_method_7_28) rfl ((if0 _ _).trans (feq (by decide : ¬ ((1 : Int32) = (0 : Int32)))).1) k) ?_
      refine own_to (T' := T53) (mkF m 32 #[rv tk, rv ar] [(.int (1 : Int32))]) (fun _ k => XS.iconst X53.here hx rfl (hb hby own_d_prog_18_method_7_31) k) ?_
      refine own_to (T' := T53) (mkF m 36 #[rv tk, rv ar] [(.int (1 : Int32))]) (fun _ k => XS.goto X53.here hx rfl (pc0 := 32) (pc' := 36) rfl (hb hby own_d_prog_18_method_7_32) (by decide) (by decide) k) ?_
      exact own_retN X53 hx (t := .boolean) Bd.returns (by simp) hlk (hb hby own_d_prog_18_method_7_36) (by decide) (by decide) (by rw [e53]; exact ⟨_, rfl, Or.inr rfl, ⟨fun _ => ⟨Or.inl hy, q⟩, fun _ => rfl⟩, N53, rfl⟩)
    · refine own_via (mkF m 28 #[rv tk, rv ar] [(.int (0 : Int32))]) st53 ?_
      refine own_to (T' := T53) (mkF m 35 #[rv tk, rv ar] []) (fun _ k => XS.ifYes X53.here hx rfl (pc0 := 28) (pc' := 35) rfl (hb hby own_d_prog_18_method_7_28) rfl ((if0 _ _).trans (teq (by decide : (0 : Int32) = (0 : Int32))).1) (by decide) (by decide) k) ?_
      refine own_to (T' := T53) (mkF m 36 #[rv tk, rv ar] [(.int (0 : Int32))]) (fun _ k => XS.iconst X53.here hx rfl (hb hby own_d_prog_18_method_7_35) k) ?_
      exact own_retN X53 hx (t := .boolean) Bd.returns (by simp) hlk (hb hby own_d_prog_18_method_7_36) (by decide) (by decide) (by rw [e53]; exact ⟨_, rfl, Or.inl rfl, ⟨fun z => absurd z (by decide), fun z => absurd z.2 q⟩, N53, rfl⟩)
  · refine own_to (T' := T51) (mkF m 10 #[rv tk, rv ar] []) (fun _ k => Jvm.RoadKit.acmp (g := (mkF m 7 #[rv tk, rv ar] [(.ref aY), (.ref ak)])) X51 hx rfl rfl rfl (pc0 := 7) (pc' := 10) (same := false) rfl (hb hby own_d_prog_18_method_7_7) rfl (decide_eq_false fun q => hy (Value.ref.inj q)) (by decide) (by decide) k) ?_
    refine own_to (T' := T51) (mkF m 11 #[rv tk, rv ar] [(.ref tk)]) (fun _ k => XS.aloadN X51.here hx rfl (hb hby own_d_prog_18_method_7_10) rfl rfl k) ?_
    obtain ⟨T54, X54, e54, st54⟩ := getF X51 hx hZ hown (host := "") (Or.inl (hw _ (List.mem_of_getElem? (i := 39) rfl))) Via.refl e51 Fk (g := (mkF m 11 #[rv tk, rv ar] [(.ref tk)])) rfl rfl (hb hby own_d_prog_18_method_7_11)
    refine own_to (mkF m 14 #[rv tk, rv ar] [(.ref ak)]) st54 ?_
    obtain ⟨T55, X55, e55, st55⟩ := getS2 X54 hx hZ hown (host := "") (Or.inl (hw _ (List.mem_of_getElem? (i := 56) rfl))) Via.refl e54 (SaI.ext OL.2) (g := (mkF m 14 #[rv tk, rv ar] [(.ref ak)])) rfl (hb hby own_d_prog_18_method_7_14)
    refine own_to (mkF m 17 #[rv tk, rv ar] [(.ref aI), (.ref ak)]) st55 ?_
    by_cases hi : ak = aI
    · refine own_to (T' := T55) (mkF m 20 #[rv tk, rv ar] []) (fun _ k => Jvm.RoadKit.acmp (g := (mkF m 17 #[rv tk, rv ar] [(.ref aI), (.ref ak)])) X55 hx rfl rfl rfl (pc0 := 17) (pc' := 20) (same := true) rfl (hb hby own_d_prog_18_method_7_17) rfl (decide_eq_true (congrArg Value.ref hi)) (by decide) (by decide) k) ?_
      refine own_to (T' := T55) (mkF m 21 #[rv tk, rv ar] [(.ref tk)]) (fun _ k => XS.aloadN X55.here hx rfl (hb hby own_d_prog_18_method_7_20) rfl rfl k) ?_
      obtain ⟨T56, X56, e56, st56⟩ := getF X55 hx hZ hown (host := "") (Or.inl (hw _ (List.mem_of_getElem? (i := 41) rfl))) Via.refl e55 Ft (g := (mkF m 21 #[rv tk, rv ar] [(.ref tk)])) rfl rfl (hb hby own_d_prog_18_method_7_21)
      refine own_to (mkF m 24 #[rv tk, rv ar] [(.ref tx)]) st56 ?_
      refine own_to (T' := T56) (mkF m 25 #[rv tk, rv ar] [(.ref ar), (.ref tx)]) (fun _ k => XS.aloadN X56.here hx rfl (hb hby own_d_prog_18_method_7_24) rfl rfl k) ?_
      obtain ⟨cq57, kq57, q57a, q57b, q57c⟩ := isOf hZ e56 St.1
      obtain ⟨_, _, ⟨T57, L57, k57, n57⟩, -, X57, ⟨Lc57, hQ57, l57, y57, z57⟩, st57⟩ := X56.virtualBack hx (y := (⟨"java/lang/String", "equals", "(Ljava/lang/Object;)Z"⟩ : MethodName)) (z := (⟨"java/lang/String", "equals", "(Ljava/lang/Object;)Z"⟩ : MethodName)) hown (mvT hZ (hw _ (List.mem_of_getElem? (i := 57) rfl))) (mvT hZ (hw _ (List.mem_of_getElem? (i := 58) rfl))) (notFace_of_selects (args := #[]) (mvT hZ (hw _ (List.mem_of_getElem? (i := 60) rfl)))) (mvT hZ (hw _ (List.mem_of_getElem? (i := 60) rfl))) (mvT hZ (hw _ (List.mem_of_getElem? (i := 59) rfl))) (by decide) (own_backEq (W := 0) hZ hwsE (hw _ (List.mem_of_getElem? (i := 5) rfl)) St Sa (O2.ext OL.2) P5 (by decide) (by decide)) q57a q57c (g := (mkF m 25 #[rv tk, rv ar] [(.ref ar), (.ref tx)])) rfl (by rw [hml]; rfl) (Steps.refl _) (argsL := [(.ref ar)]) (rest := []) (lenOf own_pd2 rfl) rfl (by show 2 * 0 + _ ≤ _; exact Nat.le_of_eq rfl) (hb hby own_d_prog_18_method_7_25) (fun _ _ => ⟨rfl, e56, (by decide : 0 + 0 ≤ _), (by decide : 0 + 0 ≤ _)⟩)
      dsimp only [Pt.U, Pt.locs, Pt.cells, Pt.slots] at X57 l57 y57 z57 st57 hQ57
      subst l57 y57 z57
      obtain ⟨hor57, rfl, e57⟩ := hQ57
      have N57q : Fr n0 ([] : List Loc) := Fr.nil n0
      have N57 := Fr.app N0 N57q
      rcases hor57 with ⟨rfl, q⟩ | ⟨rfl, q⟩
      · refine own_via (mkF m 28 #[rv tk, rv ar] [(.int (1 : Int32))]) st57 ?_
        refine own_to (T' := T57) (mkF m 31 #[rv tk, rv ar] []) (fun _ k => XS.ifNo X57.here hx rfl (hb hby own_d_prog_18_method_7_28) rfl ((if0 _ _).trans (feq (by decide : ¬ ((1 : Int32) = (0 : Int32)))).1) k) ?_
        refine own_to (T' := T57) (mkF m 32 #[rv tk, rv ar] [(.int (1 : Int32))]) (fun _ k => XS.iconst X57.here hx rfl (hb hby own_d_prog_18_method_7_31) k) ?_
        refine own_to (T' := T57) (mkF m 36 #[rv tk, rv ar] [(.int (1 : Int32))]) (fun _ k => XS.goto X57.here hx rfl (pc0 := 32) (pc' := 36) rfl (hb hby own_d_prog_18_method_7_32) (by decide) (by decide) k) ?_
        exact own_retN X57 hx (t := .boolean) Bd.returns (by simp) hlk (hb hby own_d_prog_18_method_7_36) (by decide) (by decide) (by rw [e57]; exact ⟨_, rfl, Or.inr rfl, ⟨fun _ => ⟨Or.inr hi, q⟩, fun _ => rfl⟩, N57, rfl⟩)
      · refine own_via (mkF m 28 #[rv tk, rv ar] [(.int (0 : Int32))]) st57 ?_
        refine own_to (T' := T57) (mkF m 35 #[rv tk, rv ar] []) (fun _ k => XS.ifYes X57.here hx rfl (pc0 := 28) (pc' := 35) rfl (hb hby own_d_prog_18_method_7_28) rfl ((if0 _ _).trans (teq (by decide : (0 : Int32) = (0 : Int32))).1) (by decide) (by decide) k) ?_
        refine own_to (T' := T57) (mkF m 36 #[rv tk, rv ar] [(.int (0 : Int32))]) (fun _ k => XS.iconst X57.here hx rfl (hb hby own_d_prog_18_method_7_35) k) ?_
        exact own_retN X57 hx (t := .boolean) Bd.returns (by simp) hlk (hb hby own_d_prog_18_method_7_36) (by decide) (by decide) (by rw [e57]; exact ⟨_, rfl, Or.inl rfl, ⟨fun z => absurd z (by decide), fun z => absurd z.2 q⟩, N57, rfl⟩)
    · refine own_to (T' := T55) (mkF m 35 #[rv tk, rv ar] []) (fun _ k => Jvm.RoadKit.acmp (g := (mkF m 17 #[rv tk, rv ar] [(.ref aI), (.ref ak)])) X55 hx rfl rfl rfl (pc0 := 17) (pc' := 35) (same := false) rfl (hb hby own_d_prog_18_method_7_17) rfl (decide_eq_false fun q => hi (Value.ref.inj q)) (by decide) (by decide) k) ?_
      refine own_to (T' := T55) (mkF m 36 #[rv tk, rv ar] [(.int (0 : Int32))]) (fun _ k => XS.iconst X55.here hx rfl (hb hby own_d_prog_18_method_7_35) k) ?_
      exact own_retN X55 hx (t := .boolean) Bd.returns (by simp) hlk (hb hby own_d_prog_18_method_7_36) (by decide) (by decide) (by rw [e55]; exact ⟨_, rfl, Or.inl rfl, ⟨fun q => absurd q (by decide), fun q => absurd q.1 (fun r => r.elim hy hi)⟩, N0, rfl⟩)
def own_Q0 (Z : State) (p0 p1 p2 p3 p4 p5 G1 : Int32) (aI aS aN aY aE : Addr) (h0 : Heap) (n0 : Nat) (v : Option Value) (h : Heap) (L : List Loc) : Prop := v = some (.int 1) ∧ Fr n0 L
set_option maxRecDepth 65536 in
set_option maxHeartbeats 40000000 in
theorem own_rm0 (l : Launch) (Z : State) (a0 : Array Value) (hw : ∀ d ∈ tables_1, d.before a0 Z = true) (ws : List Jvm.Cond) (p0 p1 p2 p3 p4 p5 G1 : Int32) (aI aS aN aY aE : Addr) (h0 : Heap) (n0 : Nat) (Z0 : n0 ≤ h0.size) (OL : Old Z n0 h0) (O2 : Sta Z Z.heap "java/lang/String" "COMPACT_STRINGS" "Z" (.int G1)) (P5 : ¬ (G1 = (0 : Int32))) (SaI : Sta Z Z.heap "com/example/ianus/ianus/Token$Kind" "IDENTIFIER" "Lcom/example/ianus/ianus/Token$Kind;" (.ref aI)) (SaS : Sta Z Z.heap "com/example/ianus/ianus/Token$Kind" "STRING" "Lcom/example/ianus/ianus/Token$Kind;" (.ref aS)) (SaN : Sta Z Z.heap "com/example/ianus/ianus/Token$Kind" "NUMBER" "Lcom/example/ianus/ianus/Token$Kind;" (.ref aN)) (SaY : Sta Z Z.heap "com/example/ianus/ianus/Token$Kind" "SYMBOL" "Lcom/example/ianus/ianus/Token$Kind;" (.ref aY)) (SaE : Sta Z Z.heap "com/example/ianus/ianus/Token$Kind" "END" "Lcom/example/ianus/ianus/Token$Kind;" (.ref aE)) (ne_aI_aS : aI ≠ aS) (ne_aI_aN : aI ≠ aN) (ne_aI_aY : aI ≠ aY) (ne_aI_aE : aI ≠ aE) (ne_aS_aY : aS ≠ aY) (ne_aN_aY : aN ≠ aY) (ne_aY_aE : aY ≠ aE) :
    MetFree l x (head1 (Jvm.Cond.code x code maxLocals ret :: ws) room_1) (fun aa_ U => aa_ = #[(.int p0), (.int p1), (.int p2), (.int p3), (.int p4), (.int p5)] ∧ Z.Warmed39 U.vm ∧ U.heap = h0 ∧ CHv Z own_EL U.vm h0) (fun _ _ _ _ _ => True) (fun _ U o U' => ∃ v L, o = .returned v ∧ own_Q0 Z p0 p1 p2 p3 p4 p5 G1 aI aS aN aY aE h0 n0 v U'.heap L ∧ CHr Z own_EL U.vm U.heap U'.vm U'.heap ∧ ReturnedEndW U o U' L room_1.cells room_1.slots) := by
  refine MetFree.of_bodySF (plainFor_of_name own_pn1) hisR ?_
  intro p e s m args below meth c s₁ Bd hml0 hP hK
  obtain ⟨rfl, hZ, hh, CH⟩ := hP
  have hx := Bd.exec
  have hby := Bd.bytes
  have hlk : meth.locks = false := BodyLoose.notSynchronized Bd
  have hml : c.maxLocals = 29 := hml0
  have hown : s.vm.findClass "com/example/ianus/ianus/TokenIsPinLaw" = some m.cls := findClass_of_methodNamed Bd.named
  have hnm := (name_of_methodNamed Bd.named Bd.method).1
  have X0 : Stand p l e room_1 s m #[(.int p0), (.int p1), (.int p2), (.int p3), (.int p4), (.int p5)] below meth c s₁ [] 0 0 := Stand.of_body Bd
  have e0 : s₁.heap = h0 := by rw [← hh, Bd.state]; rfl
  have N0 := Fr.nil n0
  have KP : Keep h0 h0 [] := Keep.refl _ _
  have hS : s.Since s.vm 0 := (State.WarmedH.refl s).since 0
  have hk1 : 0 ≤ h0.size := Nat.zero_le _
  have CHR : CHr Z own_EL s.vm h0 s.vm h0 := CHr.refl CH
  have hEW : EW Z a0 own_EL := own_EWof hw
  have hwsS : ∀ d ∈ Bundle.stringAtoms, d.before a0 Z = true := fun d hd => hw d (own_wS d hd)
  refine own_start (Fin := (own_FinH Z s (own_Q0 Z p0 p1 p2 p3 p4 p5 G1 aI aS aN aY aE h0 n0) room_1.cells room_1.slots)) (own_from (mkF m 0 #[iv p0, iv p1, iv p2, iv p3, iv p4, iv p5, .unset, .unset, .unset, .unset, .unset, .unset, .unset, .unset, .unset, .unset, .unset, .unset, .unset, .unset, .unset, .unset, .unset, .unset, .unset, .unset, .unset, .unset, .unset] []) (castTop (own_ef_0 m p0 p1 p2 p3 p4 p5)) ?_)
  refine own_to (T' := s₁) (mkF m 1 #[iv p0, iv p1, iv p2, iv p3, iv p4, iv p5, .unset, .unset, .unset, .unset, .unset, .unset, .unset, .unset, .unset, .unset, .unset, .unset, .unset, .unset, .unset, .unset, .unset, .unset, .unset, .unset, .unset, .unset, .unset] [(.int p0)]) (fun _ k => XS.iloadN X0.here hx rfl (hb hby at_0) rfl k) ?_
  refine own_to (T' := s₁) (mkF m 4 #[iv p0, iv p1, iv p2, iv p3, iv p4, iv p5, .unset, .unset, .unset, .unset, .unset, .unset, .unset, .unset, .unset, .unset, .unset, .unset, .unset, .unset, .unset, .unset, .unset, .unset, .unset, .unset, .unset, .unset, .unset] [(.int (255 : Int32)), (.int p0)]) (fun _ k => XS.sipush X0.here hx rfl (hb hby at_1) k) ?_
  refine own_to (T' := s₁) (mkF m 5 #[iv p0, iv p1, iv p2, iv p3, iv p4, iv p5, .unset, .unset, .unset, .unset, .unset, .unset, .unset, .unset, .unset, .unset, .unset, .unset, .unset, .unset, .unset, .unset, .unset, .unset, .unset, .unset, .unset, .unset, .unset] [(.int (p0 &&& (255 : Int32)))]) (fun _ k => XS.iand X0.here hx rfl (hb hby at_4) rfl k) ?_
  refine own_to (T' := s₁) (mkF m 6 #[iv p0, iv p1, iv p2, iv p3, iv p4, iv p5, .unset, .unset, .unset, .unset, .unset, .unset, .unset, .unset, .unset, .unset, .unset, .unset, .unset, .unset, .unset, .unset, .unset, .unset, .unset, .unset, .unset, .unset, .unset] [(.int (5 : Int32)), (.int (p0 &&& (255 : Int32)))]) (fun _ k => XS.iconst X0.here hx rfl (hb hby at_5) k) ?_
  refine own_to (T' := s₁) (mkF m 7 #[iv p0, iv p1, iv p2, iv p3, iv p4, iv p5, .unset, .unset, .unset, .unset, .unset, .unset, .unset, .unset, .unset, .unset, .unset, .unset, .unset, .unset, .unset, .unset, .unset, .unset, .unset, .unset, .unset, .unset, .unset] [(.int ((p0 &&& (255 : Int32)) % (5 : Int32)))]) (fun _ k => iremM X0 hx rfl (hb hby at_6) rfl (by decide) k) ?_
  generalize hidx : ((p0 &&& (255 : Int32)) % (5 : Int32)) = idx
  refine own_to (T' := s₁) (mkF m 9 #[iv p0, iv p1, iv p2, iv p3, iv p4, iv p5, iv idx, .unset, .unset, .unset, .unset, .unset, .unset, .unset, .unset, .unset, .unset, .unset, .unset, .unset, .unset, .unset, .unset, .unset, .unset, .unset, .unset, .unset, .unset] []) (fun _ k => XS.istore X0.here hx rfl (hb hby at_7) rfl (l' := #[iv p0, iv p1, iv p2, iv p3, iv p4, iv p5, iv idx, .unset, .unset, .unset, .unset, .unset, .unset, .unset, .unset, .unset, .unset, .unset, .unset, .unset, .unset, .unset, .unset, .unset, .unset, .unset, .unset, .unset, .unset]) rfl k) ?_
  refine own_to (T' := s₁) (mkF m 10 #[iv p0, iv p1, iv p2, iv p3, iv p4, iv p5, iv idx, .unset, .unset, .unset, .unset, .unset, .unset, .unset, .unset, .unset, .unset, .unset, .unset, .unset, .unset, .unset, .unset, .unset, .unset, .unset, .unset, .unset, .unset] [(.int p0)]) (fun _ k => XS.iloadN X0.here hx rfl (hb hby at_9) rfl k) ?_
  refine own_to (T' := s₁) (mkF m 12 #[iv p0, iv p1, iv p2, iv p3, iv p4, iv p5, iv idx, .unset, .unset, .unset, .unset, .unset, .unset, .unset, .unset, .unset, .unset, .unset, .unset, .unset, .unset, .unset, .unset, .unset, .unset, .unset, .unset, .unset, .unset] [(.int (8 : Int32)), (.int p0)]) (fun _ k => XS.bipush X0.here hx rfl (hb hby at_10) k) ?_
  refine own_to (T' := s₁) (mkF m 13 #[iv p0, iv p1, iv p2, iv p3, iv p4, iv p5, iv idx, .unset, .unset, .unset, .unset, .unset, .unset, .unset, .unset, .unset, .unset, .unset, .unset, .unset, .unset, .unset, .unset, .unset, .unset, .unset, .unset, .unset, .unset] [(.int ((p0.toUInt32 >>> ((8 : Int32) &&& 31).toUInt32).toInt32))]) (fun _ k => XS.iushr X0.here hx rfl (hb hby at_12) rfl k) ?_
  refine own_to (T' := s₁) (mkF m 14 #[iv p0, iv p1, iv p2, iv p3, iv p4, iv p5, iv idx, .unset, .unset, .unset, .unset, .unset, .unset, .unset, .unset, .unset, .unset, .unset, .unset, .unset, .unset, .unset, .unset, .unset, .unset, .unset, .unset, .unset, .unset] [(.int (3 : Int32)), (.int ((p0.toUInt32 >>> ((8 : Int32) &&& 31).toUInt32).toInt32))]) (fun _ k => XS.iconst X0.here hx rfl (hb hby at_13) k) ?_
  refine own_to (T' := s₁) (mkF m 15 #[iv p0, iv p1, iv p2, iv p3, iv p4, iv p5, iv idx, .unset, .unset, .unset, .unset, .unset, .unset, .unset, .unset, .unset, .unset, .unset, .unset, .unset, .unset, .unset, .unset, .unset, .unset, .unset, .unset, .unset, .unset] [(.int (((p0.toUInt32 >>> ((8 : Int32) &&& 31).toUInt32).toInt32) &&& (3 : Int32)))]) (fun _ k => XS.iand X0.here hx rfl (hb hby at_14) rfl k) ?_
  generalize htl : (((p0.toUInt32 >>> ((8 : Int32) &&& 31).toUInt32).toInt32) &&& (3 : Int32)) = tl
  refine own_to (T' := s₁) (mkF m 17 #[iv p0, iv p1, iv p2, iv p3, iv p4, iv p5, iv idx, iv tl, .unset, .unset, .unset, .unset, .unset, .unset, .unset, .unset, .unset, .unset, .unset, .unset, .unset, .unset, .unset, .unset, .unset, .unset, .unset, .unset, .unset] []) (fun _ k => XS.istore X0.here hx rfl (hb hby at_15) rfl (l' := #[iv p0, iv p1, iv p2, iv p3, iv p4, iv p5, iv idx, iv tl, .unset, .unset, .unset, .unset, .unset, .unset, .unset, .unset, .unset, .unset, .unset, .unset, .unset, .unset, .unset, .unset, .unset, .unset, .unset, .unset, .unset]) rfl k) ?_
  refine own_to (T' := s₁) (mkF m 18 #[iv p0, iv p1, iv p2, iv p3, iv p4, iv p5, iv idx, iv tl, .unset, .unset, .unset, .unset, .unset, .unset, .unset, .unset, .unset, .unset, .unset, .unset, .unset, .unset, .unset, .unset, .unset, .unset, .unset, .unset, .unset] [(.int p0)]) (fun _ k => XS.iloadN X0.here hx rfl (hb hby at_17) rfl k) ?_
  refine own_to (T' := s₁) (mkF m 20 #[iv p0, iv p1, iv p2, iv p3, iv p4, iv p5, iv idx, iv tl, .unset, .unset, .unset, .unset, .unset, .unset, .unset, .unset, .unset, .unset, .unset, .unset, .unset, .unset, .unset, .unset, .unset, .unset, .unset, .unset, .unset] [(.int (10 : Int32)), (.int p0)]) (fun _ k => XS.bipush X0.here hx rfl (hb hby at_18) k) ?_
  refine own_to (T' := s₁) (mkF m 21 #[iv p0, iv p1, iv p2, iv p3, iv p4, iv p5, iv idx, iv tl, .unset, .unset, .unset, .unset, .unset, .unset, .unset, .unset, .unset, .unset, .unset, .unset, .unset, .unset, .unset, .unset, .unset, .unset, .unset, .unset, .unset] [(.int ((p0.toUInt32 >>> ((10 : Int32) &&& 31).toUInt32).toInt32))]) (fun _ k => XS.iushr X0.here hx rfl (hb hby at_20) rfl k) ?_
  refine own_to (T' := s₁) (mkF m 22 #[iv p0, iv p1, iv p2, iv p3, iv p4, iv p5, iv idx, iv tl, .unset, .unset, .unset, .unset, .unset, .unset, .unset, .unset, .unset, .unset, .unset, .unset, .unset, .unset, .unset, .unset, .unset, .unset, .unset, .unset, .unset] [(.int (3 : Int32)), (.int ((p0.toUInt32 >>> ((10 : Int32) &&& 31).toUInt32).toInt32))]) (fun _ k => XS.iconst X0.here hx rfl (hb hby at_21) k) ?_
  refine own_to (T' := s₁) (mkF m 23 #[iv p0, iv p1, iv p2, iv p3, iv p4, iv p5, iv idx, iv tl, .unset, .unset, .unset, .unset, .unset, .unset, .unset, .unset, .unset, .unset, .unset, .unset, .unset, .unset, .unset, .unset, .unset, .unset, .unset, .unset, .unset] [(.int (((p0.toUInt32 >>> ((10 : Int32) &&& 31).toUInt32).toInt32) &&& (3 : Int32)))]) (fun _ k => XS.iand X0.here hx rfl (hb hby at_22) rfl k) ?_
  generalize hal : (((p0.toUInt32 >>> ((10 : Int32) &&& 31).toUInt32).toInt32) &&& (3 : Int32)) = al
  refine own_to (T' := s₁) (mkF m 25 #[iv p0, iv p1, iv p2, iv p3, iv p4, iv p5, iv idx, iv tl, iv al, .unset, .unset, .unset, .unset, .unset, .unset, .unset, .unset, .unset, .unset, .unset, .unset, .unset, .unset, .unset, .unset, .unset, .unset, .unset, .unset] []) (fun _ k => XS.istore X0.here hx rfl (hb hby at_23) rfl (l' := #[iv p0, iv p1, iv p2, iv p3, iv p4, iv p5, iv idx, iv tl, iv al, .unset, .unset, .unset, .unset, .unset, .unset, .unset, .unset, .unset, .unset, .unset, .unset, .unset, .unset, .unset, .unset, .unset, .unset, .unset, .unset]) rfl k) ?_
  refine own_to (T' := s₁) (mkF m 26 #[iv p0, iv p1, iv p2, iv p3, iv p4, iv p5, iv idx, iv tl, iv al, .unset, .unset, .unset, .unset, .unset, .unset, .unset, .unset, .unset, .unset, .unset, .unset, .unset, .unset, .unset, .unset, .unset, .unset, .unset, .unset] [(.int p0)]) (fun _ k => XS.iloadN X0.here hx rfl (hb hby at_25) rfl k) ?_
  refine own_to (T' := s₁) (mkF m 28 #[iv p0, iv p1, iv p2, iv p3, iv p4, iv p5, iv idx, iv tl, iv al, .unset, .unset, .unset, .unset, .unset, .unset, .unset, .unset, .unset, .unset, .unset, .unset, .unset, .unset, .unset, .unset, .unset, .unset, .unset, .unset] [(.int (12 : Int32)), (.int p0)]) (fun _ k => XS.bipush X0.here hx rfl (hb hby at_26) k) ?_
  refine own_to (T' := s₁) (mkF m 29 #[iv p0, iv p1, iv p2, iv p3, iv p4, iv p5, iv idx, iv tl, iv al, .unset, .unset, .unset, .unset, .unset, .unset, .unset, .unset, .unset, .unset, .unset, .unset, .unset, .unset, .unset, .unset, .unset, .unset, .unset, .unset] [(.int ((p0.toUInt32 >>> ((12 : Int32) &&& 31).toUInt32).toInt32))]) (fun _ k => XS.iushr X0.here hx rfl (hb hby at_28) rfl k) ?_
  refine own_to (T' := s₁) (mkF m 30 #[iv p0, iv p1, iv p2, iv p3, iv p4, iv p5, iv idx, iv tl, iv al, .unset, .unset, .unset, .unset, .unset, .unset, .unset, .unset, .unset, .unset, .unset, .unset, .unset, .unset, .unset, .unset, .unset, .unset, .unset, .unset] [(.int (1 : Int32)), (.int ((p0.toUInt32 >>> ((12 : Int32) &&& 31).toUInt32).toInt32))]) (fun _ k => XS.iconst X0.here hx rfl (hb hby at_29) k) ?_
  refine own_to (T' := s₁) (mkF m 31 #[iv p0, iv p1, iv p2, iv p3, iv p4, iv p5, iv idx, iv tl, iv al, .unset, .unset, .unset, .unset, .unset, .unset, .unset, .unset, .unset, .unset, .unset, .unset, .unset, .unset, .unset, .unset, .unset, .unset, .unset, .unset] [(.int (((p0.toUInt32 >>> ((12 : Int32) &&& 31).toUInt32).toInt32) &&& (1 : Int32)))]) (fun _ k => XS.iand X0.here hx rfl (hb hby at_30) rfl k) ?_
  suffices jn58 : ∀ sm : Int32, ((((p0.toUInt32 >>> ((12 : Int32) &&& 31).toUInt32).toInt32) &&& (1 : Int32)) = (0 : Int32) → sm = (0 : Int32)) → (¬ (((p0.toUInt32 >>> ((12 : Int32) &&& 31).toUInt32).toInt32) &&& (1 : Int32)) = (0 : Int32) → sm = (1 : Int32)) → own_E p e below (own_FinH Z s (own_Q0 Z p0 p1 p2 p3 p4 p5 G1 aI aS aN aY aE h0 n0) room_1.cells room_1.slots) s₁ (mkF m 39 #[iv p0, iv p1, iv p2, iv p3, iv p4, iv p5, iv idx, iv tl, iv al, .unset, .unset, .unset, .unset, .unset, .unset, .unset, .unset, .unset, .unset, .unset, .unset, .unset, .unset, .unset, .unset, .unset, .unset, .unset, .unset] [(.int sm)]) from by
    by_cases hfsm : (((p0.toUInt32 >>> ((12 : Int32) &&& 31).toUInt32).toInt32) &&& (1 : Int32)) = (0 : Int32)
    · refine own_to (T' := s₁) (mkF m 38 #[iv p0, iv p1, iv p2, iv p3, iv p4, iv p5, iv idx, iv tl, iv al, .unset, .unset, .unset, .unset, .unset, .unset, .unset, .unset, .unset, .unset, .unset, .unset, .unset, .unset, .unset, .unset, .unset, .unset, .unset, .unset] []) (fun _ k => XS.ifYes X0.here hx rfl (pc0 := 31) (pc' := 38) rfl (hb hby at_31) rfl ((if0 _ _).trans (teq hfsm).1) (by decide) (by decide) k) ?_
      refine own_to (T' := s₁) (mkF m 39 #[iv p0, iv p1, iv p2, iv p3, iv p4, iv p5, iv idx, iv tl, iv al, .unset, .unset, .unset, .unset, .unset, .unset, .unset, .unset, .unset, .unset, .unset, .unset, .unset, .unset, .unset, .unset, .unset, .unset, .unset, .unset] [(.int (0 : Int32))]) (fun _ k => XS.iconst X0.here hx rfl (hb hby at_38) k) ?_
      exact jn58 (0 : Int32) (fun _ => rfl) (fun q => absurd hfsm q)
    · refine own_to (T' := s₁) (mkF m 34 #[iv p0, iv p1, iv p2, iv p3, iv p4, iv p5, iv idx, iv tl, iv al, .unset, .unset, .unset, .unset, .unset, .unset, .unset, .unset, .unset, .unset, .unset, .unset, .unset, .unset, .unset, .unset, .unset, .unset, .unset, .unset] []) (fun _ k => XS.ifNo X0.here hx rfl (hb hby at_31) rfl ((if0 _ _).trans (feq hfsm).1) k) ?_
      refine own_to (T' := s₁) (mkF m 35 #[iv p0, iv p1, iv p2, iv p3, iv p4, iv p5, iv idx, iv tl, iv al, .unset, .unset, .unset, .unset, .unset, .unset, .unset, .unset, .unset, .unset, .unset, .unset, .unset, .unset, .unset, .unset, .unset, .unset, .unset, .unset] [(.int (1 : Int32))]) (fun _ k => XS.iconst X0.here hx rfl (hb hby at_34) k) ?_
      refine own_to (T' := s₁) (mkF m 39 #[iv p0, iv p1, iv p2, iv p3, iv p4, iv p5, iv idx, iv tl, iv al, .unset, .unset, .unset, .unset, .unset, .unset, .unset, .unset, .unset, .unset, .unset, .unset, .unset, .unset, .unset, .unset, .unset, .unset, .unset, .unset] [(.int (1 : Int32))]) (fun _ k => XS.goto X0.here hx rfl (pc0 := 35) (pc' := 39) rfl (hb hby at_35) (by decide) (by decide) k) ?_
      exact jn58 (1 : Int32) (fun q => absurd q hfsm) (fun _ => rfl)
  intro sm hsmt hsmf
  refine own_to (T' := s₁) (mkF m 41 #[iv p0, iv p1, iv p2, iv p3, iv p4, iv p5, iv idx, iv tl, iv al, iv sm, .unset, .unset, .unset, .unset, .unset, .unset, .unset, .unset, .unset, .unset, .unset, .unset, .unset, .unset, .unset, .unset, .unset, .unset, .unset] []) (fun _ k => XS.istore X0.here hx rfl (hb hby at_39) rfl (l' := #[iv p0, iv p1, iv p2, iv p3, iv p4, iv p5, iv idx, iv tl, iv al, iv sm, .unset, .unset, .unset, .unset, .unset, .unset, .unset, .unset, .unset, .unset, .unset, .unset, .unset, .unset, .unset, .unset, .unset, .unset, .unset]) rfl k) ?_
  refine own_to (T' := s₁) (mkF m 42 #[iv p0, iv p1, iv p2, iv p3, iv p4, iv p5, iv idx, iv tl, iv al, iv sm, .unset, .unset, .unset, .unset, .unset, .unset, .unset, .unset, .unset, .unset, .unset, .unset, .unset, .unset, .unset, .unset, .unset, .unset, .unset] [(.int p0)]) (fun _ k => XS.iloadN X0.here hx rfl (hb hby at_41) rfl k) ?_
  refine own_to (T' := s₁) (mkF m 44 #[iv p0, iv p1, iv p2, iv p3, iv p4, iv p5, iv idx, iv tl, iv al, iv sm, .unset, .unset, .unset, .unset, .unset, .unset, .unset, .unset, .unset, .unset, .unset, .unset, .unset, .unset, .unset, .unset, .unset, .unset, .unset] [(.int (13 : Int32)), (.int p0)]) (fun _ k => XS.bipush X0.here hx rfl (hb hby at_42) k) ?_
  refine own_to (T' := s₁) (mkF m 45 #[iv p0, iv p1, iv p2, iv p3, iv p4, iv p5, iv idx, iv tl, iv al, iv sm, .unset, .unset, .unset, .unset, .unset, .unset, .unset, .unset, .unset, .unset, .unset, .unset, .unset, .unset, .unset, .unset, .unset, .unset, .unset] [(.int ((p0.toUInt32 >>> ((13 : Int32) &&& 31).toUInt32).toInt32))]) (fun _ k => XS.iushr X0.here hx rfl (hb hby at_44) rfl k) ?_
  refine own_to (T' := s₁) (mkF m 47 #[iv p0, iv p1, iv p2, iv p3, iv p4, iv p5, iv idx, iv tl, iv al, iv sm, .unset, .unset, .unset, .unset, .unset, .unset, .unset, .unset, .unset, .unset, .unset, .unset, .unset, .unset, .unset, .unset, .unset, .unset, .unset] [(.int (7 : Int32)), (.int ((p0.toUInt32 >>> ((13 : Int32) &&& 31).toUInt32).toInt32))]) (fun _ k => XS.bipush X0.here hx rfl (hb hby at_45) k) ?_
  refine own_to (T' := s₁) (mkF m 48 #[iv p0, iv p1, iv p2, iv p3, iv p4, iv p5, iv idx, iv tl, iv al, iv sm, .unset, .unset, .unset, .unset, .unset, .unset, .unset, .unset, .unset, .unset, .unset, .unset, .unset, .unset, .unset, .unset, .unset, .unset, .unset] [(.int (((p0.toUInt32 >>> ((13 : Int32) &&& 31).toUInt32).toInt32) &&& (7 : Int32)))]) (fun _ k => XS.iand X0.here hx rfl (hb hby at_47) rfl k) ?_
  suffices jn59 : ∀ na : Int32, ((((p0.toUInt32 >>> ((13 : Int32) &&& 31).toUInt32).toInt32) &&& (7 : Int32)) = (0 : Int32) → na = (1 : Int32)) → (¬ (((p0.toUInt32 >>> ((13 : Int32) &&& 31).toUInt32).toInt32) &&& (7 : Int32)) = (0 : Int32) → na = (0 : Int32)) → own_E p e below (own_FinH Z s (own_Q0 Z p0 p1 p2 p3 p4 p5 G1 aI aS aN aY aE h0 n0) room_1.cells room_1.slots) s₁ (mkF m 56 #[iv p0, iv p1, iv p2, iv p3, iv p4, iv p5, iv idx, iv tl, iv al, iv sm, .unset, .unset, .unset, .unset, .unset, .unset, .unset, .unset, .unset, .unset, .unset, .unset, .unset, .unset, .unset, .unset, .unset, .unset, .unset] [(.int na)]) from by
    by_cases hfna : (((p0.toUInt32 >>> ((13 : Int32) &&& 31).toUInt32).toInt32) &&& (7 : Int32)) = (0 : Int32)
    · refine own_to (T' := s₁) (mkF m 51 #[iv p0, iv p1, iv p2, iv p3, iv p4, iv p5, iv idx, iv tl, iv al, iv sm, .unset, .unset, .unset, .unset, .unset, .unset, .unset, .unset, .unset, .unset, .unset, .unset, .unset, .unset, .unset, .unset, .unset, .unset, .unset] []) (fun _ k => XS.ifNo X0.here hx rfl (hb hby at_48) rfl ((if0 _ _).trans (teq hfna).2) k) ?_
      refine own_to (T' := s₁) (mkF m 52 #[iv p0, iv p1, iv p2, iv p3, iv p4, iv p5, iv idx, iv tl, iv al, iv sm, .unset, .unset, .unset, .unset, .unset, .unset, .unset, .unset, .unset, .unset, .unset, .unset, .unset, .unset, .unset, .unset, .unset, .unset, .unset] [(.int (1 : Int32))]) (fun _ k => XS.iconst X0.here hx rfl (hb hby at_51) k) ?_
      refine own_to (T' := s₁) (mkF m 56 #[iv p0, iv p1, iv p2, iv p3, iv p4, iv p5, iv idx, iv tl, iv al, iv sm, .unset, .unset, .unset, .unset, .unset, .unset, .unset, .unset, .unset, .unset, .unset, .unset, .unset, .unset, .unset, .unset, .unset, .unset, .unset] [(.int (1 : Int32))]) (fun _ k => XS.goto X0.here hx rfl (pc0 := 52) (pc' := 56) rfl (hb hby at_52) (by decide) (by decide) k) ?_
      exact jn59 (1 : Int32) (fun _ => rfl) (fun q => absurd hfna q)
    · refine own_to (T' := s₁) (mkF m 55 #[iv p0, iv p1, iv p2, iv p3, iv p4, iv p5, iv idx, iv tl, iv al, iv sm, .unset, .unset, .unset, .unset, .unset, .unset, .unset, .unset, .unset, .unset, .unset, .unset, .unset, .unset, .unset, .unset, .unset, .unset, .unset] []) (fun _ k => XS.ifYes X0.here hx rfl (pc0 := 48) (pc' := 55) rfl (hb hby at_48) rfl ((if0 _ _).trans (feq hfna).2) (by decide) (by decide) k) ?_
      refine own_to (T' := s₁) (mkF m 56 #[iv p0, iv p1, iv p2, iv p3, iv p4, iv p5, iv idx, iv tl, iv al, iv sm, .unset, .unset, .unset, .unset, .unset, .unset, .unset, .unset, .unset, .unset, .unset, .unset, .unset, .unset, .unset, .unset, .unset, .unset, .unset] [(.int (0 : Int32))]) (fun _ k => XS.iconst X0.here hx rfl (hb hby at_55) k) ?_
      exact jn59 (0 : Int32) (fun q => absurd q hfna) (fun _ => rfl)
  intro na hnat hnaf
  refine own_to (T' := s₁) (mkF m 58 #[iv p0, iv p1, iv p2, iv p3, iv p4, iv p5, iv idx, iv tl, iv al, iv sm, iv na, .unset, .unset, .unset, .unset, .unset, .unset, .unset, .unset, .unset, .unset, .unset, .unset, .unset, .unset, .unset, .unset, .unset, .unset] []) (fun _ k => XS.istore X0.here hx rfl (hb hby at_56) rfl (l' := #[iv p0, iv p1, iv p2, iv p3, iv p4, iv p5, iv idx, iv tl, iv al, iv sm, iv na, .unset, .unset, .unset, .unset, .unset, .unset, .unset, .unset, .unset, .unset, .unset, .unset, .unset, .unset, .unset, .unset, .unset, .unset]) rfl k) ?_
  refine own_to (T' := s₁) (mkF m 59 #[iv p0, iv p1, iv p2, iv p3, iv p4, iv p5, iv idx, iv tl, iv al, iv sm, iv na, .unset, .unset, .unset, .unset, .unset, .unset, .unset, .unset, .unset, .unset, .unset, .unset, .unset, .unset, .unset, .unset, .unset, .unset] [(.int p0)]) (fun _ k => XS.iloadN X0.here hx rfl (hb hby at_58) rfl k) ?_
  refine own_to (T' := s₁) (mkF m 61 #[iv p0, iv p1, iv p2, iv p3, iv p4, iv p5, iv idx, iv tl, iv al, iv sm, iv na, .unset, .unset, .unset, .unset, .unset, .unset, .unset, .unset, .unset, .unset, .unset, .unset, .unset, .unset, .unset, .unset, .unset, .unset] [(.int (16 : Int32)), (.int p0)]) (fun _ k => XS.bipush X0.here hx rfl (hb hby at_59) k) ?_
  refine own_to (T' := s₁) (mkF m 62 #[iv p0, iv p1, iv p2, iv p3, iv p4, iv p5, iv idx, iv tl, iv al, iv sm, iv na, .unset, .unset, .unset, .unset, .unset, .unset, .unset, .unset, .unset, .unset, .unset, .unset, .unset, .unset, .unset, .unset, .unset, .unset] [(.int ((p0.toUInt32 >>> ((16 : Int32) &&& 31).toUInt32).toInt32))]) (fun _ k => XS.iushr X0.here hx rfl (hb hby at_61) rfl k) ?_
  refine own_to (T' := s₁) (mkF m 63 #[iv p0, iv p1, iv p2, iv p3, iv p4, iv p5, iv idx, iv tl, iv al, iv sm, iv na, .unset, .unset, .unset, .unset, .unset, .unset, .unset, .unset, .unset, .unset, .unset, .unset, .unset, .unset, .unset, .unset, .unset, .unset] [(.int (3 : Int32)), (.int ((p0.toUInt32 >>> ((16 : Int32) &&& 31).toUInt32).toInt32))]) (fun _ k => XS.iconst X0.here hx rfl (hb hby at_62) k) ?_
  refine own_to (T' := s₁) (mkF m 64 #[iv p0, iv p1, iv p2, iv p3, iv p4, iv p5, iv idx, iv tl, iv al, iv sm, iv na, .unset, .unset, .unset, .unset, .unset, .unset, .unset, .unset, .unset, .unset, .unset, .unset, .unset, .unset, .unset, .unset, .unset, .unset] [(.int (((p0.toUInt32 >>> ((16 : Int32) &&& 31).toUInt32).toInt32) &&& (3 : Int32)))]) (fun _ k => XS.iand X0.here hx rfl (hb hby at_63) rfl k) ?_
  generalize hvl : (((p0.toUInt32 >>> ((16 : Int32) &&& 31).toUInt32).toInt32) &&& (3 : Int32)) = vl
  have h4tl := own_r4 _ htl
  have h4al := own_r4 _ hal
  have h4vl := own_r4 _ hvl
  refine own_to (T' := s₁) (mkF m 66 #[iv p0, iv p1, iv p2, iv p3, iv p4, iv p5, iv idx, iv tl, iv al, iv sm, iv na, iv vl, .unset, .unset, .unset, .unset, .unset, .unset, .unset, .unset, .unset, .unset, .unset, .unset, .unset, .unset, .unset, .unset, .unset] []) (fun _ k => XS.istore X0.here hx rfl (hb hby at_64) rfl (l' := #[iv p0, iv p1, iv p2, iv p3, iv p4, iv p5, iv idx, iv tl, iv al, iv sm, iv na, iv vl, .unset, .unset, .unset, .unset, .unset, .unset, .unset, .unset, .unset, .unset, .unset, .unset, .unset, .unset, .unset, .unset, .unset]) rfl k) ?_
  refine own_to (T' := s₁) (mkF m 67 #[iv p0, iv p1, iv p2, iv p3, iv p4, iv p5, iv idx, iv tl, iv al, iv sm, iv na, iv vl, .unset, .unset, .unset, .unset, .unset, .unset, .unset, .unset, .unset, .unset, .unset, .unset, .unset, .unset, .unset, .unset, .unset] [(.int p1)]) (fun _ k => XS.iloadN X0.here hx rfl (hb hby at_66) rfl k) ?_
  refine own_to (T' := s₁) (mkF m 70 #[iv p0, iv p1, iv p2, iv p3, iv p4, iv p5, iv idx, iv tl, iv al, iv sm, iv na, iv vl, .unset, .unset, .unset, .unset, .unset, .unset, .unset, .unset, .unset, .unset, .unset, .unset, .unset, .unset, .unset, .unset, .unset] [(.int (255 : Int32)), (.int p1)]) (fun _ k => XS.sipush X0.here hx rfl (hb hby at_67) k) ?_
  refine own_to (T' := s₁) (mkF m 71 #[iv p0, iv p1, iv p2, iv p3, iv p4, iv p5, iv idx, iv tl, iv al, iv sm, iv na, iv vl, .unset, .unset, .unset, .unset, .unset, .unset, .unset, .unset, .unset, .unset, .unset, .unset, .unset, .unset, .unset, .unset, .unset] [(.int (p1 &&& (255 : Int32)))]) (fun _ k => XS.iand X0.here hx rfl (hb hby at_70) rfl k) ?_
  refine own_to (T' := s₁) (mkF m 72 #[iv p0, iv p1, iv p2, iv p3, iv p4, iv p5, iv idx, iv tl, iv al, iv sm, iv na, iv vl, .unset, .unset, .unset, .unset, .unset, .unset, .unset, .unset, .unset, .unset, .unset, .unset, .unset, .unset, .unset, .unset, .unset] [(.int ((p1 &&& (255 : Int32)).toUInt32.toUInt16.toUInt32.toInt32))]) (fun _ k => XS.i2c X0.here hx rfl (hb hby at_71) rfl k) ?_
  generalize ht0 : ((p1 &&& (255 : Int32)).toUInt32.toUInt16.toUInt32.toInt32) = t0
  have c8_t0 : own_C8 t0 := own_ch8 ht0
  refine own_to (T' := s₁) (mkF m 74 #[iv p0, iv p1, iv p2, iv p3, iv p4, iv p5, iv idx, iv tl, iv al, iv sm, iv na, iv vl, iv t0, .unset, .unset, .unset, .unset, .unset, .unset, .unset, .unset, .unset, .unset, .unset, .unset, .unset, .unset, .unset, .unset] []) (fun _ k => XS.istore X0.here hx rfl (hb hby at_72) rfl (l' := #[iv p0, iv p1, iv p2, iv p3, iv p4, iv p5, iv idx, iv tl, iv al, iv sm, iv na, iv vl, iv t0, .unset, .unset, .unset, .unset, .unset, .unset, .unset, .unset, .unset, .unset, .unset, .unset, .unset, .unset, .unset, .unset]) rfl k) ?_
  refine own_to (T' := s₁) (mkF m 75 #[iv p0, iv p1, iv p2, iv p3, iv p4, iv p5, iv idx, iv tl, iv al, iv sm, iv na, iv vl, iv t0, .unset, .unset, .unset, .unset, .unset, .unset, .unset, .unset, .unset, .unset, .unset, .unset, .unset, .unset, .unset, .unset] [(.int p1)]) (fun _ k => XS.iloadN X0.here hx rfl (hb hby at_74) rfl k) ?_
  refine own_to (T' := s₁) (mkF m 77 #[iv p0, iv p1, iv p2, iv p3, iv p4, iv p5, iv idx, iv tl, iv al, iv sm, iv na, iv vl, iv t0, .unset, .unset, .unset, .unset, .unset, .unset, .unset, .unset, .unset, .unset, .unset, .unset, .unset, .unset, .unset, .unset] [(.int (8 : Int32)), (.int p1)]) (fun _ k => XS.bipush X0.here hx rfl (hb hby at_75) k) ?_
  refine own_to (T' := s₁) (mkF m 78 #[iv p0, iv p1, iv p2, iv p3, iv p4, iv p5, iv idx, iv tl, iv al, iv sm, iv na, iv vl, iv t0, .unset, .unset, .unset, .unset, .unset, .unset, .unset, .unset, .unset, .unset, .unset, .unset, .unset, .unset, .unset, .unset] [(.int ((p1.toUInt32 >>> ((8 : Int32) &&& 31).toUInt32).toInt32))]) (fun _ k => XS.iushr X0.here hx rfl (hb hby at_77) rfl k) ?_
  refine own_to (T' := s₁) (mkF m 81 #[iv p0, iv p1, iv p2, iv p3, iv p4, iv p5, iv idx, iv tl, iv al, iv sm, iv na, iv vl, iv t0, .unset, .unset, .unset, .unset, .unset, .unset, .unset, .unset, .unset, .unset, .unset, .unset, .unset, .unset, .unset, .unset] [(.int (255 : Int32)), (.int ((p1.toUInt32 >>> ((8 : Int32) &&& 31).toUInt32).toInt32))]) (fun _ k => XS.sipush X0.here hx rfl (hb hby at_78) k) ?_
  refine own_to (T' := s₁) (mkF m 82 #[iv p0, iv p1, iv p2, iv p3, iv p4, iv p5, iv idx, iv tl, iv al, iv sm, iv na, iv vl, iv t0, .unset, .unset, .unset, .unset, .unset, .unset, .unset, .unset, .unset, .unset, .unset, .unset, .unset, .unset, .unset, .unset] [(.int (((p1.toUInt32 >>> ((8 : Int32) &&& 31).toUInt32).toInt32) &&& (255 : Int32)))]) (fun _ k => XS.iand X0.here hx rfl (hb hby at_81) rfl k) ?_
  refine own_to (T' := s₁) (mkF m 83 #[iv p0, iv p1, iv p2, iv p3, iv p4, iv p5, iv idx, iv tl, iv al, iv sm, iv na, iv vl, iv t0, .unset, .unset, .unset, .unset, .unset, .unset, .unset, .unset, .unset, .unset, .unset, .unset, .unset, .unset, .unset, .unset] [(.int ((((p1.toUInt32 >>> ((8 : Int32) &&& 31).toUInt32).toInt32) &&& (255 : Int32)).toUInt32.toUInt16.toUInt32.toInt32))]) (fun _ k => XS.i2c X0.here hx rfl (hb hby at_82) rfl k) ?_
  generalize ht1 : ((((p1.toUInt32 >>> ((8 : Int32) &&& 31).toUInt32).toInt32) &&& (255 : Int32)).toUInt32.toUInt16.toUInt32.toInt32) = t1
  have c8_t1 : own_C8 t1 := own_ch8 ht1
  refine own_to (T' := s₁) (mkF m 85 #[iv p0, iv p1, iv p2, iv p3, iv p4, iv p5, iv idx, iv tl, iv al, iv sm, iv na, iv vl, iv t0, iv t1, .unset, .unset, .unset, .unset, .unset, .unset, .unset, .unset, .unset, .unset, .unset, .unset, .unset, .unset, .unset] []) (fun _ k => XS.istore X0.here hx rfl (hb hby at_83) rfl (l' := #[iv p0, iv p1, iv p2, iv p3, iv p4, iv p5, iv idx, iv tl, iv al, iv sm, iv na, iv vl, iv t0, iv t1, .unset, .unset, .unset, .unset, .unset, .unset, .unset, .unset, .unset, .unset, .unset, .unset, .unset, .unset, .unset]) rfl k) ?_
  refine own_to (T' := s₁) (mkF m 86 #[iv p0, iv p1, iv p2, iv p3, iv p4, iv p5, iv idx, iv tl, iv al, iv sm, iv na, iv vl, iv t0, iv t1, .unset, .unset, .unset, .unset, .unset, .unset, .unset, .unset, .unset, .unset, .unset, .unset, .unset, .unset, .unset] [(.int p1)]) (fun _ k => XS.iloadN X0.here hx rfl (hb hby at_85) rfl k) ?_
  refine own_to (T' := s₁) (mkF m 88 #[iv p0, iv p1, iv p2, iv p3, iv p4, iv p5, iv idx, iv tl, iv al, iv sm, iv na, iv vl, iv t0, iv t1, .unset, .unset, .unset, .unset, .unset, .unset, .unset, .unset, .unset, .unset, .unset, .unset, .unset, .unset, .unset] [(.int (16 : Int32)), (.int p1)]) (fun _ k => XS.bipush X0.here hx rfl (hb hby at_86) k) ?_
  refine own_to (T' := s₁) (mkF m 89 #[iv p0, iv p1, iv p2, iv p3, iv p4, iv p5, iv idx, iv tl, iv al, iv sm, iv na, iv vl, iv t0, iv t1, .unset, .unset, .unset, .unset, .unset, .unset, .unset, .unset, .unset, .unset, .unset, .unset, .unset, .unset, .unset] [(.int ((p1.toUInt32 >>> ((16 : Int32) &&& 31).toUInt32).toInt32))]) (fun _ k => XS.iushr X0.here hx rfl (hb hby at_88) rfl k) ?_
  refine own_to (T' := s₁) (mkF m 92 #[iv p0, iv p1, iv p2, iv p3, iv p4, iv p5, iv idx, iv tl, iv al, iv sm, iv na, iv vl, iv t0, iv t1, .unset, .unset, .unset, .unset, .unset, .unset, .unset, .unset, .unset, .unset, .unset, .unset, .unset, .unset, .unset] [(.int (255 : Int32)), (.int ((p1.toUInt32 >>> ((16 : Int32) &&& 31).toUInt32).toInt32))]) (fun _ k => XS.sipush X0.here hx rfl (hb hby at_89) k) ?_
  refine own_to (T' := s₁) (mkF m 93 #[iv p0, iv p1, iv p2, iv p3, iv p4, iv p5, iv idx, iv tl, iv al, iv sm, iv na, iv vl, iv t0, iv t1, .unset, .unset, .unset, .unset, .unset, .unset, .unset, .unset, .unset, .unset, .unset, .unset, .unset, .unset, .unset] [(.int (((p1.toUInt32 >>> ((16 : Int32) &&& 31).toUInt32).toInt32) &&& (255 : Int32)))]) (fun _ k => XS.iand X0.here hx rfl (hb hby at_92) rfl k) ?_
  refine own_to (T' := s₁) (mkF m 94 #[iv p0, iv p1, iv p2, iv p3, iv p4, iv p5, iv idx, iv tl, iv al, iv sm, iv na, iv vl, iv t0, iv t1, .unset, .unset, .unset, .unset, .unset, .unset, .unset, .unset, .unset, .unset, .unset, .unset, .unset, .unset, .unset] [(.int ((((p1.toUInt32 >>> ((16 : Int32) &&& 31).toUInt32).toInt32) &&& (255 : Int32)).toUInt32.toUInt16.toUInt32.toInt32))]) (fun _ k => XS.i2c X0.here hx rfl (hb hby at_93) rfl k) ?_
  generalize ht2 : ((((p1.toUInt32 >>> ((16 : Int32) &&& 31).toUInt32).toInt32) &&& (255 : Int32)).toUInt32.toUInt16.toUInt32.toInt32) = t2
  have c8_t2 : own_C8 t2 := own_ch8 ht2
  refine own_to (T' := s₁) (mkF m 96 #[iv p0, iv p1, iv p2, iv p3, iv p4, iv p5, iv idx, iv tl, iv al, iv sm, iv na, iv vl, iv t0, iv t1, iv t2, .unset, .unset, .unset, .unset, .unset, .unset, .unset, .unset, .unset, .unset, .unset, .unset, .unset, .unset] []) (fun _ k => XS.istore X0.here hx rfl (hb hby at_94) rfl (l' := #[iv p0, iv p1, iv p2, iv p3, iv p4, iv p5, iv idx, iv tl, iv al, iv sm, iv na, iv vl, iv t0, iv t1, iv t2, .unset, .unset, .unset, .unset, .unset, .unset, .unset, .unset, .unset, .unset, .unset, .unset, .unset, .unset]) rfl k) ?_
  refine own_to (T' := s₁) (mkF m 97 #[iv p0, iv p1, iv p2, iv p3, iv p4, iv p5, iv idx, iv tl, iv al, iv sm, iv na, iv vl, iv t0, iv t1, iv t2, .unset, .unset, .unset, .unset, .unset, .unset, .unset, .unset, .unset, .unset, .unset, .unset, .unset, .unset] [(.int p2)]) (fun _ k => XS.iloadN X0.here hx rfl (hb hby at_96) rfl k) ?_
  refine own_to (T' := s₁) (mkF m 100 #[iv p0, iv p1, iv p2, iv p3, iv p4, iv p5, iv idx, iv tl, iv al, iv sm, iv na, iv vl, iv t0, iv t1, iv t2, .unset, .unset, .unset, .unset, .unset, .unset, .unset, .unset, .unset, .unset, .unset, .unset, .unset, .unset] [(.int (255 : Int32)), (.int p2)]) (fun _ k => XS.sipush X0.here hx rfl (hb hby at_97) k) ?_
  refine own_to (T' := s₁) (mkF m 101 #[iv p0, iv p1, iv p2, iv p3, iv p4, iv p5, iv idx, iv tl, iv al, iv sm, iv na, iv vl, iv t0, iv t1, iv t2, .unset, .unset, .unset, .unset, .unset, .unset, .unset, .unset, .unset, .unset, .unset, .unset, .unset, .unset] [(.int (p2 &&& (255 : Int32)))]) (fun _ k => XS.iand X0.here hx rfl (hb hby at_100) rfl k) ?_
  refine own_to (T' := s₁) (mkF m 102 #[iv p0, iv p1, iv p2, iv p3, iv p4, iv p5, iv idx, iv tl, iv al, iv sm, iv na, iv vl, iv t0, iv t1, iv t2, .unset, .unset, .unset, .unset, .unset, .unset, .unset, .unset, .unset, .unset, .unset, .unset, .unset, .unset] [(.int ((p2 &&& (255 : Int32)).toUInt32.toUInt16.toUInt32.toInt32))]) (fun _ k => XS.i2c X0.here hx rfl (hb hby at_101) rfl k) ?_
  generalize hq0 : ((p2 &&& (255 : Int32)).toUInt32.toUInt16.toUInt32.toInt32) = q0
  have c8_q0 : own_C8 q0 := own_ch8 hq0
  refine own_to (T' := s₁) (mkF m 104 #[iv p0, iv p1, iv p2, iv p3, iv p4, iv p5, iv idx, iv tl, iv al, iv sm, iv na, iv vl, iv t0, iv t1, iv t2, iv q0, .unset, .unset, .unset, .unset, .unset, .unset, .unset, .unset, .unset, .unset, .unset, .unset, .unset] []) (fun _ k => XS.istore X0.here hx rfl (hb hby at_102) rfl (l' := #[iv p0, iv p1, iv p2, iv p3, iv p4, iv p5, iv idx, iv tl, iv al, iv sm, iv na, iv vl, iv t0, iv t1, iv t2, iv q0, .unset, .unset, .unset, .unset, .unset, .unset, .unset, .unset, .unset, .unset, .unset, .unset, .unset]) rfl k) ?_
  refine own_to (T' := s₁) (mkF m 105 #[iv p0, iv p1, iv p2, iv p3, iv p4, iv p5, iv idx, iv tl, iv al, iv sm, iv na, iv vl, iv t0, iv t1, iv t2, iv q0, .unset, .unset, .unset, .unset, .unset, .unset, .unset, .unset, .unset, .unset, .unset, .unset, .unset] [(.int p2)]) (fun _ k => XS.iloadN X0.here hx rfl (hb hby at_104) rfl k) ?_
  refine own_to (T' := s₁) (mkF m 107 #[iv p0, iv p1, iv p2, iv p3, iv p4, iv p5, iv idx, iv tl, iv al, iv sm, iv na, iv vl, iv t0, iv t1, iv t2, iv q0, .unset, .unset, .unset, .unset, .unset, .unset, .unset, .unset, .unset, .unset, .unset, .unset, .unset] [(.int (8 : Int32)), (.int p2)]) (fun _ k => XS.bipush X0.here hx rfl (hb hby at_105) k) ?_
  refine own_to (T' := s₁) (mkF m 108 #[iv p0, iv p1, iv p2, iv p3, iv p4, iv p5, iv idx, iv tl, iv al, iv sm, iv na, iv vl, iv t0, iv t1, iv t2, iv q0, .unset, .unset, .unset, .unset, .unset, .unset, .unset, .unset, .unset, .unset, .unset, .unset, .unset] [(.int ((p2.toUInt32 >>> ((8 : Int32) &&& 31).toUInt32).toInt32))]) (fun _ k => XS.iushr X0.here hx rfl (hb hby at_107) rfl k) ?_
  refine own_to (T' := s₁) (mkF m 111 #[iv p0, iv p1, iv p2, iv p3, iv p4, iv p5, iv idx, iv tl, iv al, iv sm, iv na, iv vl, iv t0, iv t1, iv t2, iv q0, .unset, .unset, .unset, .unset, .unset, .unset, .unset, .unset, .unset, .unset, .unset, .unset, .unset] [(.int (255 : Int32)), (.int ((p2.toUInt32 >>> ((8 : Int32) &&& 31).toUInt32).toInt32))]) (fun _ k => XS.sipush X0.here hx rfl (hb hby at_108) k) ?_
  refine own_to (T' := s₁) (mkF m 112 #[iv p0, iv p1, iv p2, iv p3, iv p4, iv p5, iv idx, iv tl, iv al, iv sm, iv na, iv vl, iv t0, iv t1, iv t2, iv q0, .unset, .unset, .unset, .unset, .unset, .unset, .unset, .unset, .unset, .unset, .unset, .unset, .unset] [(.int (((p2.toUInt32 >>> ((8 : Int32) &&& 31).toUInt32).toInt32) &&& (255 : Int32)))]) (fun _ k => XS.iand X0.here hx rfl (hb hby at_111) rfl k) ?_
  refine own_to (T' := s₁) (mkF m 113 #[iv p0, iv p1, iv p2, iv p3, iv p4, iv p5, iv idx, iv tl, iv al, iv sm, iv na, iv vl, iv t0, iv t1, iv t2, iv q0, .unset, .unset, .unset, .unset, .unset, .unset, .unset, .unset, .unset, .unset, .unset, .unset, .unset] [(.int ((((p2.toUInt32 >>> ((8 : Int32) &&& 31).toUInt32).toInt32) &&& (255 : Int32)).toUInt32.toUInt16.toUInt32.toInt32))]) (fun _ k => XS.i2c X0.here hx rfl (hb hby at_112) rfl k) ?_
  generalize hq1 : ((((p2.toUInt32 >>> ((8 : Int32) &&& 31).toUInt32).toInt32) &&& (255 : Int32)).toUInt32.toUInt16.toUInt32.toInt32) = q1
  have c8_q1 : own_C8 q1 := own_ch8 hq1
  refine own_to (T' := s₁) (mkF m 115 #[iv p0, iv p1, iv p2, iv p3, iv p4, iv p5, iv idx, iv tl, iv al, iv sm, iv na, iv vl, iv t0, iv t1, iv t2, iv q0, iv q1, .unset, .unset, .unset, .unset, .unset, .unset, .unset, .unset, .unset, .unset, .unset, .unset] []) (fun _ k => XS.istore X0.here hx rfl (hb hby at_113) rfl (l' := #[iv p0, iv p1, iv p2, iv p3, iv p4, iv p5, iv idx, iv tl, iv al, iv sm, iv na, iv vl, iv t0, iv t1, iv t2, iv q0, iv q1, .unset, .unset, .unset, .unset, .unset, .unset, .unset, .unset, .unset, .unset, .unset, .unset]) rfl k) ?_
  refine own_to (T' := s₁) (mkF m 116 #[iv p0, iv p1, iv p2, iv p3, iv p4, iv p5, iv idx, iv tl, iv al, iv sm, iv na, iv vl, iv t0, iv t1, iv t2, iv q0, iv q1, .unset, .unset, .unset, .unset, .unset, .unset, .unset, .unset, .unset, .unset, .unset, .unset] [(.int p2)]) (fun _ k => XS.iloadN X0.here hx rfl (hb hby at_115) rfl k) ?_
  refine own_to (T' := s₁) (mkF m 118 #[iv p0, iv p1, iv p2, iv p3, iv p4, iv p5, iv idx, iv tl, iv al, iv sm, iv na, iv vl, iv t0, iv t1, iv t2, iv q0, iv q1, .unset, .unset, .unset, .unset, .unset, .unset, .unset, .unset, .unset, .unset, .unset, .unset] [(.int (16 : Int32)), (.int p2)]) (fun _ k => XS.bipush X0.here hx rfl (hb hby at_116) k) ?_
  refine own_to (T' := s₁) (mkF m 119 #[iv p0, iv p1, iv p2, iv p3, iv p4, iv p5, iv idx, iv tl, iv al, iv sm, iv na, iv vl, iv t0, iv t1, iv t2, iv q0, iv q1, .unset, .unset, .unset, .unset, .unset, .unset, .unset, .unset, .unset, .unset, .unset, .unset] [(.int ((p2.toUInt32 >>> ((16 : Int32) &&& 31).toUInt32).toInt32))]) (fun _ k => XS.iushr X0.here hx rfl (hb hby at_118) rfl k) ?_
  refine own_to (T' := s₁) (mkF m 122 #[iv p0, iv p1, iv p2, iv p3, iv p4, iv p5, iv idx, iv tl, iv al, iv sm, iv na, iv vl, iv t0, iv t1, iv t2, iv q0, iv q1, .unset, .unset, .unset, .unset, .unset, .unset, .unset, .unset, .unset, .unset, .unset, .unset] [(.int (255 : Int32)), (.int ((p2.toUInt32 >>> ((16 : Int32) &&& 31).toUInt32).toInt32))]) (fun _ k => XS.sipush X0.here hx rfl (hb hby at_119) k) ?_
  refine own_to (T' := s₁) (mkF m 123 #[iv p0, iv p1, iv p2, iv p3, iv p4, iv p5, iv idx, iv tl, iv al, iv sm, iv na, iv vl, iv t0, iv t1, iv t2, iv q0, iv q1, .unset, .unset, .unset, .unset, .unset, .unset, .unset, .unset, .unset, .unset, .unset, .unset] [(.int (((p2.toUInt32 >>> ((16 : Int32) &&& 31).toUInt32).toInt32) &&& (255 : Int32)))]) (fun _ k => XS.iand X0.here hx rfl (hb hby at_122) rfl k) ?_
  refine own_to (T' := s₁) (mkF m 124 #[iv p0, iv p1, iv p2, iv p3, iv p4, iv p5, iv idx, iv tl, iv al, iv sm, iv na, iv vl, iv t0, iv t1, iv t2, iv q0, iv q1, .unset, .unset, .unset, .unset, .unset, .unset, .unset, .unset, .unset, .unset, .unset, .unset] [(.int ((((p2.toUInt32 >>> ((16 : Int32) &&& 31).toUInt32).toInt32) &&& (255 : Int32)).toUInt32.toUInt16.toUInt32.toInt32))]) (fun _ k => XS.i2c X0.here hx rfl (hb hby at_123) rfl k) ?_
  generalize hq2 : ((((p2.toUInt32 >>> ((16 : Int32) &&& 31).toUInt32).toInt32) &&& (255 : Int32)).toUInt32.toUInt16.toUInt32.toInt32) = q2
  have c8_q2 : own_C8 q2 := own_ch8 hq2
  refine own_to (T' := s₁) (mkF m 126 #[iv p0, iv p1, iv p2, iv p3, iv p4, iv p5, iv idx, iv tl, iv al, iv sm, iv na, iv vl, iv t0, iv t1, iv t2, iv q0, iv q1, iv q2, .unset, .unset, .unset, .unset, .unset, .unset, .unset, .unset, .unset, .unset, .unset] []) (fun _ k => XS.istore X0.here hx rfl (hb hby at_124) rfl (l' := #[iv p0, iv p1, iv p2, iv p3, iv p4, iv p5, iv idx, iv tl, iv al, iv sm, iv na, iv vl, iv t0, iv t1, iv t2, iv q0, iv q1, iv q2, .unset, .unset, .unset, .unset, .unset, .unset, .unset, .unset, .unset, .unset, .unset]) rfl k) ?_
  refine own_to (T' := s₁) (mkF m 128 #[iv p0, iv p1, iv p2, iv p3, iv p4, iv p5, iv idx, iv tl, iv al, iv sm, iv na, iv vl, iv t0, iv t1, iv t2, iv q0, iv q1, iv q2, .unset, .unset, .unset, .unset, .unset, .unset, .unset, .unset, .unset, .unset, .unset] [(.int sm)]) (fun _ k => XS.iload X0.here hx rfl (hb hby at_126) rfl k) ?_
  suffices jn60 : ∀ u0 : Int32, (sm = (0 : Int32) → u0 = q0) → (¬ (sm = (0 : Int32)) → u0 = t0) → ∀ u1 : Int32, (sm = (0 : Int32) → u1 = q1) → (¬ (sm = (0 : Int32)) → u1 = t1) → ∀ u2 : Int32, (sm = (0 : Int32) → u2 = q2) → (¬ (sm = (0 : Int32)) → u2 = t2) → own_E p e below (own_FinH Z s (own_Q0 Z p0 p1 p2 p3 p4 p5 G1 aI aS aN aY aE h0 n0) room_1.cells room_1.slots) s₁ (mkF m 143 #[iv p0, iv p1, iv p2, iv p3, iv p4, iv p5, iv idx, iv tl, iv al, iv sm, iv na, iv vl, iv t0, iv t1, iv t2, iv u0, iv u1, iv u2, .unset, .unset, .unset, .unset, .unset, .unset, .unset, .unset, .unset, .unset, .unset] []) from by
    by_cases hsm2 : sm = (0 : Int32)
    · refine own_to (T' := s₁) (mkF m 143 #[iv p0, iv p1, iv p2, iv p3, iv p4, iv p5, iv idx, iv tl, iv al, iv sm, iv na, iv vl, iv t0, iv t1, iv t2, iv q0, iv q1, iv q2, .unset, .unset, .unset, .unset, .unset, .unset, .unset, .unset, .unset, .unset, .unset] []) (fun _ k => XS.ifYes X0.here hx rfl (pc0 := 128) (pc' := 143) rfl (hb hby at_128) rfl ((if0 _ _).trans (teq hsm2).1) (by decide) (by decide) k) ?_
      exact jn60 q0 (fun _ => rfl) (fun q => absurd hsm2 q) q1 (fun _ => rfl) (fun q => absurd hsm2 q) q2 (fun _ => rfl) (fun q => absurd hsm2 q)
    · refine own_to (T' := s₁) (mkF m 131 #[iv p0, iv p1, iv p2, iv p3, iv p4, iv p5, iv idx, iv tl, iv al, iv sm, iv na, iv vl, iv t0, iv t1, iv t2, iv q0, iv q1, iv q2, .unset, .unset, .unset, .unset, .unset, .unset, .unset, .unset, .unset, .unset, .unset] []) (fun _ k => XS.ifNo X0.here hx rfl (hb hby at_128) rfl ((if0 _ _).trans (feq hsm2).1) k) ?_
      refine own_to (T' := s₁) (mkF m 133 #[iv p0, iv p1, iv p2, iv p3, iv p4, iv p5, iv idx, iv tl, iv al, iv sm, iv na, iv vl, iv t0, iv t1, iv t2, iv q0, iv q1, iv q2, .unset, .unset, .unset, .unset, .unset, .unset, .unset, .unset, .unset, .unset, .unset] [(.int t0)]) (fun _ k => XS.iload X0.here hx rfl (hb hby at_131) rfl k) ?_
      refine own_to (T' := s₁) (mkF m 135 #[iv p0, iv p1, iv p2, iv p3, iv p4, iv p5, iv idx, iv tl, iv al, iv sm, iv na, iv vl, iv t0, iv t1, iv t2, iv t0, iv q1, iv q2, .unset, .unset, .unset, .unset, .unset, .unset, .unset, .unset, .unset, .unset, .unset] []) (fun _ k => XS.istore X0.here hx rfl (hb hby at_133) rfl (l' := #[iv p0, iv p1, iv p2, iv p3, iv p4, iv p5, iv idx, iv tl, iv al, iv sm, iv na, iv vl, iv t0, iv t1, iv t2, iv t0, iv q1, iv q2, .unset, .unset, .unset, .unset, .unset, .unset, .unset, .unset, .unset, .unset, .unset]) rfl k) ?_
      refine own_to (T' := s₁) (mkF m 137 #[iv p0, iv p1, iv p2, iv p3, iv p4, iv p5, iv idx, iv tl, iv al, iv sm, iv na, iv vl, iv t0, iv t1, iv t2, iv t0, iv q1, iv q2, .unset, .unset, .unset, .unset, .unset, .unset, .unset, .unset, .unset, .unset, .unset] [(.int t1)]) (fun _ k => XS.iload X0.here hx rfl (hb hby at_135) rfl k) ?_
      refine own_to (T' := s₁) (mkF m 139 #[iv p0, iv p1, iv p2, iv p3, iv p4, iv p5, iv idx, iv tl, iv al, iv sm, iv na, iv vl, iv t0, iv t1, iv t2, iv t0, iv t1, iv q2, .unset, .unset, .unset, .unset, .unset, .unset, .unset, .unset, .unset, .unset, .unset] []) (fun _ k => XS.istore X0.here hx rfl (hb hby at_137) rfl (l' := #[iv p0, iv p1, iv p2, iv p3, iv p4, iv p5, iv idx, iv tl, iv al, iv sm, iv na, iv vl, iv t0, iv t1, iv t2, iv t0, iv t1, iv q2, .unset, .unset, .unset, .unset, .unset, .unset, .unset, .unset, .unset, .unset, .unset]) rfl k) ?_
      refine own_to (T' := s₁) (mkF m 141 #[iv p0, iv p1, iv p2, iv p3, iv p4, iv p5, iv idx, iv tl, iv al, iv sm, iv na, iv vl, iv t0, iv t1, iv t2, iv t0, iv t1, iv q2, .unset, .unset, .unset, .unset, .unset, .unset, .unset, .unset, .unset, .unset, .unset] [(.int t2)]) (fun _ k => XS.iload X0.here hx rfl (hb hby at_139) rfl k) ?_
      refine own_to (T' := s₁) (mkF m 143 #[iv p0, iv p1, iv p2, iv p3, iv p4, iv p5, iv idx, iv tl, iv al, iv sm, iv na, iv vl, iv t0, iv t1, iv t2, iv t0, iv t1, iv t2, .unset, .unset, .unset, .unset, .unset, .unset, .unset, .unset, .unset, .unset, .unset] []) (fun _ k => XS.istore X0.here hx rfl (hb hby at_141) rfl (l' := #[iv p0, iv p1, iv p2, iv p3, iv p4, iv p5, iv idx, iv tl, iv al, iv sm, iv na, iv vl, iv t0, iv t1, iv t2, iv t0, iv t1, iv t2, .unset, .unset, .unset, .unset, .unset, .unset, .unset, .unset, .unset, .unset, .unset]) rfl k) ?_
      exact jn60 t0 (fun q => absurd q hsm2) (fun _ => rfl) t1 (fun q => absurd q hsm2) (fun _ => rfl) t2 (fun q => absurd q hsm2) (fun _ => rfl)
  intro u0 hu0t hu0f u1 hu1t hu1f u2 hu2t hu2f
  have c8_u0 : own_C8 u0 := own_if8 hu0t hu0f c8_q0 c8_t0
  have c8_u1 : own_C8 u1 := own_if8 hu1t hu1f c8_q1 c8_t1
  have c8_u2 : own_C8 u2 := own_if8 hu2t hu2f c8_q2 c8_t2
  refine own_to (T' := s₁) (mkF m 144 #[iv p0, iv p1, iv p2, iv p3, iv p4, iv p5, iv idx, iv tl, iv al, iv sm, iv na, iv vl, iv t0, iv t1, iv t2, iv u0, iv u1, iv u2, .unset, .unset, .unset, .unset, .unset, .unset, .unset, .unset, .unset, .unset, .unset] [(.int p3)]) (fun _ k => XS.iloadN X0.here hx rfl (hb hby at_143) rfl k) ?_
  refine own_to (T' := s₁) (mkF m 147 #[iv p0, iv p1, iv p2, iv p3, iv p4, iv p5, iv idx, iv tl, iv al, iv sm, iv na, iv vl, iv t0, iv t1, iv t2, iv u0, iv u1, iv u2, .unset, .unset, .unset, .unset, .unset, .unset, .unset, .unset, .unset, .unset, .unset] [(.int (255 : Int32)), (.int p3)]) (fun _ k => XS.sipush X0.here hx rfl (hb hby at_144) k) ?_
  refine own_to (T' := s₁) (mkF m 148 #[iv p0, iv p1, iv p2, iv p3, iv p4, iv p5, iv idx, iv tl, iv al, iv sm, iv na, iv vl, iv t0, iv t1, iv t2, iv u0, iv u1, iv u2, .unset, .unset, .unset, .unset, .unset, .unset, .unset, .unset, .unset, .unset, .unset] [(.int (p3 &&& (255 : Int32)))]) (fun _ k => XS.iand X0.here hx rfl (hb hby at_147) rfl k) ?_
  refine own_to (T' := s₁) (mkF m 149 #[iv p0, iv p1, iv p2, iv p3, iv p4, iv p5, iv idx, iv tl, iv al, iv sm, iv na, iv vl, iv t0, iv t1, iv t2, iv u0, iv u1, iv u2, .unset, .unset, .unset, .unset, .unset, .unset, .unset, .unset, .unset, .unset, .unset] [(.int ((p3 &&& (255 : Int32)).toUInt32.toUInt16.toUInt32.toInt32))]) (fun _ k => XS.i2c X0.here hx rfl (hb hby at_148) rfl k) ?_
  generalize hv0 : ((p3 &&& (255 : Int32)).toUInt32.toUInt16.toUInt32.toInt32) = v0
  have c8_v0 : own_C8 v0 := own_ch8 hv0
  refine own_to (T' := s₁) (mkF m 151 #[iv p0, iv p1, iv p2, iv p3, iv p4, iv p5, iv idx, iv tl, iv al, iv sm, iv na, iv vl, iv t0, iv t1, iv t2, iv u0, iv u1, iv u2, iv v0, .unset, .unset, .unset, .unset, .unset, .unset, .unset, .unset, .unset, .unset] []) (fun _ k => XS.istore X0.here hx rfl (hb hby at_149) rfl (l' := #[iv p0, iv p1, iv p2, iv p3, iv p4, iv p5, iv idx, iv tl, iv al, iv sm, iv na, iv vl, iv t0, iv t1, iv t2, iv u0, iv u1, iv u2, iv v0, .unset, .unset, .unset, .unset, .unset, .unset, .unset, .unset, .unset, .unset]) rfl k) ?_
  refine own_to (T' := s₁) (mkF m 152 #[iv p0, iv p1, iv p2, iv p3, iv p4, iv p5, iv idx, iv tl, iv al, iv sm, iv na, iv vl, iv t0, iv t1, iv t2, iv u0, iv u1, iv u2, iv v0, .unset, .unset, .unset, .unset, .unset, .unset, .unset, .unset, .unset, .unset] [(.int p3)]) (fun _ k => XS.iloadN X0.here hx rfl (hb hby at_151) rfl k) ?_
  refine own_to (T' := s₁) (mkF m 154 #[iv p0, iv p1, iv p2, iv p3, iv p4, iv p5, iv idx, iv tl, iv al, iv sm, iv na, iv vl, iv t0, iv t1, iv t2, iv u0, iv u1, iv u2, iv v0, .unset, .unset, .unset, .unset, .unset, .unset, .unset, .unset, .unset, .unset] [(.int (8 : Int32)), (.int p3)]) (fun _ k => XS.bipush X0.here hx rfl (hb hby at_152) k) ?_
  refine own_to (T' := s₁) (mkF m 155 #[iv p0, iv p1, iv p2, iv p3, iv p4, iv p5, iv idx, iv tl, iv al, iv sm, iv na, iv vl, iv t0, iv t1, iv t2, iv u0, iv u1, iv u2, iv v0, .unset, .unset, .unset, .unset, .unset, .unset, .unset, .unset, .unset, .unset] [(.int ((p3.toUInt32 >>> ((8 : Int32) &&& 31).toUInt32).toInt32))]) (fun _ k => XS.iushr X0.here hx rfl (hb hby at_154) rfl k) ?_
  refine own_to (T' := s₁) (mkF m 158 #[iv p0, iv p1, iv p2, iv p3, iv p4, iv p5, iv idx, iv tl, iv al, iv sm, iv na, iv vl, iv t0, iv t1, iv t2, iv u0, iv u1, iv u2, iv v0, .unset, .unset, .unset, .unset, .unset, .unset, .unset, .unset, .unset, .unset] [(.int (255 : Int32)), (.int ((p3.toUInt32 >>> ((8 : Int32) &&& 31).toUInt32).toInt32))]) (fun _ k => XS.sipush X0.here hx rfl (hb hby at_155) k) ?_
  refine own_to (T' := s₁) (mkF m 159 #[iv p0, iv p1, iv p2, iv p3, iv p4, iv p5, iv idx, iv tl, iv al, iv sm, iv na, iv vl, iv t0, iv t1, iv t2, iv u0, iv u1, iv u2, iv v0, .unset, .unset, .unset, .unset, .unset, .unset, .unset, .unset, .unset, .unset] [(.int (((p3.toUInt32 >>> ((8 : Int32) &&& 31).toUInt32).toInt32) &&& (255 : Int32)))]) (fun _ k => XS.iand X0.here hx rfl (hb hby at_158) rfl k) ?_
  refine own_to (T' := s₁) (mkF m 160 #[iv p0, iv p1, iv p2, iv p3, iv p4, iv p5, iv idx, iv tl, iv al, iv sm, iv na, iv vl, iv t0, iv t1, iv t2, iv u0, iv u1, iv u2, iv v0, .unset, .unset, .unset, .unset, .unset, .unset, .unset, .unset, .unset, .unset] [(.int ((((p3.toUInt32 >>> ((8 : Int32) &&& 31).toUInt32).toInt32) &&& (255 : Int32)).toUInt32.toUInt16.toUInt32.toInt32))]) (fun _ k => XS.i2c X0.here hx rfl (hb hby at_159) rfl k) ?_
  generalize hv1 : ((((p3.toUInt32 >>> ((8 : Int32) &&& 31).toUInt32).toInt32) &&& (255 : Int32)).toUInt32.toUInt16.toUInt32.toInt32) = v1
  have c8_v1 : own_C8 v1 := own_ch8 hv1
  refine own_to (T' := s₁) (mkF m 162 #[iv p0, iv p1, iv p2, iv p3, iv p4, iv p5, iv idx, iv tl, iv al, iv sm, iv na, iv vl, iv t0, iv t1, iv t2, iv u0, iv u1, iv u2, iv v0, iv v1, .unset, .unset, .unset, .unset, .unset, .unset, .unset, .unset, .unset] []) (fun _ k => XS.istore X0.here hx rfl (hb hby at_160) rfl (l' := #[iv p0, iv p1, iv p2, iv p3, iv p4, iv p5, iv idx, iv tl, iv al, iv sm, iv na, iv vl, iv t0, iv t1, iv t2, iv u0, iv u1, iv u2, iv v0, iv v1, .unset, .unset, .unset, .unset, .unset, .unset, .unset, .unset, .unset]) rfl k) ?_
  refine own_to (T' := s₁) (mkF m 163 #[iv p0, iv p1, iv p2, iv p3, iv p4, iv p5, iv idx, iv tl, iv al, iv sm, iv na, iv vl, iv t0, iv t1, iv t2, iv u0, iv u1, iv u2, iv v0, iv v1, .unset, .unset, .unset, .unset, .unset, .unset, .unset, .unset, .unset] [(.int p3)]) (fun _ k => XS.iloadN X0.here hx rfl (hb hby at_162) rfl k) ?_
  refine own_to (T' := s₁) (mkF m 165 #[iv p0, iv p1, iv p2, iv p3, iv p4, iv p5, iv idx, iv tl, iv al, iv sm, iv na, iv vl, iv t0, iv t1, iv t2, iv u0, iv u1, iv u2, iv v0, iv v1, .unset, .unset, .unset, .unset, .unset, .unset, .unset, .unset, .unset] [(.int (16 : Int32)), (.int p3)]) (fun _ k => XS.bipush X0.here hx rfl (hb hby at_163) k) ?_
  refine own_to (T' := s₁) (mkF m 166 #[iv p0, iv p1, iv p2, iv p3, iv p4, iv p5, iv idx, iv tl, iv al, iv sm, iv na, iv vl, iv t0, iv t1, iv t2, iv u0, iv u1, iv u2, iv v0, iv v1, .unset, .unset, .unset, .unset, .unset, .unset, .unset, .unset, .unset] [(.int ((p3.toUInt32 >>> ((16 : Int32) &&& 31).toUInt32).toInt32))]) (fun _ k => XS.iushr X0.here hx rfl (hb hby at_165) rfl k) ?_
  refine own_to (T' := s₁) (mkF m 169 #[iv p0, iv p1, iv p2, iv p3, iv p4, iv p5, iv idx, iv tl, iv al, iv sm, iv na, iv vl, iv t0, iv t1, iv t2, iv u0, iv u1, iv u2, iv v0, iv v1, .unset, .unset, .unset, .unset, .unset, .unset, .unset, .unset, .unset] [(.int (255 : Int32)), (.int ((p3.toUInt32 >>> ((16 : Int32) &&& 31).toUInt32).toInt32))]) (fun _ k => XS.sipush X0.here hx rfl (hb hby at_166) k) ?_
  refine own_to (T' := s₁) (mkF m 170 #[iv p0, iv p1, iv p2, iv p3, iv p4, iv p5, iv idx, iv tl, iv al, iv sm, iv na, iv vl, iv t0, iv t1, iv t2, iv u0, iv u1, iv u2, iv v0, iv v1, .unset, .unset, .unset, .unset, .unset, .unset, .unset, .unset, .unset] [(.int (((p3.toUInt32 >>> ((16 : Int32) &&& 31).toUInt32).toInt32) &&& (255 : Int32)))]) (fun _ k => XS.iand X0.here hx rfl (hb hby at_169) rfl k) ?_
  refine own_to (T' := s₁) (mkF m 171 #[iv p0, iv p1, iv p2, iv p3, iv p4, iv p5, iv idx, iv tl, iv al, iv sm, iv na, iv vl, iv t0, iv t1, iv t2, iv u0, iv u1, iv u2, iv v0, iv v1, .unset, .unset, .unset, .unset, .unset, .unset, .unset, .unset, .unset] [(.int ((((p3.toUInt32 >>> ((16 : Int32) &&& 31).toUInt32).toInt32) &&& (255 : Int32)).toUInt32.toUInt16.toUInt32.toInt32))]) (fun _ k => XS.i2c X0.here hx rfl (hb hby at_170) rfl k) ?_
  generalize hv2 : ((((p3.toUInt32 >>> ((16 : Int32) &&& 31).toUInt32).toInt32) &&& (255 : Int32)).toUInt32.toUInt16.toUInt32.toInt32) = v2
  have c8_v2 : own_C8 v2 := own_ch8 hv2
  refine own_to (T' := s₁) (mkF m 173 #[iv p0, iv p1, iv p2, iv p3, iv p4, iv p5, iv idx, iv tl, iv al, iv sm, iv na, iv vl, iv t0, iv t1, iv t2, iv u0, iv u1, iv u2, iv v0, iv v1, iv v2, .unset, .unset, .unset, .unset, .unset, .unset, .unset, .unset] []) (fun _ k => XS.istore X0.here hx rfl (hb hby at_171) rfl (l' := #[iv p0, iv p1, iv p2, iv p3, iv p4, iv p5, iv idx, iv tl, iv al, iv sm, iv na, iv vl, iv t0, iv t1, iv t2, iv u0, iv u1, iv u2, iv v0, iv v1, iv v2, .unset, .unset, .unset, .unset, .unset, .unset, .unset, .unset]) rfl k) ?_
  refine own_to (T' := s₁) (mkF m 175 #[iv p0, iv p1, iv p2, iv p3, iv p4, iv p5, iv idx, iv tl, iv al, iv sm, iv na, iv vl, iv t0, iv t1, iv t2, iv u0, iv u1, iv u2, iv v0, iv v1, iv v2, .unset, .unset, .unset, .unset, .unset, .unset, .unset, .unset] [(.int tl)]) (fun _ k => XS.iload X0.here hx rfl (hb hby at_173) rfl k) ?_
  refine own_to (T' := s₁) (mkF m 177 #[iv p0, iv p1, iv p2, iv p3, iv p4, iv p5, iv idx, iv tl, iv al, iv sm, iv na, iv vl, iv t0, iv t1, iv t2, iv u0, iv u1, iv u2, iv v0, iv v1, iv v2, .unset, .unset, .unset, .unset, .unset, .unset, .unset, .unset] [(.int t0), (.int tl)]) (fun _ k => XS.iload X0.here hx rfl (hb hby at_175) rfl k) ?_
  refine own_to (T' := s₁) (mkF m 179 #[iv p0, iv p1, iv p2, iv p3, iv p4, iv p5, iv idx, iv tl, iv al, iv sm, iv na, iv vl, iv t0, iv t1, iv t2, iv u0, iv u1, iv u2, iv v0, iv v1, iv v2, .unset, .unset, .unset, .unset, .unset, .unset, .unset, .unset] [(.int t1), (.int t0), (.int tl)]) (fun _ k => XS.iload X0.here hx rfl (hb hby at_177) rfl k) ?_
  refine own_to (T' := s₁) (mkF m 181 #[iv p0, iv p1, iv p2, iv p3, iv p4, iv p5, iv idx, iv tl, iv al, iv sm, iv na, iv vl, iv t0, iv t1, iv t2, iv u0, iv u1, iv u2, iv v0, iv v1, iv v2, .unset, .unset, .unset, .unset, .unset, .unset, .unset, .unset] [(.int t2), (.int t1), (.int t0), (.int tl)]) (fun _ k => XS.iload X0.here hx rfl (hb hby at_179) rfl k) ?_
  have KP0 := KP
  obtain ⟨_, _, ⟨T61, L61, k61, n61⟩, -, X61, hS61, gr61, ⟨Lc61, hQ61, l61, y61, z61, CR61⟩, st61⟩ := callSS (s := s.setVm s.vm) X0 hx (y := (⟨"com/example/ianus/ianus/TokenIsPinLaw", "str", "(ICCC)Ljava/lang/String;"⟩ : MethodName)) hown (mvT hZ (hw _ (List.mem_of_getElem? (i := 0) rfl))) (mvT hZ (hw _ (List.mem_of_getElem? (i := 1) rfl))) (mvT hZ (hw _ (List.mem_of_getElem? (i := 2) rfl))) (mvT hZ (hw _ (List.mem_of_getElem? (i := 3) rfl))) (by decide) (backOfSH (s := s) (vm0 := s.vm) (W := 0) (own_rmST l Z a0 hw [] tl t0 t1 t2 G1 h0 n0 (Nat.le_trans Z0 KP.1) OL h4tl c8_t0 c8_t1 c8_t2 O2 P5) hZ (hw _ (List.mem_of_getElem? (i := 3) rfl)) (hw _ (List.mem_of_getElem? (i := 2) rfl)) (by decide) (by decide) hEW CH) (g := (mkF m 181 #[iv p0, iv p1, iv p2, iv p3, iv p4, iv p5, iv idx, iv tl, iv al, iv sm, iv na, iv vl, iv t0, iv t1, iv t2, iv u0, iv u1, iv u2, iv v0, iv v1, iv v2, .unset, .unset, .unset, .unset, .unset, .unset, .unset, .unset] [(.int t2), (.int t1), (.int t0), (.int tl)])) rfl (by rw [hml]; rfl) (argsL := [(.int tl), (.int t0), (.int t1), (.int t2)]) (rest := []) (lenOf own_pd3 rfl) rfl (by show 2 * 0 + _ ≤ _; exact Nat.le_of_eq rfl) (hb hby at_181) (fun _ _ => ⟨rfl, e0, (by decide : 0 + 6 ≤ _), (by decide : 0 + 12 ≤ _)⟩)
  dsimp only [Pt.U, Pt.locs, Pt.cells, Pt.slots] at X61 hS61 gr61 l61 y61 z61 CR61 st61 hQ61
  subst l61 y61 z61
  obtain ⟨o_tx, t_tx, kb_tx, rfl, N61q, K61, ge_o_tx, sz0_o_tx, S_tx⟩ := hQ61
  have N61 := Fr.app N0 N61q
  obtain ⟨X61, hS, hZ, hown⟩ := rebS hS (hk1 : _ ≤ (h0).size) X61 hS61 (by rw [e0] at gr61; exact gr61) hZ hown
  have OL := OL.keep K61 all0
  have KP := KP.trans K61 all0
  have hk1 : T61.heap.size ≤ T61.heap.size := Nat.le_refl _
  have CHR := CHR.trans CR61
  have CH := CR61.1
  refine own_via (mkF m 184 #[iv p0, iv p1, iv p2, iv p3, iv p4, iv p5, iv idx, iv tl, iv al, iv sm, iv na, iv vl, iv t0, iv t1, iv t2, iv u0, iv u1, iv u2, iv v0, iv v1, iv v2, .unset, .unset, .unset, .unset, .unset, .unset, .unset, .unset] [(.ref o_tx)]) st61 ?_
  have sz_o_tx : h0.size ≤ o_tx := Nat.le_trans KP0.1 sz0_o_tx
  refine own_to (T' := T61) (mkF m 186 #[iv p0, iv p1, iv p2, iv p3, iv p4, iv p5, iv idx, iv tl, iv al, iv sm, iv na, iv vl, iv t0, iv t1, iv t2, iv u0, iv u1, iv u2, iv v0, iv v1, iv v2, rv o_tx, .unset, .unset, .unset, .unset, .unset, .unset, .unset] []) (fun _ k => XS.astore X61.here hx rfl (hb hby at_184) rfl rfl (l' := #[iv p0, iv p1, iv p2, iv p3, iv p4, iv p5, iv idx, iv tl, iv al, iv sm, iv na, iv vl, iv t0, iv t1, iv t2, iv u0, iv u1, iv u2, iv v0, iv v1, iv v2, rv o_tx, .unset, .unset, .unset, .unset, .unset, .unset, .unset]) rfl k) ?_
  refine own_to (T' := T61) (mkF m 188 #[iv p0, iv p1, iv p2, iv p3, iv p4, iv p5, iv idx, iv tl, iv al, iv sm, iv na, iv vl, iv t0, iv t1, iv t2, iv u0, iv u1, iv u2, iv v0, iv v1, iv v2, rv o_tx, .unset, .unset, .unset, .unset, .unset, .unset, .unset] [(.int vl)]) (fun _ k => XS.iload X61.here hx rfl (hb hby at_186) rfl k) ?_
  refine own_to (T' := T61) (mkF m 190 #[iv p0, iv p1, iv p2, iv p3, iv p4, iv p5, iv idx, iv tl, iv al, iv sm, iv na, iv vl, iv t0, iv t1, iv t2, iv u0, iv u1, iv u2, iv v0, iv v1, iv v2, rv o_tx, .unset, .unset, .unset, .unset, .unset, .unset, .unset] [(.int v0), (.int vl)]) (fun _ k => XS.iload X61.here hx rfl (hb hby at_188) rfl k) ?_
  refine own_to (T' := T61) (mkF m 192 #[iv p0, iv p1, iv p2, iv p3, iv p4, iv p5, iv idx, iv tl, iv al, iv sm, iv na, iv vl, iv t0, iv t1, iv t2, iv u0, iv u1, iv u2, iv v0, iv v1, iv v2, rv o_tx, .unset, .unset, .unset, .unset, .unset, .unset, .unset] [(.int v1), (.int v0), (.int vl)]) (fun _ k => XS.iload X61.here hx rfl (hb hby at_190) rfl k) ?_
  refine own_to (T' := T61) (mkF m 194 #[iv p0, iv p1, iv p2, iv p3, iv p4, iv p5, iv idx, iv tl, iv al, iv sm, iv na, iv vl, iv t0, iv t1, iv t2, iv u0, iv u1, iv u2, iv v0, iv v1, iv v2, rv o_tx, .unset, .unset, .unset, .unset, .unset, .unset, .unset] [(.int v2), (.int v1), (.int v0), (.int vl)]) (fun _ k => XS.iload X61.here hx rfl (hb hby at_192) rfl k) ?_
  have KP0 := KP
  have lt0_o_tx := S_tx.lt
  have lt0_t_tx := S_tx.ltT
  obtain ⟨_, _, ⟨T62, L62, k62, n62⟩, -, X62, hS62, gr62, ⟨Lc62, hQ62, l62, y62, z62, CR62⟩, st62⟩ := callSS (s := s.setVm T61.vm) X61 hx (y := (⟨"com/example/ianus/ianus/TokenIsPinLaw", "str", "(ICCC)Ljava/lang/String;"⟩ : MethodName)) hown (mvT hZ (hw _ (List.mem_of_getElem? (i := 0) rfl))) (mvT hZ (hw _ (List.mem_of_getElem? (i := 1) rfl))) (mvT hZ (hw _ (List.mem_of_getElem? (i := 2) rfl))) (mvT hZ (hw _ (List.mem_of_getElem? (i := 3) rfl))) (by decide) (backOfSH (s := s) (vm0 := T61.vm) (W := 0) (own_rmST l Z a0 hw [] vl v0 v1 v2 G1 T61.heap n0 (Nat.le_trans Z0 KP.1) OL h4vl c8_v0 c8_v1 c8_v2 O2 P5) hZ (hw _ (List.mem_of_getElem? (i := 3) rfl)) (hw _ (List.mem_of_getElem? (i := 2) rfl)) (by decide) (by decide) hEW CH) (g := (mkF m 194 #[iv p0, iv p1, iv p2, iv p3, iv p4, iv p5, iv idx, iv tl, iv al, iv sm, iv na, iv vl, iv t0, iv t1, iv t2, iv u0, iv u1, iv u2, iv v0, iv v1, iv v2, rv o_tx, .unset, .unset, .unset, .unset, .unset, .unset, .unset] [(.int v2), (.int v1), (.int v0), (.int vl)])) rfl (by rw [hml]; rfl) (argsL := [(.int vl), (.int v0), (.int v1), (.int v2)]) (rest := []) (lenOf own_pd3 rfl) rfl (by show 2 * 0 + _ ≤ _; exact Nat.le_of_eq rfl) (hb hby at_194) (fun _ _ => ⟨rfl, rfl, (by decide : 6 + 6 ≤ _), (by decide : 12 + 12 ≤ _)⟩)
  dsimp only [Pt.U, Pt.locs, Pt.cells, Pt.slots] at X62 hS62 gr62 l62 y62 z62 CR62 st62 hQ62
  subst l62 y62 z62
  obtain ⟨o_vx, t_vx, kb_vx, rfl, N62q, K62, ge_o_vx, sz0_o_vx, S_vx⟩ := hQ62
  have N62 := Fr.app N61 N62q
  obtain ⟨X62, hS, hZ, hown⟩ := rebS hS (hk1 : _ ≤ (T61.heap).size) X62 hS62 (gr62) hZ hown
  have OL := OL.keep K62 all0
  have KP := KP.trans K62 all0
  have S_tx := S_tx.keep K62 nin0 nin0
  have hk1 : T62.heap.size ≤ T62.heap.size := Nat.le_refl _
  have CHR := CHR.trans CR62
  have CH := CR62.1
  refine own_via (mkF m 197 #[iv p0, iv p1, iv p2, iv p3, iv p4, iv p5, iv idx, iv tl, iv al, iv sm, iv na, iv vl, iv t0, iv t1, iv t2, iv u0, iv u1, iv u2, iv v0, iv v1, iv v2, rv o_tx, .unset, .unset, .unset, .unset, .unset, .unset, .unset] [(.ref o_vx)]) st62 ?_
  have sz_o_vx : h0.size ≤ o_vx := Nat.le_trans KP0.1 sz0_o_vx
  have ne_o_tx_o_vx : o_tx ≠ o_vx := Nat.ne_of_lt (Nat.lt_of_lt_of_le lt0_o_tx sz0_o_vx)
  have ne_t_tx_o_vx : t_tx ≠ o_vx := Nat.ne_of_lt (Nat.lt_of_lt_of_le lt0_t_tx sz0_o_vx)
  refine own_to (T' := T62) (mkF m 199 #[iv p0, iv p1, iv p2, iv p3, iv p4, iv p5, iv idx, iv tl, iv al, iv sm, iv na, iv vl, iv t0, iv t1, iv t2, iv u0, iv u1, iv u2, iv v0, iv v1, iv v2, rv o_tx, rv o_vx, .unset, .unset, .unset, .unset, .unset, .unset] []) (fun _ k => XS.astore X62.here hx rfl (hb hby at_197) rfl rfl (l' := #[iv p0, iv p1, iv p2, iv p3, iv p4, iv p5, iv idx, iv tl, iv al, iv sm, iv na, iv vl, iv t0, iv t1, iv t2, iv u0, iv u1, iv u2, iv v0, iv v1, iv v2, rv o_tx, rv o_vx, .unset, .unset, .unset, .unset, .unset, .unset]) rfl k) ?_
  rcases own_01' hnat hnaf with q | q
  · subst q
    refine own_to (T' := T62) (mkF m 201 #[iv p0, iv p1, iv p2, iv p3, iv p4, iv p5, iv idx, iv tl, iv al, iv sm, iv 0, iv vl, iv t0, iv t1, iv t2, iv u0, iv u1, iv u2, iv v0, iv v1, iv v2, rv o_tx, rv o_vx, .unset, .unset, .unset, .unset, .unset, .unset] [(.int (0 : Int32))]) (fun _ k => XS.iload X62.here hx rfl (hb hby at_199) rfl k) ?_
    refine own_to (T' := T62) (mkF m 208 #[iv p0, iv p1, iv p2, iv p3, iv p4, iv p5, iv idx, iv tl, iv al, iv sm, iv 0, iv vl, iv t0, iv t1, iv t2, iv u0, iv u1, iv u2, iv v0, iv v1, iv v2, rv o_tx, rv o_vx, .unset, .unset, .unset, .unset, .unset, .unset] []) (fun _ k => XS.ifYes X62.here hx rfl (pc0 := 201) (pc' := 208) rfl (hb hby at_201) rfl ((if0 _ _).trans (teq (by decide : (0 : Int32) = (0 : Int32))).1) (by decide) (by decide) k) ?_
    refine own_to (T' := T62) (mkF m 210 #[iv p0, iv p1, iv p2, iv p3, iv p4, iv p5, iv idx, iv tl, iv al, iv sm, iv 0, iv vl, iv t0, iv t1, iv t2, iv u0, iv u1, iv u2, iv v0, iv v1, iv v2, rv o_tx, rv o_vx, .unset, .unset, .unset, .unset, .unset, .unset] [(.int al)]) (fun _ k => XS.iload X62.here hx rfl (hb hby at_208) rfl k) ?_
    refine own_to (T' := T62) (mkF m 212 #[iv p0, iv p1, iv p2, iv p3, iv p4, iv p5, iv idx, iv tl, iv al, iv sm, iv 0, iv vl, iv t0, iv t1, iv t2, iv u0, iv u1, iv u2, iv v0, iv v1, iv v2, rv o_tx, rv o_vx, .unset, .unset, .unset, .unset, .unset, .unset] [(.int u0), (.int al)]) (fun _ k => XS.iload X62.here hx rfl (hb hby at_210) rfl k) ?_
    refine own_to (T' := T62) (mkF m 214 #[iv p0, iv p1, iv p2, iv p3, iv p4, iv p5, iv idx, iv tl, iv al, iv sm, iv 0, iv vl, iv t0, iv t1, iv t2, iv u0, iv u1, iv u2, iv v0, iv v1, iv v2, rv o_tx, rv o_vx, .unset, .unset, .unset, .unset, .unset, .unset] [(.int u1), (.int u0), (.int al)]) (fun _ k => XS.iload X62.here hx rfl (hb hby at_212) rfl k) ?_
    refine own_to (T' := T62) (mkF m 216 #[iv p0, iv p1, iv p2, iv p3, iv p4, iv p5, iv idx, iv tl, iv al, iv sm, iv 0, iv vl, iv t0, iv t1, iv t2, iv u0, iv u1, iv u2, iv v0, iv v1, iv v2, rv o_tx, rv o_vx, .unset, .unset, .unset, .unset, .unset, .unset] [(.int u2), (.int u1), (.int u0), (.int al)]) (fun _ k => XS.iload X62.here hx rfl (hb hby at_214) rfl k) ?_
    have KP0 := KP
    have lt0_o_tx := S_tx.lt
    have lt0_t_tx := S_tx.ltT
    have lt0_o_vx := S_vx.lt
    have lt0_t_vx := S_vx.ltT
    obtain ⟨_, _, ⟨T63, L63, k63, n63⟩, -, X63, hS63, gr63, ⟨Lc63, hQ63, l63, y63, z63, CR63⟩, st63⟩ := callSS (s := s.setVm T62.vm) X62 hx (y := (⟨"com/example/ianus/ianus/TokenIsPinLaw", "str", "(ICCC)Ljava/lang/String;"⟩ : MethodName)) hown (mvT hZ (hw _ (List.mem_of_getElem? (i := 0) rfl))) (mvT hZ (hw _ (List.mem_of_getElem? (i := 1) rfl))) (mvT hZ (hw _ (List.mem_of_getElem? (i := 2) rfl))) (mvT hZ (hw _ (List.mem_of_getElem? (i := 3) rfl))) (by decide) (backOfSH (s := s) (vm0 := T62.vm) (W := 0) (own_rmST l Z a0 hw [] al u0 u1 u2 G1 T62.heap n0 (Nat.le_trans Z0 KP.1) OL h4al c8_u0 c8_u1 c8_u2 O2 P5) hZ (hw _ (List.mem_of_getElem? (i := 3) rfl)) (hw _ (List.mem_of_getElem? (i := 2) rfl)) (by decide) (by decide) hEW CH) (g := (mkF m 216 #[iv p0, iv p1, iv p2, iv p3, iv p4, iv p5, iv idx, iv tl, iv al, iv sm, iv 0, iv vl, iv t0, iv t1, iv t2, iv u0, iv u1, iv u2, iv v0, iv v1, iv v2, rv o_tx, rv o_vx, .unset, .unset, .unset, .unset, .unset, .unset] [(.int u2), (.int u1), (.int u0), (.int al)])) rfl (by rw [hml]; rfl) (argsL := [(.int al), (.int u0), (.int u1), (.int u2)]) (rest := []) (lenOf own_pd3 rfl) rfl (by show 2 * 0 + _ ≤ _; exact Nat.le_of_eq rfl) (hb hby at_216) (fun _ _ => ⟨rfl, rfl, (by decide : 12 + 6 ≤ _), (by decide : 24 + 12 ≤ _)⟩)
    dsimp only [Pt.U, Pt.locs, Pt.cells, Pt.slots] at X63 hS63 gr63 l63 y63 z63 CR63 st63 hQ63
    subst l63 y63 z63
    obtain ⟨o_ar, t_ar, kb_ar, rfl, N63q, K63, ge_o_ar, sz0_o_ar, S_ar⟩ := hQ63
    have N63 := Fr.app N62 N63q
    obtain ⟨X63, hS, hZ, hown⟩ := rebS hS (hk1 : _ ≤ (T62.heap).size) X63 hS63 (gr63) hZ hown
    have OL := OL.keep K63 all0
    have KP := KP.trans K63 all0
    have S_tx := S_tx.keep K63 nin0 nin0
    have S_vx := S_vx.keep K63 nin0 nin0
    have hk1 : T63.heap.size ≤ T63.heap.size := Nat.le_refl _
    have CHR := CHR.trans CR63
    have CH := CR63.1
    refine own_via (mkF m 219 #[iv p0, iv p1, iv p2, iv p3, iv p4, iv p5, iv idx, iv tl, iv al, iv sm, iv 0, iv vl, iv t0, iv t1, iv t2, iv u0, iv u1, iv u2, iv v0, iv v1, iv v2, rv o_tx, rv o_vx, .unset, .unset, .unset, .unset, .unset, .unset] [(.ref o_ar)]) st63 ?_
    have sz_o_ar : h0.size ≤ o_ar := Nat.le_trans KP0.1 sz0_o_ar
    have ne_o_tx_o_ar : o_tx ≠ o_ar := Nat.ne_of_lt (Nat.lt_of_lt_of_le lt0_o_tx sz0_o_ar)
    have ne_t_tx_o_ar : t_tx ≠ o_ar := Nat.ne_of_lt (Nat.lt_of_lt_of_le lt0_t_tx sz0_o_ar)
    have ne_o_vx_o_ar : o_vx ≠ o_ar := Nat.ne_of_lt (Nat.lt_of_lt_of_le lt0_o_vx sz0_o_ar)
    have ne_t_vx_o_ar : t_vx ≠ o_ar := Nat.ne_of_lt (Nat.lt_of_lt_of_le lt0_t_vx sz0_o_ar)
    refine own_to (T' := T63) (mkF m 221 #[iv p0, iv p1, iv p2, iv p3, iv p4, iv p5, iv idx, iv tl, iv al, iv sm, iv 0, iv vl, iv t0, iv t1, iv t2, iv u0, iv u1, iv u2, iv v0, iv v1, iv v2, rv o_tx, rv o_vx, rv o_ar, .unset, .unset, .unset, .unset, .unset] []) (fun _ k => XS.astore X63.here hx rfl (hb hby at_219) rfl rfl (l' := #[iv p0, iv p1, iv p2, iv p3, iv p4, iv p5, iv idx, iv tl, iv al, iv sm, iv 0, iv vl, iv t0, iv t1, iv t2, iv u0, iv u1, iv u2, iv v0, iv v1, iv v2, rv o_tx, rv o_vx, rv o_ar, .unset, .unset, .unset, .unset, .unset]) rfl k) ?_
    obtain ⟨T64, h64, X64, e64, E64, A64, D64, -, st64⟩ := newO X63 hx hZ hown (hw _ (List.mem_of_getElem? (i := 26) rfl)) (hw _ (List.mem_of_getElem? (i := 27) rfl)) (hw _ (List.mem_of_getElem? (i := 28) rfl)) rfl (g := (mkF m 221 #[iv p0, iv p1, iv p2, iv p3, iv p4, iv p5, iv idx, iv tl, iv al, iv sm, iv 0, iv vl, iv t0, iv t1, iv t2, iv u0, iv u1, iv u2, iv v0, iv v1, iv v2, rv o_tx, rv o_vx, rv o_ar, .unset, .unset, .unset, .unset, .unset] [])) rfl (hb hby at_221) (by decide) (by decide)
    obtain ⟨b64, g64⟩ : ∃ z, z = T63.heap.size := ⟨_, rfl⟩
    rw [← g64] at A64 D64 st64
    have sz_b64 : h0.size ≤ b64 := Nat.le_trans KP.1 (Nat.le_of_eq g64.symm)
    have ge_b64 : n0 ≤ b64 := Nat.le_trans Z0 sz_b64
    have ne_o_tx_b64 : o_tx ≠ b64 := Nat.ne_of_lt (Nat.lt_of_lt_of_le S_tx.lt (Nat.le_of_eq g64.symm))
    have ne_t_tx_b64 : t_tx ≠ b64 := Nat.ne_of_lt (Nat.lt_of_lt_of_le S_tx.ltT (Nat.le_of_eq g64.symm))
    have ne_o_vx_b64 : o_vx ≠ b64 := Nat.ne_of_lt (Nat.lt_of_lt_of_le S_vx.lt (Nat.le_of_eq g64.symm))
    have ne_t_vx_b64 : t_vx ≠ b64 := Nat.ne_of_lt (Nat.lt_of_lt_of_le S_vx.ltT (Nat.le_of_eq g64.symm))
    have ne_o_ar_b64 : o_ar ≠ b64 := Nat.ne_of_lt (Nat.lt_of_lt_of_le S_ar.lt (Nat.le_of_eq g64.symm))
    have ne_t_ar_b64 : t_ar ≠ b64 := Nat.ne_of_lt (Nat.lt_of_lt_of_le S_ar.ltT (Nat.le_of_eq g64.symm))
    have CHR := CHR.trans (CHr.ext E64 CH)
    have CH := CH.ext E64
    have OL := OL.ext E64
    have KP := KP.ext E64
    have hk1 := Nat.le_trans hk1 E64.1
    have S_tx := S_tx.ext E64
    have S_vx := S_vx.ext E64
    have S_ar := S_ar.ext E64
    have E_b64 : Exa Z h64 b64 "com/example/ianus/ianus/Token" := A64
    have F_kind_b64 : Fld Z h64 b64 "com/example/ianus/ianus/Token" "kind" "Lcom/example/ianus/ianus/Token$Kind;" .null := D64 (Or.inr (hw _ (List.mem_of_getElem? (i := 40) rfl))) (ty := (.object "com/example/ianus/ianus/Token$Kind")) (by decide)
    have F_text_b64 : Fld Z h64 b64 "com/example/ianus/ianus/Token" "text" "Ljava/lang/String;" .null := D64 (Or.inr (hw _ (List.mem_of_getElem? (i := 42) rfl))) (ty := (.object "java/lang/String")) (by decide)
    have F_value_b64 : Fld Z h64 b64 "com/example/ianus/ianus/Token" "value" "Ljava/lang/String;" .null := D64 (Or.inr (hw _ (List.mem_of_getElem? (i := 44) rfl))) (ty := (.object "java/lang/String")) (by decide)
    have F_line_b64 : Fld Z h64 b64 "com/example/ianus/ianus/Token" "line" "I" (.int (0 : Int32)) := D64 (Or.inr (hw _ (List.mem_of_getElem? (i := 46) rfl))) (ty := .int) (by decide)
    have F_column_b64 : Fld Z h64 b64 "com/example/ianus/ianus/Token" "column" "I" (.int (0 : Int32)) := D64 (Or.inr (hw _ (List.mem_of_getElem? (i := 48) rfl))) (ty := .int) (by decide)
    refine own_to (mkF m 224 #[iv p0, iv p1, iv p2, iv p3, iv p4, iv p5, iv idx, iv tl, iv al, iv sm, iv 0, iv vl, iv t0, iv t1, iv t2, iv u0, iv u1, iv u2, iv v0, iv v1, iv v2, rv o_tx, rv o_vx, rv o_ar, .unset, .unset, .unset, .unset, .unset] [(.ref b64)]) st64 ?_
    refine own_to (T' := T64) (mkF m 225 #[iv p0, iv p1, iv p2, iv p3, iv p4, iv p5, iv idx, iv tl, iv al, iv sm, iv 0, iv vl, iv t0, iv t1, iv t2, iv u0, iv u1, iv u2, iv v0, iv v1, iv v2, rv o_tx, rv o_vx, rv o_ar, .unset, .unset, .unset, .unset, .unset] [(.ref b64), (.ref b64)]) (fun _ k => XS.dup X64.here hx rfl (hb hby at_224) rfl rfl k) ?_
    refine own_to (T' := T64) (mkF m 227 #[iv p0, iv p1, iv p2, iv p3, iv p4, iv p5, iv idx, iv tl, iv al, iv sm, iv 0, iv vl, iv t0, iv t1, iv t2, iv u0, iv u1, iv u2, iv v0, iv v1, iv v2, rv o_tx, rv o_vx, rv o_ar, .unset, .unset, .unset, .unset, .unset] [(.int idx), (.ref b64), (.ref b64)]) (fun _ k => XS.iload X64.here hx rfl (hb hby at_225) rfl k) ?_
    obtain ⟨_, _, ⟨T65, L65, k65, n65⟩, -, X65, ⟨Lc65, hQ65, l65, y65, z65⟩, st65⟩ := Jvm.LawKit.callS X64 hx (y := (⟨"com/example/ianus/ianus/TokenIsPinLaw", "kindOf", "(I)Lcom/example/ianus/ianus/Token$Kind;"⟩ : MethodName)) hown (mvT hZ (hw _ (List.mem_of_getElem? (i := 29) rfl))) (mvT hZ (hw _ (List.mem_of_getElem? (i := 30) rfl))) (mvT hZ (hw _ (List.mem_of_getElem? (i := 2) rfl))) (mvT hZ (hw _ (List.mem_of_getElem? (i := 31) rfl))) (by decide) (backOf (W := 2) (own_rmKO l Z a0 hw [] idx aI aS aN aY aE h64 n0 (Nat.le_trans Z0 KP.1) OL SaI SaS SaN SaY SaE) hZ (hw _ (List.mem_of_getElem? (i := 31) rfl)) (hw _ (List.mem_of_getElem? (i := 2) rfl)) (by decide) (by decide)) (g := (mkF m 227 #[iv p0, iv p1, iv p2, iv p3, iv p4, iv p5, iv idx, iv tl, iv al, iv sm, iv 0, iv vl, iv t0, iv t1, iv t2, iv u0, iv u1, iv u2, iv v0, iv v1, iv v2, rv o_tx, rv o_vx, rv o_ar, .unset, .unset, .unset, .unset, .unset] [(.int idx), (.ref b64), (.ref b64)])) rfl (by rw [hml]; rfl) (argsL := [(.int idx)]) (rest := [(.ref b64), (.ref b64)]) (lenOf own_pd4 rfl) rfl (by show 2 * 0 + _ ≤ _; exact Nat.le_of_eq rfl) (hb hby at_227) (fun _ _ => ⟨rfl, e64, (by decide : 19 + 0 ≤ _), (by decide : 41 + 0 ≤ _)⟩)
    dsimp only [Pt.U, Pt.locs, Pt.cells, Pt.slots] at X65 l65 y65 z65 st65 hQ65
    subst l65 y65 z65
    obtain ⟨ak, rfl, hak, N65q, e65⟩ := hQ65
    have N65 := Fr.app N63 N65q
    refine own_to (mkF m 230 #[iv p0, iv p1, iv p2, iv p3, iv p4, iv p5, iv idx, iv tl, iv al, iv sm, iv 0, iv vl, iv t0, iv t1, iv t2, iv u0, iv u1, iv u2, iv v0, iv v1, iv v2, rv o_tx, rv o_vx, rv o_ar, .unset, .unset, .unset, .unset, .unset] [(.ref ak), (.ref b64), (.ref b64)]) st65 ?_
    refine own_to (T' := T65) (mkF m 232 #[iv p0, iv p1, iv p2, iv p3, iv p4, iv p5, iv idx, iv tl, iv al, iv sm, iv 0, iv vl, iv t0, iv t1, iv t2, iv u0, iv u1, iv u2, iv v0, iv v1, iv v2, rv o_tx, rv o_vx, rv o_ar, .unset, .unset, .unset, .unset, .unset] [(.ref o_tx), (.ref ak), (.ref b64), (.ref b64)]) (fun _ k => XS.aload X65.here hx rfl (hb hby at_230) rfl rfl k) ?_
    refine own_to (T' := T65) (mkF m 234 #[iv p0, iv p1, iv p2, iv p3, iv p4, iv p5, iv idx, iv tl, iv al, iv sm, iv 0, iv vl, iv t0, iv t1, iv t2, iv u0, iv u1, iv u2, iv v0, iv v1, iv v2, rv o_tx, rv o_vx, rv o_ar, .unset, .unset, .unset, .unset, .unset] [(.ref o_vx), (.ref o_tx), (.ref ak), (.ref b64), (.ref b64)]) (fun _ k => XS.aload X65.here hx rfl (hb hby at_232) rfl rfl k) ?_
    refine own_to (T' := T65) (mkF m 236 #[iv p0, iv p1, iv p2, iv p3, iv p4, iv p5, iv idx, iv tl, iv al, iv sm, iv 0, iv vl, iv t0, iv t1, iv t2, iv u0, iv u1, iv u2, iv v0, iv v1, iv v2, rv o_tx, rv o_vx, rv o_ar, .unset, .unset, .unset, .unset, .unset] [(.int p4), (.ref o_vx), (.ref o_tx), (.ref ak), (.ref b64), (.ref b64)]) (fun _ k => XS.iload X65.here hx rfl (hb hby at_234) rfl k) ?_
    refine own_to (T' := T65) (mkF m 238 #[iv p0, iv p1, iv p2, iv p3, iv p4, iv p5, iv idx, iv tl, iv al, iv sm, iv 0, iv vl, iv t0, iv t1, iv t2, iv u0, iv u1, iv u2, iv v0, iv v1, iv v2, rv o_tx, rv o_vx, rv o_ar, .unset, .unset, .unset, .unset, .unset] [(.int p5), (.int p4), (.ref o_vx), (.ref o_tx), (.ref ak), (.ref b64), (.ref b64)]) (fun _ k => XS.iload X65.here hx rfl (hb hby at_236) rfl k) ?_
    obtain ⟨_, _, ⟨T66, L66, k66, n66⟩, -, X66, ⟨Lc66, hQ66, l66, y66, z66⟩, st66⟩ := X65.specialBack hx (y := (⟨"com/example/ianus/ianus/Token", "<init>", "(Lcom/example/ianus/ianus/Token$Kind;Ljava/lang/String;Ljava/lang/String;II)V"⟩ : MethodName)) rfl hown (mvT hZ (hw _ (List.mem_of_getElem? (i := 35) rfl))) (mvT hZ (hw _ (List.mem_of_getElem? (i := 36) rfl))) (mvT hZ (hw _ (List.mem_of_getElem? (i := 37) rfl))) (by decide) (backOf (W := 1) (own_rmCT l Z a0 hw [] b64 ak o_tx o_vx p4 p5 h64 n0 (Nat.le_trans Z0 KP.1) OL ge_b64 E_b64 F_kind_b64 F_text_b64 F_value_b64 F_line_b64 F_column_b64) hZ (hw _ (List.mem_of_getElem? (i := 37) rfl)) (hw _ (List.mem_of_getElem? (i := 28) rfl)) (by decide) (by decide)) (g := (mkF m 238 #[iv p0, iv p1, iv p2, iv p3, iv p4, iv p5, iv idx, iv tl, iv al, iv sm, iv 0, iv vl, iv t0, iv t1, iv t2, iv u0, iv u1, iv u2, iv v0, iv v1, iv v2, rv o_tx, rv o_vx, rv o_ar, .unset, .unset, .unset, .unset, .unset] [(.int p5), (.int p4), (.ref o_vx), (.ref o_tx), (.ref ak), (.ref b64), (.ref b64)])) rfl (by rw [hml]; rfl) (Steps.refl _) (a := b64) (argsL := [(.ref ak), (.ref o_tx), (.ref o_vx), (.int p4), (.int p5)]) (rest := [(.ref b64)]) (lenOf own_pd5 rfl) rfl (by show 2 * 0 + _ ≤ _; exact Nat.le_of_eq rfl) (hb hby at_238) (fun _ _ => ⟨rfl, e65, (by decide : 19 + 0 ≤ _), (by decide : 41 + 0 ≤ _)⟩)
    dsimp only [Pt.U, Pt.locs, Pt.cells, Pt.slots] at X66 l66 y66 z66 st66 hQ66
    subst l66 y66 z66
    obtain ⟨rfl, N66q, K66, Ek66, Fk66, Ft66, -, -⟩ := hQ66
    have N66 := Fr.app N65 N66q
    have SFk : ∀ x ∈ [b64], Safe Z own_EL T63.vm h64 x := (sfS (Safe.exa hZ.alike E_b64 (by decide) (by decide)) sf0)
    have CHR := CHR.trans (CHr.keep K66 SFk CH)
    have CH := CH.keep K66 SFk
    have OL := OL.keep K66 (allS ge_b64 all0)
    have KP := KP.trans K66 (allS (Or.inr sz_b64) all0)
    have hk1 := Nat.le_trans hk1 K66.1
    have S_tx := S_tx.keep K66 (ninS ne_o_tx_b64 nin0) (ninS ne_t_tx_b64 nin0)
    have S_vx := S_vx.keep K66 (ninS ne_o_vx_b64 nin0) (ninS ne_t_vx_b64 nin0)
    have S_ar := S_ar.keep K66 (ninS ne_o_ar_b64 nin0) (ninS ne_t_ar_b64 nin0)
    have E_b64 := E_b64.keep K66
    refine own_via (mkF m 241 #[iv p0, iv p1, iv p2, iv p3, iv p4, iv p5, iv idx, iv tl, iv al, iv sm, iv 0, iv vl, iv t0, iv t1, iv t2, iv u0, iv u1, iv u2, iv v0, iv v1, iv v2, rv o_tx, rv o_vx, rv o_ar, .unset, .unset, .unset, .unset, .unset] [(.ref b64)]) st66 ?_
    have EK : Exa Z T66.heap b64 "com/example/ianus/ianus/Token" := Ek66
    have FK : Fld Z T66.heap b64 "com/example/ianus/ianus/Token" "kind" "Lcom/example/ianus/ianus/Token$Kind;" (.ref ak) := Fk66
    have FT : Fld Z T66.heap b64 "com/example/ianus/ianus/Token" "text" "Ljava/lang/String;" (.ref o_tx) := Ft66
    refine own_to (T' := T66) (mkF m 243 #[iv p0, iv p1, iv p2, iv p3, iv p4, iv p5, iv idx, iv tl, iv al, iv sm, iv 0, iv vl, iv t0, iv t1, iv t2, iv u0, iv u1, iv u2, iv v0, iv v1, iv v2, rv o_tx, rv o_vx, rv o_ar, rv b64, .unset, .unset, .unset, .unset] []) (fun _ k => XS.astore X66.here hx rfl (hb hby at_241) rfl rfl (l' := #[iv p0, iv p1, iv p2, iv p3, iv p4, iv p5, iv idx, iv tl, iv al, iv sm, iv 0, iv vl, iv t0, iv t1, iv t2, iv u0, iv u1, iv u2, iv v0, iv v1, iv v2, rv o_tx, rv o_vx, rv o_ar, rv b64, .unset, .unset, .unset, .unset]) rfl k) ?_
    refine own_to (T' := T66) (mkF m 245 #[iv p0, iv p1, iv p2, iv p3, iv p4, iv p5, iv idx, iv tl, iv al, iv sm, iv 0, iv vl, iv t0, iv t1, iv t2, iv u0, iv u1, iv u2, iv v0, iv v1, iv v2, rv o_tx, rv o_vx, rv o_ar, rv b64, .unset, .unset, .unset, .unset] [(.ref b64)]) (fun _ k => XS.aload X66.here hx rfl (hb hby at_243) rfl rfl k) ?_
    refine own_to (T' := T66) (mkF m 247 #[iv p0, iv p1, iv p2, iv p3, iv p4, iv p5, iv idx, iv tl, iv al, iv sm, iv 0, iv vl, iv t0, iv t1, iv t2, iv u0, iv u1, iv u2, iv v0, iv v1, iv v2, rv o_tx, rv o_vx, rv o_ar, rv b64, .unset, .unset, .unset, .unset] [(.ref o_ar), (.ref b64)]) (fun _ k => XS.aload X66.here hx rfl (hb hby at_245) rfl rfl k) ?_
    obtain ⟨cq67, kq67, q67a, q67b, q67c⟩ := isOf hZ rfl EK
    obtain ⟨_, _, ⟨T67, L67, k67, n67⟩, -, X67, ⟨Lc67, hQ67, l67, y67, z67⟩, st67⟩ := X66.virtualBack hx (y := (⟨"com/example/ianus/ianus/Token", "is", "(Ljava/lang/String;)Z"⟩ : MethodName)) (z := (⟨"com/example/ianus/ianus/Token", "is", "(Ljava/lang/String;)Z"⟩ : MethodName)) hown (mvT hZ (hw _ (List.mem_of_getElem? (i := 49) rfl))) (mvT hZ (hw _ (List.mem_of_getElem? (i := 50) rfl))) (notFace_of_selects (args := #[]) (mvT hZ (hw _ (List.mem_of_getElem? (i := 52) rfl)))) (mvT hZ (hw _ (List.mem_of_getElem? (i := 52) rfl))) (mvT hZ (hw _ (List.mem_of_getElem? (i := 51) rfl))) (by decide) (backOf (W := 0) (own_rmISS l Z a0 hw [] G1 b64 ak o_tx t_tx kb_tx (own_cs tl t0 t1 t2) o_ar t_ar kb_ar (own_cs al u0 u1 u2) aI aS aN aY aE T66.heap n0 (Nat.le_trans Z0 KP.1) OL FK FT S_tx S_ar O2 P5 SaI SaS SaN SaY SaE) hZ (hw _ (List.mem_of_getElem? (i := 53) rfl)) (hw _ (List.mem_of_getElem? (i := 28) rfl)) (by decide) (by decide)) q67a q67c (g := (mkF m 247 #[iv p0, iv p1, iv p2, iv p3, iv p4, iv p5, iv idx, iv tl, iv al, iv sm, iv 0, iv vl, iv t0, iv t1, iv t2, iv u0, iv u1, iv u2, iv v0, iv v1, iv v2, rv o_tx, rv o_vx, rv o_ar, rv b64, .unset, .unset, .unset, .unset] [(.ref o_ar), (.ref b64)])) rfl (by rw [hml]; rfl) (Steps.refl _) (argsL := [(.ref o_ar)]) (rest := []) (lenOf own_pd6 rfl) rfl (by show 2 * 0 + _ ≤ _; exact Nat.le_of_eq rfl) (hb hby at_247) (fun _ _ => ⟨rfl, rfl, (by decide : 19 + 0 ≤ _), (by decide : 41 + 0 ≤ _)⟩)
    dsimp only [Pt.U, Pt.locs, Pt.cells, Pt.slots] at X67 l67 y67 z67 st67 hQ67
    subst l67 y67 z67
    obtain ⟨rr, rfl, hrr, hrr1, N67q, e67⟩ := hQ67
    have N67 := Fr.app N66 N67q
    refine own_via (mkF m 250 #[iv p0, iv p1, iv p2, iv p3, iv p4, iv p5, iv idx, iv tl, iv al, iv sm, iv 0, iv vl, iv t0, iv t1, iv t2, iv u0, iv u1, iv u2, iv v0, iv v1, iv v2, rv o_tx, rv o_vx, rv o_ar, rv b64, .unset, .unset, .unset, .unset] [(.int rr)]) st67 ?_
    refine own_to (T' := T67) (mkF m 252 #[iv p0, iv p1, iv p2, iv p3, iv p4, iv p5, iv idx, iv tl, iv al, iv sm, iv 0, iv vl, iv t0, iv t1, iv t2, iv u0, iv u1, iv u2, iv v0, iv v1, iv v2, rv o_tx, rv o_vx, rv o_ar, rv b64, iv rr, .unset, .unset, .unset] []) (fun _ k => XS.istore X67.here hx rfl (hb hby at_250) rfl (l' := #[iv p0, iv p1, iv p2, iv p3, iv p4, iv p5, iv idx, iv tl, iv al, iv sm, iv 0, iv vl, iv t0, iv t1, iv t2, iv u0, iv u1, iv u2, iv v0, iv v1, iv v2, rv o_tx, rv o_vx, rv o_ar, rv b64, iv rr, .unset, .unset, .unset]) rfl k) ?_
    refine own_to (T' := T67) (mkF m 254 #[iv p0, iv p1, iv p2, iv p3, iv p4, iv p5, iv idx, iv tl, iv al, iv sm, iv 0, iv vl, iv t0, iv t1, iv t2, iv u0, iv u1, iv u2, iv v0, iv v1, iv v2, rv o_tx, rv o_vx, rv o_ar, rv b64, iv rr, .unset, .unset, .unset] [(.int idx)]) (fun _ k => XS.iload X67.here hx rfl (hb hby at_252) rfl k) ?_
    suffices jn68 : ∀ kk : Int32, ((kk = 0 ∨ kk = 1) ∧ (kk = 1 ↔ (idx = 0 ∨ idx = 3))) → own_E p e below (own_FinH Z s (own_Q0 Z p0 p1 p2 p3 p4 p5 G1 aI aS aN aY aE h0 n0) room_1.cells room_1.slots) T67 (mkF m 268 #[iv p0, iv p1, iv p2, iv p3, iv p4, iv p5, iv idx, iv tl, iv al, iv sm, iv 0, iv vl, iv t0, iv t1, iv t2, iv u0, iv u1, iv u2, iv v0, iv v1, iv v2, rv o_tx, rv o_vx, rv o_ar, rv b64, iv rr, .unset, .unset, .unset] [(.int kk)]) from by
      by_cases hka0 : idx = (0 : Int32)
      · refine own_to (T' := T67) (mkF m 263 #[iv p0, iv p1, iv p2, iv p3, iv p4, iv p5, iv idx, iv tl, iv al, iv sm, iv 0, iv vl, iv t0, iv t1, iv t2, iv u0, iv u1, iv u2, iv v0, iv v1, iv v2, rv o_tx, rv o_vx, rv o_ar, rv b64, iv rr, .unset, .unset, .unset] []) (fun _ k => XS.ifYes X67.here hx rfl (pc0 := 254) (pc' := 263) rfl (hb hby at_254) rfl ((if0 _ _).trans (teq hka0).1) (by decide) (by decide) k) ?_
        refine own_to (T' := T67) (mkF m 264 #[iv p0, iv p1, iv p2, iv p3, iv p4, iv p5, iv idx, iv tl, iv al, iv sm, iv 0, iv vl, iv t0, iv t1, iv t2, iv u0, iv u1, iv u2, iv v0, iv v1, iv v2, rv o_tx, rv o_vx, rv o_ar, rv b64, iv rr, .unset, .unset, .unset] [(.int (1 : Int32))]) (fun _ k => XS.iconst X67.here hx rfl (hb hby at_263) k) ?_
        refine own_to (T' := T67) (mkF m 268 #[iv p0, iv p1, iv p2, iv p3, iv p4, iv p5, iv idx, iv tl, iv al, iv sm, iv 0, iv vl, iv t0, iv t1, iv t2, iv u0, iv u1, iv u2, iv v0, iv v1, iv v2, rv o_tx, rv o_vx, rv o_ar, rv b64, iv rr, .unset, .unset, .unset] [(.int (1 : Int32))]) (fun _ k => XS.goto X67.here hx rfl (pc0 := 264) (pc' := 268) rfl (hb hby at_264) (by decide) (by decide) k) ?_
        exact jn68 (1 : Int32) (⟨Or.inr rfl, fun _ => Or.inl hka0, fun _ => rfl⟩)
      · refine own_to (T' := T67) (mkF m 257 #[iv p0, iv p1, iv p2, iv p3, iv p4, iv p5, iv idx, iv tl, iv al, iv sm, iv 0, iv vl, iv t0, iv t1, iv t2, iv u0, iv u1, iv u2, iv v0, iv v1, iv v2, rv o_tx, rv o_vx, rv o_ar, rv b64, iv rr, .unset, .unset, .unset] []) (fun _ k => XS.ifNo X67.here hx rfl (hb hby at_254) rfl ((if0 _ _).trans (feq hka0).1) k) ?_
        refine own_to (T' := T67) (mkF m 259 #[iv p0, iv p1, iv p2, iv p3, iv p4, iv p5, iv idx, iv tl, iv al, iv sm, iv 0, iv vl, iv t0, iv t1, iv t2, iv u0, iv u1, iv u2, iv v0, iv v1, iv v2, rv o_tx, rv o_vx, rv o_ar, rv b64, iv rr, .unset, .unset, .unset] [(.int idx)]) (fun _ k => XS.iload X67.here hx rfl (hb hby at_257) rfl k) ?_
        refine own_to (T' := T67) (mkF m 260 #[iv p0, iv p1, iv p2, iv p3, iv p4, iv p5, iv idx, iv tl, iv al, iv sm, iv 0, iv vl, iv t0, iv t1, iv t2, iv u0, iv u1, iv u2, iv v0, iv v1, iv v2, rv o_tx, rv o_vx, rv o_ar, rv b64, iv rr, .unset, .unset, .unset] [(.int (3 : Int32)), (.int idx)]) (fun _ k => XS.iconst X67.here hx rfl (hb hby at_259) k) ?_
        by_cases hka1 : idx = (3 : Int32)
        · refine own_to (T' := T67) (mkF m 263 #[iv p0, iv p1, iv p2, iv p3, iv p4, iv p5, iv idx, iv tl, iv al, iv sm, iv 0, iv vl, iv t0, iv t1, iv t2, iv u0, iv u1, iv u2, iv v0, iv v1, iv v2, rv o_tx, rv o_vx, rv o_ar, rv b64, iv rr, .unset, .unset, .unset] []) (fun _ k => XS.icmpNo X67.here hx rfl (hb hby at_260) rfl (teq hka1).2 k) ?_
          refine own_to (T' := T67) (mkF m 264 #[iv p0, iv p1, iv p2, iv p3, iv p4, iv p5, iv idx, iv tl, iv al, iv sm, iv 0, iv vl, iv t0, iv t1, iv t2, iv u0, iv u1, iv u2, iv v0, iv v1, iv v2, rv o_tx, rv o_vx, rv o_ar, rv b64, iv rr, .unset, .unset, .unset] [(.int (1 : Int32))]) (fun _ k => XS.iconst X67.here hx rfl (hb hby at_263) k) ?_
          refine own_to (T' := T67) (mkF m 268 #[iv p0, iv p1, iv p2, iv p3, iv p4, iv p5, iv idx, iv tl, iv al, iv sm, iv 0, iv vl, iv t0, iv t1, iv t2, iv u0, iv u1, iv u2, iv v0, iv v1, iv v2, rv o_tx, rv o_vx, rv o_ar, rv b64, iv rr, .unset, .unset, .unset] [(.int (1 : Int32))]) (fun _ k => XS.goto X67.here hx rfl (pc0 := 264) (pc' := 268) rfl (hb hby at_264) (by decide) (by decide) k) ?_
          exact jn68 (1 : Int32) (⟨Or.inr rfl, fun _ => Or.inr hka1, fun _ => rfl⟩)
        · refine own_to (T' := T67) (mkF m 267 #[iv p0, iv p1, iv p2, iv p3, iv p4, iv p5, iv idx, iv tl, iv al, iv sm, iv 0, iv vl, iv t0, iv t1, iv t2, iv u0, iv u1, iv u2, iv v0, iv v1, iv v2, rv o_tx, rv o_vx, rv o_ar, rv b64, iv rr, .unset, .unset, .unset] []) (fun _ k => XS.icmpYes X67.here hx rfl (pc0 := 260) (pc' := 267) rfl (hb hby at_260) rfl (feq hka1).2 (by decide) (by decide) k) ?_
          refine own_to (T' := T67) (mkF m 268 #[iv p0, iv p1, iv p2, iv p3, iv p4, iv p5, iv idx, iv tl, iv al, iv sm, iv 0, iv vl, iv t0, iv t1, iv t2, iv u0, iv u1, iv u2, iv v0, iv v1, iv v2, rv o_tx, rv o_vx, rv o_ar, rv b64, iv rr, .unset, .unset, .unset] [(.int (0 : Int32))]) (fun _ k => XS.iconst X67.here hx rfl (hb hby at_267) k) ?_
          exact jn68 (0 : Int32) (⟨Or.inl rfl, fun q => absurd q (by decide), fun q => q.elim (fun q => absurd q hka0) (fun q => absurd q hka1)⟩)
    intro kk hkk
    refine own_to (T' := T67) (mkF m 270 #[iv p0, iv p1, iv p2, iv p3, iv p4, iv p5, iv idx, iv tl, iv al, iv sm, iv 0, iv vl, iv t0, iv t1, iv t2, iv u0, iv u1, iv u2, iv v0, iv v1, iv v2, rv o_tx, rv o_vx, rv o_ar, rv b64, iv rr, iv kk, .unset, .unset] []) (fun _ k => XS.istore X67.here hx rfl (hb hby at_268) rfl (l' := #[iv p0, iv p1, iv p2, iv p3, iv p4, iv p5, iv idx, iv tl, iv al, iv sm, iv 0, iv vl, iv t0, iv t1, iv t2, iv u0, iv u1, iv u2, iv v0, iv v1, iv v2, rv o_tx, rv o_vx, rv o_ar, rv b64, iv rr, iv kk, .unset, .unset]) rfl k) ?_
    refine own_to (T' := T67) (mkF m 272 #[iv p0, iv p1, iv p2, iv p3, iv p4, iv p5, iv idx, iv tl, iv al, iv sm, iv 0, iv vl, iv t0, iv t1, iv t2, iv u0, iv u1, iv u2, iv v0, iv v1, iv v2, rv o_tx, rv o_vx, rv o_ar, rv b64, iv rr, iv kk, .unset, .unset] [(.int (0 : Int32))]) (fun _ k => XS.iload X67.here hx rfl (hb hby at_270) rfl k) ?_
    refine own_to (T' := T67) (mkF m 275 #[iv p0, iv p1, iv p2, iv p3, iv p4, iv p5, iv idx, iv tl, iv al, iv sm, iv 0, iv vl, iv t0, iv t1, iv t2, iv u0, iv u1, iv u2, iv v0, iv v1, iv v2, rv o_tx, rv o_vx, rv o_ar, rv b64, iv rr, iv kk, .unset, .unset] []) (fun _ k => XS.ifNo X67.here hx rfl (hb hby at_272) rfl ((if0 _ _).trans (teq (by decide : (0 : Int32) = (0 : Int32))).2) k) ?_
    refine own_to (T' := T67) (mkF m 277 #[iv p0, iv p1, iv p2, iv p3, iv p4, iv p5, iv idx, iv tl, iv al, iv sm, iv 0, iv vl, iv t0, iv t1, iv t2, iv u0, iv u1, iv u2, iv v0, iv v1, iv v2, rv o_tx, rv o_vx, rv o_ar, rv b64, iv rr, iv kk, .unset, .unset] [(.int tl)]) (fun _ k => XS.iload X67.here hx rfl (hb hby at_275) rfl k) ?_
    refine own_to (T' := T67) (mkF m 279 #[iv p0, iv p1, iv p2, iv p3, iv p4, iv p5, iv idx, iv tl, iv al, iv sm, iv 0, iv vl, iv t0, iv t1, iv t2, iv u0, iv u1, iv u2, iv v0, iv v1, iv v2, rv o_tx, rv o_vx, rv o_ar, rv b64, iv rr, iv kk, .unset, .unset] [(.int al), (.int tl)]) (fun _ k => XS.iload X67.here hx rfl (hb hby at_277) rfl k) ?_
    suffices jn69 : ∀ ee : Int32, ((ee = 0 ∨ ee = 1) ∧ (ee = 1 ↔ (tl = al ∧ (tl < 1 ∨ t0 = u0) ∧ (tl < 2 ∨ t1 = u1) ∧ (tl < 3 ∨ t2 = u2)))) → own_E p e below (own_FinH Z s (own_Q0 Z p0 p1 p2 p3 p4 p5 G1 aI aS aN aY aE h0 n0) room_1.cells room_1.slots) T67 (mkF m 326 #[iv p0, iv p1, iv p2, iv p3, iv p4, iv p5, iv idx, iv tl, iv al, iv sm, iv 0, iv vl, iv t0, iv t1, iv t2, iv u0, iv u1, iv u2, iv v0, iv v1, iv v2, rv o_tx, rv o_vx, rv o_ar, rv b64, iv rr, iv kk, .unset, .unset] [(.int ee)]) from by
      by_cases hea0 : tl = al
      · refine own_to (T' := T67) (mkF m 282 #[iv p0, iv p1, iv p2, iv p3, iv p4, iv p5, iv idx, iv tl, iv al, iv sm, iv 0, iv vl, iv t0, iv t1, iv t2, iv u0, iv u1, iv u2, iv v0, iv v1, iv v2, rv o_tx, rv o_vx, rv o_ar, rv b64, iv rr, iv kk, .unset, .unset] []) (fun _ k => XS.icmpNo X67.here hx rfl (hb hby at_279) rfl (teq hea0).2 k) ?_
        refine own_to (T' := T67) (mkF m 284 #[iv p0, iv p1, iv p2, iv p3, iv p4, iv p5, iv idx, iv tl, iv al, iv sm, iv 0, iv vl, iv t0, iv t1, iv t2, iv u0, iv u1, iv u2, iv v0, iv v1, iv v2, rv o_tx, rv o_vx, rv o_ar, rv b64, iv rr, iv kk, .unset, .unset] [(.int tl)]) (fun _ k => XS.iload X67.here hx rfl (hb hby at_282) rfl k) ?_
        refine own_to (T' := T67) (mkF m 285 #[iv p0, iv p1, iv p2, iv p3, iv p4, iv p5, iv idx, iv tl, iv al, iv sm, iv 0, iv vl, iv t0, iv t1, iv t2, iv u0, iv u1, iv u2, iv v0, iv v1, iv v2, rv o_tx, rv o_vx, rv o_ar, rv b64, iv rr, iv kk, .unset, .unset] [(.int (1 : Int32)), (.int tl)]) (fun _ k => XS.iconst X67.here hx rfl (hb hby at_284) k) ?_
        by_cases hea1 : tl < (1 : Int32)
        · refine own_to (T' := T67) (mkF m 295 #[iv p0, iv p1, iv p2, iv p3, iv p4, iv p5, iv idx, iv tl, iv al, iv sm, iv 0, iv vl, iv t0, iv t1, iv t2, iv u0, iv u1, iv u2, iv v0, iv v1, iv v2, rv o_tx, rv o_vx, rv o_ar, rv b64, iv rr, iv kk, .unset, .unset] []) (fun _ k => XS.icmpYes X67.here hx rfl (pc0 := 285) (pc' := 295) rfl (hb hby at_285) rfl (tlt hea1).1 (by decide) (by decide) k) ?_
          refine own_to (T' := T67) (mkF m 297 #[iv p0, iv p1, iv p2, iv p3, iv p4, iv p5, iv idx, iv tl, iv al, iv sm, iv 0, iv vl, iv t0, iv t1, iv t2, iv u0, iv u1, iv u2, iv v0, iv v1, iv v2, rv o_tx, rv o_vx, rv o_ar, rv b64, iv rr, iv kk, .unset, .unset] [(.int tl)]) (fun _ k => XS.iload X67.here hx rfl (hb hby at_295) rfl k) ?_
          refine own_to (T' := T67) (mkF m 298 #[iv p0, iv p1, iv p2, iv p3, iv p4, iv p5, iv idx, iv tl, iv al, iv sm, iv 0, iv vl, iv t0, iv t1, iv t2, iv u0, iv u1, iv u2, iv v0, iv v1, iv v2, rv o_tx, rv o_vx, rv o_ar, rv b64, iv rr, iv kk, .unset, .unset] [(.int (2 : Int32)), (.int tl)]) (fun _ k => XS.iconst X67.here hx rfl (hb hby at_297) k) ?_
          by_cases hea2 : tl < (2 : Int32)
          · refine own_to (T' := T67) (mkF m 308 #[iv p0, iv p1, iv p2, iv p3, iv p4, iv p5, iv idx, iv tl, iv al, iv sm, iv 0, iv vl, iv t0, iv t1, iv t2, iv u0, iv u1, iv u2, iv v0, iv v1, iv v2, rv o_tx, rv o_vx, rv o_ar, rv b64, iv rr, iv kk, .unset, .unset] []) (fun _ k => XS.icmpYes X67.here hx rfl (pc0 := 298) (pc' := 308) rfl (hb hby at_298) rfl (tlt hea2).1 (by decide) (by decide) k) ?_
            refine own_to (T' := T67) (mkF m 310 #[iv p0, iv p1, iv p2, iv p3, iv p4, iv p5, iv idx, iv tl, iv al, iv sm, iv 0, iv vl, iv t0, iv t1, iv t2, iv u0, iv u1, iv u2, iv v0, iv v1, iv v2, rv o_tx, rv o_vx, rv o_ar, rv b64, iv rr, iv kk, .unset, .unset] [(.int tl)]) (fun _ k => XS.iload X67.here hx rfl (hb hby at_308) rfl k) ?_
            refine own_to (T' := T67) (mkF m 311 #[iv p0, iv p1, iv p2, iv p3, iv p4, iv p5, iv idx, iv tl, iv al, iv sm, iv 0, iv vl, iv t0, iv t1, iv t2, iv u0, iv u1, iv u2, iv v0, iv v1, iv v2, rv o_tx, rv o_vx, rv o_ar, rv b64, iv rr, iv kk, .unset, .unset] [(.int (3 : Int32)), (.int tl)]) (fun _ k => XS.iconst X67.here hx rfl (hb hby at_310) k) ?_
            by_cases hea3 : tl < (3 : Int32)
            · refine own_to (T' := T67) (mkF m 321 #[iv p0, iv p1, iv p2, iv p3, iv p4, iv p5, iv idx, iv tl, iv al, iv sm, iv 0, iv vl, iv t0, iv t1, iv t2, iv u0, iv u1, iv u2, iv v0, iv v1, iv v2, rv o_tx, rv o_vx, rv o_ar, rv b64, iv rr, iv kk, .unset, .unset] []) (fun _ k => XS.icmpYes X67.here hx rfl (pc0 := 311) (pc' := 321) rfl (hb hby at_311) rfl (tlt hea3).1 (by decide) (by decide) k) ?_
              refine own_to (T' := T67) (mkF m 322 #[iv p0, iv p1, iv p2, iv p3, iv p4, iv p5, iv idx, iv tl, iv al, iv sm, iv 0, iv vl, iv t0, iv t1, iv t2, iv u0, iv u1, iv u2, iv v0, iv v1, iv v2, rv o_tx, rv o_vx, rv o_ar, rv b64, iv rr, iv kk, .unset, .unset] [(.int (1 : Int32))]) (fun _ k => XS.iconst X67.here hx rfl (hb hby at_321) k) ?_
              refine own_to (T' := T67) (mkF m 326 #[iv p0, iv p1, iv p2, iv p3, iv p4, iv p5, iv idx, iv tl, iv al, iv sm, iv 0, iv vl, iv t0, iv t1, iv t2, iv u0, iv u1, iv u2, iv v0, iv v1, iv v2, rv o_tx, rv o_vx, rv o_ar, rv b64, iv rr, iv kk, .unset, .unset] [(.int (1 : Int32))]) (fun _ k => XS.goto X67.here hx rfl (pc0 := 322) (pc' := 326) rfl (hb hby at_322) (by decide) (by decide) k) ?_
              exact jn69 (1 : Int32) (⟨Or.inr rfl, fun _ => ⟨hea0, Or.inl hea1, Or.inl hea2, Or.inl hea3⟩, fun _ => rfl⟩)
            · refine own_to (T' := T67) (mkF m 314 #[iv p0, iv p1, iv p2, iv p3, iv p4, iv p5, iv idx, iv tl, iv al, iv sm, iv 0, iv vl, iv t0, iv t1, iv t2, iv u0, iv u1, iv u2, iv v0, iv v1, iv v2, rv o_tx, rv o_vx, rv o_ar, rv b64, iv rr, iv kk, .unset, .unset] []) (fun _ k => XS.icmpNo X67.here hx rfl (hb hby at_311) rfl (flt hea3).1 k) ?_
              refine own_to (T' := T67) (mkF m 316 #[iv p0, iv p1, iv p2, iv p3, iv p4, iv p5, iv idx, iv tl, iv al, iv sm, iv 0, iv vl, iv t0, iv t1, iv t2, iv u0, iv u1, iv u2, iv v0, iv v1, iv v2, rv o_tx, rv o_vx, rv o_ar, rv b64, iv rr, iv kk, .unset, .unset] [(.int t2)]) (fun _ k => XS.iload X67.here hx rfl (hb hby at_314) rfl k) ?_
              refine own_to (T' := T67) (mkF m 318 #[iv p0, iv p1, iv p2, iv p3, iv p4, iv p5, iv idx, iv tl, iv al, iv sm, iv 0, iv vl, iv t0, iv t1, iv t2, iv u0, iv u1, iv u2, iv v0, iv v1, iv v2, rv o_tx, rv o_vx, rv o_ar, rv b64, iv rr, iv kk, .unset, .unset] [(.int u2), (.int t2)]) (fun _ k => XS.iload X67.here hx rfl (hb hby at_316) rfl k) ?_
              by_cases hea4 : t2 = u2
              · refine own_to (T' := T67) (mkF m 321 #[iv p0, iv p1, iv p2, iv p3, iv p4, iv p5, iv idx, iv tl, iv al, iv sm, iv 0, iv vl, iv t0, iv t1, iv t2, iv u0, iv u1, iv u2, iv v0, iv v1, iv v2, rv o_tx, rv o_vx, rv o_ar, rv b64, iv rr, iv kk, .unset, .unset] []) (fun _ k => XS.icmpNo X67.here hx rfl (hb hby at_318) rfl (teq hea4).2 k) ?_
                refine own_to (T' := T67) (mkF m 322 #[iv p0, iv p1, iv p2, iv p3, iv p4, iv p5, iv idx, iv tl, iv al, iv sm, iv 0, iv vl, iv t0, iv t1, iv t2, iv u0, iv u1, iv u2, iv v0, iv v1, iv v2, rv o_tx, rv o_vx, rv o_ar, rv b64, iv rr, iv kk, .unset, .unset] [(.int (1 : Int32))]) (fun _ k => XS.iconst X67.here hx rfl (hb hby at_321) k) ?_
                refine own_to (T' := T67) (mkF m 326 #[iv p0, iv p1, iv p2, iv p3, iv p4, iv p5, iv idx, iv tl, iv al, iv sm, iv 0, iv vl, iv t0, iv t1, iv t2, iv u0, iv u1, iv u2, iv v0, iv v1, iv v2, rv o_tx, rv o_vx, rv o_ar, rv b64, iv rr, iv kk, .unset, .unset] [(.int (1 : Int32))]) (fun _ k => XS.goto X67.here hx rfl (pc0 := 322) (pc' := 326) rfl (hb hby at_322) (by decide) (by decide) k) ?_
                exact jn69 (1 : Int32) (⟨Or.inr rfl, fun _ => ⟨hea0, Or.inl hea1, Or.inl hea2, Or.inr hea4⟩, fun _ => rfl⟩)
              · refine own_to (T' := T67) (mkF m 325 #[iv p0, iv p1, iv p2, iv p3, iv p4, iv p5, iv idx, iv tl, iv al, iv sm, iv 0, iv vl, iv t0, iv t1, iv t2, iv u0, iv u1, iv u2, iv v0, iv v1, iv v2, rv o_tx, rv o_vx, rv o_ar, rv b64, iv rr, iv kk, .unset, .unset] []) (fun _ k => XS.icmpYes X67.here hx rfl (pc0 := 318) (pc' := 325) rfl (hb hby at_318) rfl (feq hea4).2 (by decide) (by decide) k) ?_
                refine own_to (T' := T67) (mkF m 326 #[iv p0, iv p1, iv p2, iv p3, iv p4, iv p5, iv idx, iv tl, iv al, iv sm, iv 0, iv vl, iv t0, iv t1, iv t2, iv u0, iv u1, iv u2, iv v0, iv v1, iv v2, rv o_tx, rv o_vx, rv o_ar, rv b64, iv rr, iv kk, .unset, .unset] [(.int (0 : Int32))]) (fun _ k => XS.iconst X67.here hx rfl (hb hby at_325) k) ?_
                exact jn69 (0 : Int32) (⟨Or.inl rfl, fun q => absurd q (by decide), fun q => q.2.2.2.elim (fun q => absurd q hea3) (fun q => absurd q hea4)⟩)
          · refine own_to (T' := T67) (mkF m 301 #[iv p0, iv p1, iv p2, iv p3, iv p4, iv p5, iv idx, iv tl, iv al, iv sm, iv 0, iv vl, iv t0, iv t1, iv t2, iv u0, iv u1, iv u2, iv v0, iv v1, iv v2, rv o_tx, rv o_vx, rv o_ar, rv b64, iv rr, iv kk, .unset, .unset] []) (fun _ k => XS.icmpNo X67.here hx rfl (hb hby at_298) rfl (flt hea2).1 k) ?_
            refine own_to (T' := T67) (mkF m 303 #[iv p0, iv p1, iv p2, iv p3, iv p4, iv p5, iv idx, iv tl, iv al, iv sm, iv 0, iv vl, iv t0, iv t1, iv t2, iv u0, iv u1, iv u2, iv v0, iv v1, iv v2, rv o_tx, rv o_vx, rv o_ar, rv b64, iv rr, iv kk, .unset, .unset] [(.int t1)]) (fun _ k => XS.iload X67.here hx rfl (hb hby at_301) rfl k) ?_
            refine own_to (T' := T67) (mkF m 305 #[iv p0, iv p1, iv p2, iv p3, iv p4, iv p5, iv idx, iv tl, iv al, iv sm, iv 0, iv vl, iv t0, iv t1, iv t2, iv u0, iv u1, iv u2, iv v0, iv v1, iv v2, rv o_tx, rv o_vx, rv o_ar, rv b64, iv rr, iv kk, .unset, .unset] [(.int u1), (.int t1)]) (fun _ k => XS.iload X67.here hx rfl (hb hby at_303) rfl k) ?_
            by_cases hea3 : t1 = u1
            · refine own_to (T' := T67) (mkF m 308 #[iv p0, iv p1, iv p2, iv p3, iv p4, iv p5, iv idx, iv tl, iv al, iv sm, iv 0, iv vl, iv t0, iv t1, iv t2, iv u0, iv u1, iv u2, iv v0, iv v1, iv v2, rv o_tx, rv o_vx, rv o_ar, rv b64, iv rr, iv kk, .unset, .unset] []) (fun _ k => XS.icmpNo X67.here hx rfl (hb hby at_305) rfl (teq hea3).2 k) ?_
              refine own_to (T' := T67) (mkF m 310 #[iv p0, iv p1, iv p2, iv p3, iv p4, iv p5, iv idx, iv tl, iv al, iv sm, iv 0, iv vl, iv t0, iv t1, iv t2, iv u0, iv u1, iv u2, iv v0, iv v1, iv v2, rv o_tx, rv o_vx, rv o_ar, rv b64, iv rr, iv kk, .unset, .unset] [(.int tl)]) (fun _ k => XS.iload X67.here hx rfl (hb hby at_308) rfl k) ?_
              refine own_to (T' := T67) (mkF m 311 #[iv p0, iv p1, iv p2, iv p3, iv p4, iv p5, iv idx, iv tl, iv al, iv sm, iv 0, iv vl, iv t0, iv t1, iv t2, iv u0, iv u1, iv u2, iv v0, iv v1, iv v2, rv o_tx, rv o_vx, rv o_ar, rv b64, iv rr, iv kk, .unset, .unset] [(.int (3 : Int32)), (.int tl)]) (fun _ k => XS.iconst X67.here hx rfl (hb hby at_310) k) ?_
              by_cases hea4 : tl < (3 : Int32)
              · refine own_to (T' := T67) (mkF m 321 #[iv p0, iv p1, iv p2, iv p3, iv p4, iv p5, iv idx, iv tl, iv al, iv sm, iv 0, iv vl, iv t0, iv t1, iv t2, iv u0, iv u1, iv u2, iv v0, iv v1, iv v2, rv o_tx, rv o_vx, rv o_ar, rv b64, iv rr, iv kk, .unset, .unset] []) (fun _ k => XS.icmpYes X67.here hx rfl (pc0 := 311) (pc' := 321) rfl (hb hby at_311) rfl (tlt hea4).1 (by decide) (by decide) k) ?_
                refine own_to (T' := T67) (mkF m 322 #[iv p0, iv p1, iv p2, iv p3, iv p4, iv p5, iv idx, iv tl, iv al, iv sm, iv 0, iv vl, iv t0, iv t1, iv t2, iv u0, iv u1, iv u2, iv v0, iv v1, iv v2, rv o_tx, rv o_vx, rv o_ar, rv b64, iv rr, iv kk, .unset, .unset] [(.int (1 : Int32))]) (fun _ k => XS.iconst X67.here hx rfl (hb hby at_321) k) ?_
                refine own_to (T' := T67) (mkF m 326 #[iv p0, iv p1, iv p2, iv p3, iv p4, iv p5, iv idx, iv tl, iv al, iv sm, iv 0, iv vl, iv t0, iv t1, iv t2, iv u0, iv u1, iv u2, iv v0, iv v1, iv v2, rv o_tx, rv o_vx, rv o_ar, rv b64, iv rr, iv kk, .unset, .unset] [(.int (1 : Int32))]) (fun _ k => XS.goto X67.here hx rfl (pc0 := 322) (pc' := 326) rfl (hb hby at_322) (by decide) (by decide) k) ?_
                exact jn69 (1 : Int32) (⟨Or.inr rfl, fun _ => ⟨hea0, Or.inl hea1, Or.inr hea3, Or.inl hea4⟩, fun _ => rfl⟩)
              · refine own_to (T' := T67) (mkF m 314 #[iv p0, iv p1, iv p2, iv p3, iv p4, iv p5, iv idx, iv tl, iv al, iv sm, iv 0, iv vl, iv t0, iv t1, iv t2, iv u0, iv u1, iv u2, iv v0, iv v1, iv v2, rv o_tx, rv o_vx, rv o_ar, rv b64, iv rr, iv kk, .unset, .unset] []) (fun _ k => XS.icmpNo X67.here hx rfl (hb hby at_311) rfl (flt hea4).1 k) ?_
                refine own_to (T' := T67) (mkF m 316 #[iv p0, iv p1, iv p2, iv p3, iv p4, iv p5, iv idx, iv tl, iv al, iv sm, iv 0, iv vl, iv t0, iv t1, iv t2, iv u0, iv u1, iv u2, iv v0, iv v1, iv v2, rv o_tx, rv o_vx, rv o_ar, rv b64, iv rr, iv kk, .unset, .unset] [(.int t2)]) (fun _ k => XS.iload X67.here hx rfl (hb hby at_314) rfl k) ?_
                refine own_to (T' := T67) (mkF m 318 #[iv p0, iv p1, iv p2, iv p3, iv p4, iv p5, iv idx, iv tl, iv al, iv sm, iv 0, iv vl, iv t0, iv t1, iv t2, iv u0, iv u1, iv u2, iv v0, iv v1, iv v2, rv o_tx, rv o_vx, rv o_ar, rv b64, iv rr, iv kk, .unset, .unset] [(.int u2), (.int t2)]) (fun _ k => XS.iload X67.here hx rfl (hb hby at_316) rfl k) ?_
                by_cases hea5 : t2 = u2
                · refine own_to (T' := T67) (mkF m 321 #[iv p0, iv p1, iv p2, iv p3, iv p4, iv p5, iv idx, iv tl, iv al, iv sm, iv 0, iv vl, iv t0, iv t1, iv t2, iv u0, iv u1, iv u2, iv v0, iv v1, iv v2, rv o_tx, rv o_vx, rv o_ar, rv b64, iv rr, iv kk, .unset, .unset] []) (fun _ k => XS.icmpNo X67.here hx rfl (hb hby at_318) rfl (teq hea5).2 k) ?_
                  refine own_to (T' := T67) (mkF m 322 #[iv p0, iv p1, iv p2, iv p3, iv p4, iv p5, iv idx, iv tl, iv al, iv sm, iv 0, iv vl, iv t0, iv t1, iv t2, iv u0, iv u1, iv u2, iv v0, iv v1, iv v2, rv o_tx, rv o_vx, rv o_ar, rv b64, iv rr, iv kk, .unset, .unset] [(.int (1 : Int32))]) (fun _ k => XS.iconst X67.here hx rfl (hb hby at_321) k) ?_
                  refine own_to (T' := T67) (mkF m 326 #[iv p0, iv p1, iv p2, iv p3, iv p4, iv p5, iv idx, iv tl, iv al, iv sm, iv 0, iv vl, iv t0, iv t1, iv t2, iv u0, iv u1, iv u2, iv v0, iv v1, iv v2, rv o_tx, rv o_vx, rv o_ar, rv b64, iv rr, iv kk, .unset, .unset] [(.int (1 : Int32))]) (fun _ k => XS.goto X67.here hx rfl (pc0 := 322) (pc' := 326) rfl (hb hby at_322) (by decide) (by decide) k) ?_
                  exact jn69 (1 : Int32) (⟨Or.inr rfl, fun _ => ⟨hea0, Or.inl hea1, Or.inr hea3, Or.inr hea5⟩, fun _ => rfl⟩)
                · refine own_to (T' := T67) (mkF m 325 #[iv p0, iv p1, iv p2, iv p3, iv p4, iv p5, iv idx, iv tl, iv al, iv sm, iv 0, iv vl, iv t0, iv t1, iv t2, iv u0, iv u1, iv u2, iv v0, iv v1, iv v2, rv o_tx, rv o_vx, rv o_ar, rv b64, iv rr, iv kk, .unset, .unset] []) (fun _ k => XS.icmpYes X67.here hx rfl (pc0 := 318) (pc' := 325) rfl (hb hby at_318) rfl (feq hea5).2 (by decide) (by decide) k) ?_
                  refine own_to (T' := T67) (mkF m 326 #[iv p0, iv p1, iv p2, iv p3, iv p4, iv p5, iv idx, iv tl, iv al, iv sm, iv 0, iv vl, iv t0, iv t1, iv t2, iv u0, iv u1, iv u2, iv v0, iv v1, iv v2, rv o_tx, rv o_vx, rv o_ar, rv b64, iv rr, iv kk, .unset, .unset] [(.int (0 : Int32))]) (fun _ k => XS.iconst X67.here hx rfl (hb hby at_325) k) ?_
                  exact jn69 (0 : Int32) (⟨Or.inl rfl, fun q => absurd q (by decide), fun q => q.2.2.2.elim (fun q => absurd q hea4) (fun q => absurd q hea5)⟩)
            · refine own_to (T' := T67) (mkF m 325 #[iv p0, iv p1, iv p2, iv p3, iv p4, iv p5, iv idx, iv tl, iv al, iv sm, iv 0, iv vl, iv t0, iv t1, iv t2, iv u0, iv u1, iv u2, iv v0, iv v1, iv v2, rv o_tx, rv o_vx, rv o_ar, rv b64, iv rr, iv kk, .unset, .unset] []) (fun _ k => XS.icmpYes X67.here hx rfl (pc0 := 305) (pc' := 325) rfl (hb hby at_305) rfl (feq hea3).2 (by decide) (by decide) k) ?_
              refine own_to (T' := T67) (mkF m 326 #[iv p0, iv p1, iv p2, iv p3, iv p4, iv p5, iv idx, iv tl, iv al, iv sm, iv 0, iv vl, iv t0, iv t1, iv t2, iv u0, iv u1, iv u2, iv v0, iv v1, iv v2, rv o_tx, rv o_vx, rv o_ar, rv b64, iv rr, iv kk, .unset, .unset] [(.int (0 : Int32))]) (fun _ k => XS.iconst X67.here hx rfl (hb hby at_325) k) ?_
              exact jn69 (0 : Int32) (⟨Or.inl rfl, fun q => absurd q (by decide), fun q => q.2.2.1.elim (fun q => absurd q hea2) (fun q => absurd q hea3)⟩)
        · refine own_to (T' := T67) (mkF m 288 #[iv p0, iv p1, iv p2, iv p3, iv p4, iv p5, iv idx, iv tl, iv al, iv sm, iv 0, iv vl, iv t0, iv t1, iv t2, iv u0, iv u1, iv u2, iv v0, iv v1, iv v2, rv o_tx, rv o_vx, rv o_ar, rv b64, iv rr, iv kk, .unset, .unset] []) (fun _ k => XS.icmpNo X67.here hx rfl (hb hby at_285) rfl (flt hea1).1 k) ?_
          refine own_to (T' := T67) (mkF m 290 #[iv p0, iv p1, iv p2, iv p3, iv p4, iv p5, iv idx, iv tl, iv al, iv sm, iv 0, iv vl, iv t0, iv t1, iv t2, iv u0, iv u1, iv u2, iv v0, iv v1, iv v2, rv o_tx, rv o_vx, rv o_ar, rv b64, iv rr, iv kk, .unset, .unset] [(.int t0)]) (fun _ k => XS.iload X67.here hx rfl (hb hby at_288) rfl k) ?_
          refine own_to (T' := T67) (mkF m 292 #[iv p0, iv p1, iv p2, iv p3, iv p4, iv p5, iv idx, iv tl, iv al, iv sm, iv 0, iv vl, iv t0, iv t1, iv t2, iv u0, iv u1, iv u2, iv v0, iv v1, iv v2, rv o_tx, rv o_vx, rv o_ar, rv b64, iv rr, iv kk, .unset, .unset] [(.int u0), (.int t0)]) (fun _ k => XS.iload X67.here hx rfl (hb hby at_290) rfl k) ?_
          by_cases hea2 : t0 = u0
          · refine own_to (T' := T67) (mkF m 295 #[iv p0, iv p1, iv p2, iv p3, iv p4, iv p5, iv idx, iv tl, iv al, iv sm, iv 0, iv vl, iv t0, iv t1, iv t2, iv u0, iv u1, iv u2, iv v0, iv v1, iv v2, rv o_tx, rv o_vx, rv o_ar, rv b64, iv rr, iv kk, .unset, .unset] []) (fun _ k => XS.icmpNo X67.here hx rfl (hb hby at_292) rfl (teq hea2).2 k) ?_
            refine own_to (T' := T67) (mkF m 297 #[iv p0, iv p1, iv p2, iv p3, iv p4, iv p5, iv idx, iv tl, iv al, iv sm, iv 0, iv vl, iv t0, iv t1, iv t2, iv u0, iv u1, iv u2, iv v0, iv v1, iv v2, rv o_tx, rv o_vx, rv o_ar, rv b64, iv rr, iv kk, .unset, .unset] [(.int tl)]) (fun _ k => XS.iload X67.here hx rfl (hb hby at_295) rfl k) ?_
            refine own_to (T' := T67) (mkF m 298 #[iv p0, iv p1, iv p2, iv p3, iv p4, iv p5, iv idx, iv tl, iv al, iv sm, iv 0, iv vl, iv t0, iv t1, iv t2, iv u0, iv u1, iv u2, iv v0, iv v1, iv v2, rv o_tx, rv o_vx, rv o_ar, rv b64, iv rr, iv kk, .unset, .unset] [(.int (2 : Int32)), (.int tl)]) (fun _ k => XS.iconst X67.here hx rfl (hb hby at_297) k) ?_
            by_cases hea3 : tl < (2 : Int32)
            · refine own_to (T' := T67) (mkF m 308 #[iv p0, iv p1, iv p2, iv p3, iv p4, iv p5, iv idx, iv tl, iv al, iv sm, iv 0, iv vl, iv t0, iv t1, iv t2, iv u0, iv u1, iv u2, iv v0, iv v1, iv v2, rv o_tx, rv o_vx, rv o_ar, rv b64, iv rr, iv kk, .unset, .unset] []) (fun _ k => XS.icmpYes X67.here hx rfl (pc0 := 298) (pc' := 308) rfl (hb hby at_298) rfl (tlt hea3).1 (by decide) (by decide) k) ?_
              refine own_to (T' := T67) (mkF m 310 #[iv p0, iv p1, iv p2, iv p3, iv p4, iv p5, iv idx, iv tl, iv al, iv sm, iv 0, iv vl, iv t0, iv t1, iv t2, iv u0, iv u1, iv u2, iv v0, iv v1, iv v2, rv o_tx, rv o_vx, rv o_ar, rv b64, iv rr, iv kk, .unset, .unset] [(.int tl)]) (fun _ k => XS.iload X67.here hx rfl (hb hby at_308) rfl k) ?_
              refine own_to (T' := T67) (mkF m 311 #[iv p0, iv p1, iv p2, iv p3, iv p4, iv p5, iv idx, iv tl, iv al, iv sm, iv 0, iv vl, iv t0, iv t1, iv t2, iv u0, iv u1, iv u2, iv v0, iv v1, iv v2, rv o_tx, rv o_vx, rv o_ar, rv b64, iv rr, iv kk, .unset, .unset] [(.int (3 : Int32)), (.int tl)]) (fun _ k => XS.iconst X67.here hx rfl (hb hby at_310) k) ?_
              by_cases hea4 : tl < (3 : Int32)
              · refine own_to (T' := T67) (mkF m 321 #[iv p0, iv p1, iv p2, iv p3, iv p4, iv p5, iv idx, iv tl, iv al, iv sm, iv 0, iv vl, iv t0, iv t1, iv t2, iv u0, iv u1, iv u2, iv v0, iv v1, iv v2, rv o_tx, rv o_vx, rv o_ar, rv b64, iv rr, iv kk, .unset, .unset] []) (fun _ k => XS.icmpYes X67.here hx rfl (pc0 := 311) (pc' := 321) rfl (hb hby at_311) rfl (tlt hea4).1 (by decide) (by decide) k) ?_
                refine own_to (T' := T67) (mkF m 322 #[iv p0, iv p1, iv p2, iv p3, iv p4, iv p5, iv idx, iv tl, iv al, iv sm, iv 0, iv vl, iv t0, iv t1, iv t2, iv u0, iv u1, iv u2, iv v0, iv v1, iv v2, rv o_tx, rv o_vx, rv o_ar, rv b64, iv rr, iv kk, .unset, .unset] [(.int (1 : Int32))]) (fun _ k => XS.iconst X67.here hx rfl (hb hby at_321) k) ?_
                refine own_to (T' := T67) (mkF m 326 #[iv p0, iv p1, iv p2, iv p3, iv p4, iv p5, iv idx, iv tl, iv al, iv sm, iv 0, iv vl, iv t0, iv t1, iv t2, iv u0, iv u1, iv u2, iv v0, iv v1, iv v2, rv o_tx, rv o_vx, rv o_ar, rv b64, iv rr, iv kk, .unset, .unset] [(.int (1 : Int32))]) (fun _ k => XS.goto X67.here hx rfl (pc0 := 322) (pc' := 326) rfl (hb hby at_322) (by decide) (by decide) k) ?_
                exact jn69 (1 : Int32) (⟨Or.inr rfl, fun _ => ⟨hea0, Or.inr hea2, Or.inl hea3, Or.inl hea4⟩, fun _ => rfl⟩)
              · refine own_to (T' := T67) (mkF m 314 #[iv p0, iv p1, iv p2, iv p3, iv p4, iv p5, iv idx, iv tl, iv al, iv sm, iv 0, iv vl, iv t0, iv t1, iv t2, iv u0, iv u1, iv u2, iv v0, iv v1, iv v2, rv o_tx, rv o_vx, rv o_ar, rv b64, iv rr, iv kk, .unset, .unset] []) (fun _ k => XS.icmpNo X67.here hx rfl (hb hby at_311) rfl (flt hea4).1 k) ?_
                refine own_to (T' := T67) (mkF m 316 #[iv p0, iv p1, iv p2, iv p3, iv p4, iv p5, iv idx, iv tl, iv al, iv sm, iv 0, iv vl, iv t0, iv t1, iv t2, iv u0, iv u1, iv u2, iv v0, iv v1, iv v2, rv o_tx, rv o_vx, rv o_ar, rv b64, iv rr, iv kk, .unset, .unset] [(.int t2)]) (fun _ k => XS.iload X67.here hx rfl (hb hby at_314) rfl k) ?_
                refine own_to (T' := T67) (mkF m 318 #[iv p0, iv p1, iv p2, iv p3, iv p4, iv p5, iv idx, iv tl, iv al, iv sm, iv 0, iv vl, iv t0, iv t1, iv t2, iv u0, iv u1, iv u2, iv v0, iv v1, iv v2, rv o_tx, rv o_vx, rv o_ar, rv b64, iv rr, iv kk, .unset, .unset] [(.int u2), (.int t2)]) (fun _ k => XS.iload X67.here hx rfl (hb hby at_316) rfl k) ?_
                by_cases hea5 : t2 = u2
                · refine own_to (T' := T67) (mkF m 321 #[iv p0, iv p1, iv p2, iv p3, iv p4, iv p5, iv idx, iv tl, iv al, iv sm, iv 0, iv vl, iv t0, iv t1, iv t2, iv u0, iv u1, iv u2, iv v0, iv v1, iv v2, rv o_tx, rv o_vx, rv o_ar, rv b64, iv rr, iv kk, .unset, .unset] []) (fun _ k => XS.icmpNo X67.here hx rfl (hb hby at_318) rfl (teq hea5).2 k) ?_
                  refine own_to (T' := T67) (mkF m 322 #[iv p0, iv p1, iv p2, iv p3, iv p4, iv p5, iv idx, iv tl, iv al, iv sm, iv 0, iv vl, iv t0, iv t1, iv t2, iv u0, iv u1, iv u2, iv v0, iv v1, iv v2, rv o_tx, rv o_vx, rv o_ar, rv b64, iv rr, iv kk, .unset, .unset] [(.int (1 : Int32))]) (fun _ k => XS.iconst X67.here hx rfl (hb hby at_321) k) ?_
                  refine own_to (T' := T67) (mkF m 326 #[iv p0, iv p1, iv p2, iv p3, iv p4, iv p5, iv idx, iv tl, iv al, iv sm, iv 0, iv vl, iv t0, iv t1, iv t2, iv u0, iv u1, iv u2, iv v0, iv v1, iv v2, rv o_tx, rv o_vx, rv o_ar, rv b64, iv rr, iv kk, .unset, .unset] [(.int (1 : Int32))]) (fun _ k => XS.goto X67.here hx rfl (pc0 := 322) (pc' := 326) rfl (hb hby at_322) (by decide) (by decide) k) ?_
                  exact jn69 (1 : Int32) (⟨Or.inr rfl, fun _ => ⟨hea0, Or.inr hea2, Or.inl hea3, Or.inr hea5⟩, fun _ => rfl⟩)
                · refine own_to (T' := T67) (mkF m 325 #[iv p0, iv p1, iv p2, iv p3, iv p4, iv p5, iv idx, iv tl, iv al, iv sm, iv 0, iv vl, iv t0, iv t1, iv t2, iv u0, iv u1, iv u2, iv v0, iv v1, iv v2, rv o_tx, rv o_vx, rv o_ar, rv b64, iv rr, iv kk, .unset, .unset] []) (fun _ k => XS.icmpYes X67.here hx rfl (pc0 := 318) (pc' := 325) rfl (hb hby at_318) rfl (feq hea5).2 (by decide) (by decide) k) ?_
                  refine own_to (T' := T67) (mkF m 326 #[iv p0, iv p1, iv p2, iv p3, iv p4, iv p5, iv idx, iv tl, iv al, iv sm, iv 0, iv vl, iv t0, iv t1, iv t2, iv u0, iv u1, iv u2, iv v0, iv v1, iv v2, rv o_tx, rv o_vx, rv o_ar, rv b64, iv rr, iv kk, .unset, .unset] [(.int (0 : Int32))]) (fun _ k => XS.iconst X67.here hx rfl (hb hby at_325) k) ?_
                  exact jn69 (0 : Int32) (⟨Or.inl rfl, fun q => absurd q (by decide), fun q => q.2.2.2.elim (fun q => absurd q hea4) (fun q => absurd q hea5)⟩)
            · refine own_to (T' := T67) (mkF m 301 #[iv p0, iv p1, iv p2, iv p3, iv p4, iv p5, iv idx, iv tl, iv al, iv sm, iv 0, iv vl, iv t0, iv t1, iv t2, iv u0, iv u1, iv u2, iv v0, iv v1, iv v2, rv o_tx, rv o_vx, rv o_ar, rv b64, iv rr, iv kk, .unset, .unset] []) (fun _ k => XS.icmpNo X67.here hx rfl (hb hby at_298) rfl (flt hea3).1 k) ?_
              refine own_to (T' := T67) (mkF m 303 #[iv p0, iv p1, iv p2, iv p3, iv p4, iv p5, iv idx, iv tl, iv al, iv sm, iv 0, iv vl, iv t0, iv t1, iv t2, iv u0, iv u1, iv u2, iv v0, iv v1, iv v2, rv o_tx, rv o_vx, rv o_ar, rv b64, iv rr, iv kk, .unset, .unset] [(.int t1)]) (fun _ k => XS.iload X67.here hx rfl (hb hby at_301) rfl k) ?_
              refine own_to (T' := T67) (mkF m 305 #[iv p0, iv p1, iv p2, iv p3, iv p4, iv p5, iv idx, iv tl, iv al, iv sm, iv 0, iv vl, iv t0, iv t1, iv t2, iv u0, iv u1, iv u2, iv v0, iv v1, iv v2, rv o_tx, rv o_vx, rv o_ar, rv b64, iv rr, iv kk, .unset, .unset] [(.int u1), (.int t1)]) (fun _ k => XS.iload X67.here hx rfl (hb hby at_303) rfl k) ?_
              by_cases hea4 : t1 = u1
              · refine own_to (T' := T67) (mkF m 308 #[iv p0, iv p1, iv p2, iv p3, iv p4, iv p5, iv idx, iv tl, iv al, iv sm, iv 0, iv vl, iv t0, iv t1, iv t2, iv u0, iv u1, iv u2, iv v0, iv v1, iv v2, rv o_tx, rv o_vx, rv o_ar, rv b64, iv rr, iv kk, .unset, .unset] []) (fun _ k => XS.icmpNo X67.here hx rfl (hb hby at_305) rfl (teq hea4).2 k) ?_
                refine own_to (T' := T67) (mkF m 310 #[iv p0, iv p1, iv p2, iv p3, iv p4, iv p5, iv idx, iv tl, iv al, iv sm, iv 0, iv vl, iv t0, iv t1, iv t2, iv u0, iv u1, iv u2, iv v0, iv v1, iv v2, rv o_tx, rv o_vx, rv o_ar, rv b64, iv rr, iv kk, .unset, .unset] [(.int tl)]) (fun _ k => XS.iload X67.here hx rfl (hb hby at_308) rfl k) ?_
                refine own_to (T' := T67) (mkF m 311 #[iv p0, iv p1, iv p2, iv p3, iv p4, iv p5, iv idx, iv tl, iv al, iv sm, iv 0, iv vl, iv t0, iv t1, iv t2, iv u0, iv u1, iv u2, iv v0, iv v1, iv v2, rv o_tx, rv o_vx, rv o_ar, rv b64, iv rr, iv kk, .unset, .unset] [(.int (3 : Int32)), (.int tl)]) (fun _ k => XS.iconst X67.here hx rfl (hb hby at_310) k) ?_
                by_cases hea5 : tl < (3 : Int32)
                · refine own_to (T' := T67) (mkF m 321 #[iv p0, iv p1, iv p2, iv p3, iv p4, iv p5, iv idx, iv tl, iv al, iv sm, iv 0, iv vl, iv t0, iv t1, iv t2, iv u0, iv u1, iv u2, iv v0, iv v1, iv v2, rv o_tx, rv o_vx, rv o_ar, rv b64, iv rr, iv kk, .unset, .unset] []) (fun _ k => XS.icmpYes X67.here hx rfl (pc0 := 311) (pc' := 321) rfl (hb hby at_311) rfl (tlt hea5).1 (by decide) (by decide) k) ?_
                  refine own_to (T' := T67) (mkF m 322 #[iv p0, iv p1, iv p2, iv p3, iv p4, iv p5, iv idx, iv tl, iv al, iv sm, iv 0, iv vl, iv t0, iv t1, iv t2, iv u0, iv u1, iv u2, iv v0, iv v1, iv v2, rv o_tx, rv o_vx, rv o_ar, rv b64, iv rr, iv kk, .unset, .unset] [(.int (1 : Int32))]) (fun _ k => XS.iconst X67.here hx rfl (hb hby at_321) k) ?_
                  refine own_to (T' := T67) (mkF m 326 #[iv p0, iv p1, iv p2, iv p3, iv p4, iv p5, iv idx, iv tl, iv al, iv sm, iv 0, iv vl, iv t0, iv t1, iv t2, iv u0, iv u1, iv u2, iv v0, iv v1, iv v2, rv o_tx, rv o_vx, rv o_ar, rv b64, iv rr, iv kk, .unset, .unset] [(.int (1 : Int32))]) (fun _ k => XS.goto X67.here hx rfl (pc0 := 322) (pc' := 326) rfl (hb hby at_322) (by decide) (by decide) k) ?_
                  exact jn69 (1 : Int32) (⟨Or.inr rfl, fun _ => ⟨hea0, Or.inr hea2, Or.inr hea4, Or.inl hea5⟩, fun _ => rfl⟩)
                · refine own_to (T' := T67) (mkF m 314 #[iv p0, iv p1, iv p2, iv p3, iv p4, iv p5, iv idx, iv tl, iv al, iv sm, iv 0, iv vl, iv t0, iv t1, iv t2, iv u0, iv u1, iv u2, iv v0, iv v1, iv v2, rv o_tx, rv o_vx, rv o_ar, rv b64, iv rr, iv kk, .unset, .unset] []) (fun _ k => XS.icmpNo X67.here hx rfl (hb hby at_311) rfl (flt hea5).1 k) ?_
                  refine own_to (T' := T67) (mkF m 316 #[iv p0, iv p1, iv p2, iv p3, iv p4, iv p5, iv idx, iv tl, iv al, iv sm, iv 0, iv vl, iv t0, iv t1, iv t2, iv u0, iv u1, iv u2, iv v0, iv v1, iv v2, rv o_tx, rv o_vx, rv o_ar, rv b64, iv rr, iv kk, .unset, .unset] [(.int t2)]) (fun _ k => XS.iload X67.here hx rfl (hb hby at_314) rfl k) ?_
                  refine own_to (T' := T67) (mkF m 318 #[iv p0, iv p1, iv p2, iv p3, iv p4, iv p5, iv idx, iv tl, iv al, iv sm, iv 0, iv vl, iv t0, iv t1, iv t2, iv u0, iv u1, iv u2, iv v0, iv v1, iv v2, rv o_tx, rv o_vx, rv o_ar, rv b64, iv rr, iv kk, .unset, .unset] [(.int u2), (.int t2)]) (fun _ k => XS.iload X67.here hx rfl (hb hby at_316) rfl k) ?_
                  by_cases hea6 : t2 = u2
                  · refine own_to (T' := T67) (mkF m 321 #[iv p0, iv p1, iv p2, iv p3, iv p4, iv p5, iv idx, iv tl, iv al, iv sm, iv 0, iv vl, iv t0, iv t1, iv t2, iv u0, iv u1, iv u2, iv v0, iv v1, iv v2, rv o_tx, rv o_vx, rv o_ar, rv b64, iv rr, iv kk, .unset, .unset] []) (fun _ k => XS.icmpNo X67.here hx rfl (hb hby at_318) rfl (teq hea6).2 k) ?_
                    refine own_to (T' := T67) (mkF m 322 #[iv p0, iv p1, iv p2, iv p3, iv p4, iv p5, iv idx, iv tl, iv al, iv sm, iv 0, iv vl, iv t0, iv t1, iv t2, iv u0, iv u1, iv u2, iv v0, iv v1, iv v2, rv o_tx, rv o_vx, rv o_ar, rv b64, iv rr, iv kk, .unset, .unset] [(.int (1 : Int32))]) (fun _ k => XS.iconst X67.here hx rfl (hb hby at_321) k) ?_
                    refine own_to (T' := T67) (mkF m 326 #[iv p0, iv p1, iv p2, iv p3, iv p4, iv p5, iv idx, iv tl, iv al, iv sm, iv 0, iv vl, iv t0, iv t1, iv t2, iv u0, iv u1, iv u2, iv v0, iv v1, iv v2, rv o_tx, rv o_vx, rv o_ar, rv b64, iv rr, iv kk, .unset, .unset] [(.int (1 : Int32))]) (fun _ k => XS.goto X67.here hx rfl (pc0 := 322) (pc' := 326) rfl (hb hby at_322) (by decide) (by decide) k) ?_
                    exact jn69 (1 : Int32) (⟨Or.inr rfl, fun _ => ⟨hea0, Or.inr hea2, Or.inr hea4, Or.inr hea6⟩, fun _ => rfl⟩)
                  · refine own_to (T' := T67) (mkF m 325 #[iv p0, iv p1, iv p2, iv p3, iv p4, iv p5, iv idx, iv tl, iv al, iv sm, iv 0, iv vl, iv t0, iv t1, iv t2, iv u0, iv u1, iv u2, iv v0, iv v1, iv v2, rv o_tx, rv o_vx, rv o_ar, rv b64, iv rr, iv kk, .unset, .unset] []) (fun _ k => XS.icmpYes X67.here hx rfl (pc0 := 318) (pc' := 325) rfl (hb hby at_318) rfl (feq hea6).2 (by decide) (by decide) k) ?_
                    refine own_to (T' := T67) (mkF m 326 #[iv p0, iv p1, iv p2, iv p3, iv p4, iv p5, iv idx, iv tl, iv al, iv sm, iv 0, iv vl, iv t0, iv t1, iv t2, iv u0, iv u1, iv u2, iv v0, iv v1, iv v2, rv o_tx, rv o_vx, rv o_ar, rv b64, iv rr, iv kk, .unset, .unset] [(.int (0 : Int32))]) (fun _ k => XS.iconst X67.here hx rfl (hb hby at_325) k) ?_
                    exact jn69 (0 : Int32) (⟨Or.inl rfl, fun q => absurd q (by decide), fun q => q.2.2.2.elim (fun q => absurd q hea5) (fun q => absurd q hea6)⟩)
              · refine own_to (T' := T67) (mkF m 325 #[iv p0, iv p1, iv p2, iv p3, iv p4, iv p5, iv idx, iv tl, iv al, iv sm, iv 0, iv vl, iv t0, iv t1, iv t2, iv u0, iv u1, iv u2, iv v0, iv v1, iv v2, rv o_tx, rv o_vx, rv o_ar, rv b64, iv rr, iv kk, .unset, .unset] []) (fun _ k => XS.icmpYes X67.here hx rfl (pc0 := 305) (pc' := 325) rfl (hb hby at_305) rfl (feq hea4).2 (by decide) (by decide) k) ?_
                refine own_to (T' := T67) (mkF m 326 #[iv p0, iv p1, iv p2, iv p3, iv p4, iv p5, iv idx, iv tl, iv al, iv sm, iv 0, iv vl, iv t0, iv t1, iv t2, iv u0, iv u1, iv u2, iv v0, iv v1, iv v2, rv o_tx, rv o_vx, rv o_ar, rv b64, iv rr, iv kk, .unset, .unset] [(.int (0 : Int32))]) (fun _ k => XS.iconst X67.here hx rfl (hb hby at_325) k) ?_
                exact jn69 (0 : Int32) (⟨Or.inl rfl, fun q => absurd q (by decide), fun q => q.2.2.1.elim (fun q => absurd q hea3) (fun q => absurd q hea4)⟩)
          · refine own_to (T' := T67) (mkF m 325 #[iv p0, iv p1, iv p2, iv p3, iv p4, iv p5, iv idx, iv tl, iv al, iv sm, iv 0, iv vl, iv t0, iv t1, iv t2, iv u0, iv u1, iv u2, iv v0, iv v1, iv v2, rv o_tx, rv o_vx, rv o_ar, rv b64, iv rr, iv kk, .unset, .unset] []) (fun _ k => XS.icmpYes X67.here hx rfl (pc0 := 292) (pc' := 325) rfl (hb hby at_292) rfl (feq hea2).2 (by decide) (by decide) k) ?_
            refine own_to (T' := T67) (mkF m 326 #[iv p0, iv p1, iv p2, iv p3, iv p4, iv p5, iv idx, iv tl, iv al, iv sm, iv 0, iv vl, iv t0, iv t1, iv t2, iv u0, iv u1, iv u2, iv v0, iv v1, iv v2, rv o_tx, rv o_vx, rv o_ar, rv b64, iv rr, iv kk, .unset, .unset] [(.int (0 : Int32))]) (fun _ k => XS.iconst X67.here hx rfl (hb hby at_325) k) ?_
            exact jn69 (0 : Int32) (⟨Or.inl rfl, fun q => absurd q (by decide), fun q => q.2.1.elim (fun q => absurd q hea1) (fun q => absurd q hea2)⟩)
      · refine own_to (T' := T67) (mkF m 325 #[iv p0, iv p1, iv p2, iv p3, iv p4, iv p5, iv idx, iv tl, iv al, iv sm, iv 0, iv vl, iv t0, iv t1, iv t2, iv u0, iv u1, iv u2, iv v0, iv v1, iv v2, rv o_tx, rv o_vx, rv o_ar, rv b64, iv rr, iv kk, .unset, .unset] []) (fun _ k => XS.icmpYes X67.here hx rfl (pc0 := 279) (pc' := 325) rfl (hb hby at_279) rfl (feq hea0).2 (by decide) (by decide) k) ?_
        refine own_to (T' := T67) (mkF m 326 #[iv p0, iv p1, iv p2, iv p3, iv p4, iv p5, iv idx, iv tl, iv al, iv sm, iv 0, iv vl, iv t0, iv t1, iv t2, iv u0, iv u1, iv u2, iv v0, iv v1, iv v2, rv o_tx, rv o_vx, rv o_ar, rv b64, iv rr, iv kk, .unset, .unset] [(.int (0 : Int32))]) (fun _ k => XS.iconst X67.here hx rfl (hb hby at_325) k) ?_
        exact jn69 (0 : Int32) (⟨Or.inl rfl, fun q => absurd q (by decide), fun q => absurd q.1 hea0⟩)
    intro ee hee
    refine own_to (T' := T67) (mkF m 328 #[iv p0, iv p1, iv p2, iv p3, iv p4, iv p5, iv idx, iv tl, iv al, iv sm, iv 0, iv vl, iv t0, iv t1, iv t2, iv u0, iv u1, iv u2, iv v0, iv v1, iv v2, rv o_tx, rv o_vx, rv o_ar, rv b64, iv rr, iv kk, iv ee, .unset] []) (fun _ k => XS.istore X67.here hx rfl (hb hby at_326) rfl (l' := #[iv p0, iv p1, iv p2, iv p3, iv p4, iv p5, iv idx, iv tl, iv al, iv sm, iv 0, iv vl, iv t0, iv t1, iv t2, iv u0, iv u1, iv u2, iv v0, iv v1, iv v2, rv o_tx, rv o_vx, rv o_ar, rv b64, iv rr, iv kk, iv ee, .unset]) rfl k) ?_
    refine own_to (T' := T67) (mkF m 330 #[iv p0, iv p1, iv p2, iv p3, iv p4, iv p5, iv idx, iv tl, iv al, iv sm, iv 0, iv vl, iv t0, iv t1, iv t2, iv u0, iv u1, iv u2, iv v0, iv v1, iv v2, rv o_tx, rv o_vx, rv o_ar, rv b64, iv rr, iv kk, iv ee, .unset] [(.int kk)]) (fun _ k => XS.iload X67.here hx rfl (hb hby at_328) rfl k) ?_
    suffices jn70 : ∀ ex : Int32, ((ex = 0 ∨ ex = 1) ∧ (ex = 1 ↔ (¬ kk = 0 ∧ ¬ ee = 0))) → own_E p e below (own_FinH Z s (own_Q0 Z p0 p1 p2 p3 p4 p5 G1 aI aS aN aY aE h0 n0) room_1.cells room_1.slots) T67 (mkF m 343 #[iv p0, iv p1, iv p2, iv p3, iv p4, iv p5, iv idx, iv tl, iv al, iv sm, iv 0, iv vl, iv t0, iv t1, iv t2, iv u0, iv u1, iv u2, iv v0, iv v1, iv v2, rv o_tx, rv o_vx, rv o_ar, rv b64, iv rr, iv kk, iv ee, .unset] [(.int ex)]) from by
      by_cases hxa0 : kk = (0 : Int32)
      · refine own_to (T' := T67) (mkF m 342 #[iv p0, iv p1, iv p2, iv p3, iv p4, iv p5, iv idx, iv tl, iv al, iv sm, iv 0, iv vl, iv t0, iv t1, iv t2, iv u0, iv u1, iv u2, iv v0, iv v1, iv v2, rv o_tx, rv o_vx, rv o_ar, rv b64, iv rr, iv kk, iv ee, .unset] []) (fun _ k => XS.ifYes X67.here hx rfl (pc0 := 330) (pc' := 342) rfl (hb hby at_330) rfl ((if0 _ _).trans (teq hxa0).1) (by decide) (by decide) k) ?_
        refine own_to (T' := T67) (mkF m 343 #[iv p0, iv p1, iv p2, iv p3, iv p4, iv p5, iv idx, iv tl, iv al, iv sm, iv 0, iv vl, iv t0, iv t1, iv t2, iv u0, iv u1, iv u2, iv v0, iv v1, iv v2, rv o_tx, rv o_vx, rv o_ar, rv b64, iv rr, iv kk, iv ee, .unset] [(.int (0 : Int32))]) (fun _ k => XS.iconst X67.here hx rfl (hb hby at_342) k) ?_
        exact jn70 (0 : Int32) (⟨Or.inl rfl, fun q => absurd q (by decide), fun q => absurd hxa0 q.1⟩)
      · refine own_to (T' := T67) (mkF m 333 #[iv p0, iv p1, iv p2, iv p3, iv p4, iv p5, iv idx, iv tl, iv al, iv sm, iv 0, iv vl, iv t0, iv t1, iv t2, iv u0, iv u1, iv u2, iv v0, iv v1, iv v2, rv o_tx, rv o_vx, rv o_ar, rv b64, iv rr, iv kk, iv ee, .unset] []) (fun _ k => XS.ifNo X67.here hx rfl (hb hby at_330) rfl ((if0 _ _).trans (feq hxa0).1) k) ?_
        refine own_to (T' := T67) (mkF m 335 #[iv p0, iv p1, iv p2, iv p3, iv p4, iv p5, iv idx, iv tl, iv al, iv sm, iv 0, iv vl, iv t0, iv t1, iv t2, iv u0, iv u1, iv u2, iv v0, iv v1, iv v2, rv o_tx, rv o_vx, rv o_ar, rv b64, iv rr, iv kk, iv ee, .unset] [(.int ee)]) (fun _ k => XS.iload X67.here hx rfl (hb hby at_333) rfl k) ?_
        by_cases hxa1 : ee = (0 : Int32)
        · refine own_to (T' := T67) (mkF m 342 #[iv p0, iv p1, iv p2, iv p3, iv p4, iv p5, iv idx, iv tl, iv al, iv sm, iv 0, iv vl, iv t0, iv t1, iv t2, iv u0, iv u1, iv u2, iv v0, iv v1, iv v2, rv o_tx, rv o_vx, rv o_ar, rv b64, iv rr, iv kk, iv ee, .unset] []) (fun _ k => XS.ifYes X67.here hx rfl (pc0 := 335) (pc' := 342) rfl (hb hby at_335) rfl ((if0 _ _).trans (teq hxa1).1) (by decide) (by decide) k) ?_
          refine own_to (T' := T67) (mkF m 343 #[iv p0, iv p1, iv p2, iv p3, iv p4, iv p5, iv idx, iv tl, iv al, iv sm, iv 0, iv vl, iv t0, iv t1, iv t2, iv u0, iv u1, iv u2, iv v0, iv v1, iv v2, rv o_tx, rv o_vx, rv o_ar, rv b64, iv rr, iv kk, iv ee, .unset] [(.int (0 : Int32))]) (fun _ k => XS.iconst X67.here hx rfl (hb hby at_342) k) ?_
          exact jn70 (0 : Int32) (⟨Or.inl rfl, fun q => absurd q (by decide), fun q => absurd hxa1 q.2⟩)
        · refine own_to (T' := T67) (mkF m 338 #[iv p0, iv p1, iv p2, iv p3, iv p4, iv p5, iv idx, iv tl, iv al, iv sm, iv 0, iv vl, iv t0, iv t1, iv t2, iv u0, iv u1, iv u2, iv v0, iv v1, iv v2, rv o_tx, rv o_vx, rv o_ar, rv b64, iv rr, iv kk, iv ee, .unset] []) (fun _ k => XS.ifNo X67.here hx rfl (hb hby at_335) rfl ((if0 _ _).trans (feq hxa1).1) k) ?_
          refine own_to (T' := T67) (mkF m 339 #[iv p0, iv p1, iv p2, iv p3, iv p4, iv p5, iv idx, iv tl, iv al, iv sm, iv 0, iv vl, iv t0, iv t1, iv t2, iv u0, iv u1, iv u2, iv v0, iv v1, iv v2, rv o_tx, rv o_vx, rv o_ar, rv b64, iv rr, iv kk, iv ee, .unset] [(.int (1 : Int32))]) (fun _ k => XS.iconst X67.here hx rfl (hb hby at_338) k) ?_
          refine own_to (T' := T67) (mkF m 343 #[iv p0, iv p1, iv p2, iv p3, iv p4, iv p5, iv idx, iv tl, iv al, iv sm, iv 0, iv vl, iv t0, iv t1, iv t2, iv u0, iv u1, iv u2, iv v0, iv v1, iv v2, rv o_tx, rv o_vx, rv o_ar, rv b64, iv rr, iv kk, iv ee, .unset] [(.int (1 : Int32))]) (fun _ k => XS.goto X67.here hx rfl (pc0 := 339) (pc' := 343) rfl (hb hby at_339) (by decide) (by decide) k) ?_
          exact jn70 (1 : Int32) (⟨Or.inr rfl, fun _ => ⟨hxa0, hxa1⟩, fun _ => rfl⟩)
    intro ex hex
    refine own_to (T' := T67) (mkF m 345 #[iv p0, iv p1, iv p2, iv p3, iv p4, iv p5, iv idx, iv tl, iv al, iv sm, iv 0, iv vl, iv t0, iv t1, iv t2, iv u0, iv u1, iv u2, iv v0, iv v1, iv v2, rv o_tx, rv o_vx, rv o_ar, rv b64, iv rr, iv kk, iv ee, iv ex] []) (fun _ k => XS.istore X67.here hx rfl (hb hby at_343) rfl (l' := #[iv p0, iv p1, iv p2, iv p3, iv p4, iv p5, iv idx, iv tl, iv al, iv sm, iv 0, iv vl, iv t0, iv t1, iv t2, iv u0, iv u1, iv u2, iv v0, iv v1, iv v2, rv o_tx, rv o_vx, rv o_ar, rv b64, iv rr, iv kk, iv ee, iv ex]) rfl k) ?_
    refine own_to (T' := T67) (mkF m 347 #[iv p0, iv p1, iv p2, iv p3, iv p4, iv p5, iv idx, iv tl, iv al, iv sm, iv 0, iv vl, iv t0, iv t1, iv t2, iv u0, iv u1, iv u2, iv v0, iv v1, iv v2, rv o_tx, rv o_vx, rv o_ar, rv b64, iv rr, iv kk, iv ee, iv ex] [(.int rr)]) (fun _ k => XS.iload X67.here hx rfl (hb hby at_345) rfl k) ?_
    refine own_to (T' := T67) (mkF m 349 #[iv p0, iv p1, iv p2, iv p3, iv p4, iv p5, iv idx, iv tl, iv al, iv sm, iv 0, iv vl, iv t0, iv t1, iv t2, iv u0, iv u1, iv u2, iv v0, iv v1, iv v2, rv o_tx, rv o_vx, rv o_ar, rv b64, iv rr, iv kk, iv ee, iv ex] [(.int ex), (.int rr)]) (fun _ k => XS.iload X67.here hx rfl (hb hby at_347) rfl k) ?_
    refine own_to (T' := T67) (mkF m 352 #[iv p0, iv p1, iv p2, iv p3, iv p4, iv p5, iv idx, iv tl, iv al, iv sm, iv 0, iv vl, iv t0, iv t1, iv t2, iv u0, iv u1, iv u2, iv v0, iv v1, iv v2, rv o_tx, rv o_vx, rv o_ar, rv b64, iv rr, iv kk, iv ee, iv ex] []) (fun _ k => XS.icmpNo X67.here hx rfl (hb hby at_349) rfl (teq (own_same hrr (hrr1.trans (and_congr (own_kok ne_aI_aS ne_aI_aN ne_aI_aY ne_aI_aE ne_aS_aY ne_aN_aY ne_aY_aE hak) (own_csiff h4tl h4al))) hkk hee hex)).2 k) ?_
    refine own_to (T' := T67) (mkF m 353 #[iv p0, iv p1, iv p2, iv p3, iv p4, iv p5, iv idx, iv tl, iv al, iv sm, iv 0, iv vl, iv t0, iv t1, iv t2, iv u0, iv u1, iv u2, iv v0, iv v1, iv v2, rv o_tx, rv o_vx, rv o_ar, rv b64, iv rr, iv kk, iv ee, iv ex] [(.int (1 : Int32))]) (fun _ k => XS.iconst X67.here hx rfl (hb hby at_352) k) ?_
    refine own_to (T' := T67) (mkF m 357 #[iv p0, iv p1, iv p2, iv p3, iv p4, iv p5, iv idx, iv tl, iv al, iv sm, iv 0, iv vl, iv t0, iv t1, iv t2, iv u0, iv u1, iv u2, iv v0, iv v1, iv v2, rv o_tx, rv o_vx, rv o_ar, rv b64, iv rr, iv kk, iv ee, iv ex] [(.int (1 : Int32))]) (fun _ k => XS.goto X67.here hx rfl (pc0 := 353) (pc' := 357) rfl (hb hby at_353) (by decide) (by decide) k) ?_
    exact own_retNH (s := s) (vm₁ := T63.vm) X67 hS (by rw [e67]; exact hk1) hZ hEW (by rw [e67]; exact CH) (by rw [hh, e67]; exact CHR) hx (t := .boolean) Bd.returns (by simp) hlk (hb hby at_357) (by decide) (by decide) (by rw [e67]; exact ⟨rfl, N67⟩)
  · subst q
    refine own_to (T' := T62) (mkF m 201 #[iv p0, iv p1, iv p2, iv p3, iv p4, iv p5, iv idx, iv tl, iv al, iv sm, iv 1, iv vl, iv t0, iv t1, iv t2, iv u0, iv u1, iv u2, iv v0, iv v1, iv v2, rv o_tx, rv o_vx, .unset, .unset, .unset, .unset, .unset, .unset] [(.int (1 : Int32))]) (fun _ k => XS.iload X62.here hx rfl (hb hby at_199) rfl k) ?_
    refine own_to (T' := T62) (mkF m 204 #[iv p0, iv p1, iv p2, iv p3, iv p4, iv p5, iv idx, iv tl, iv al, iv sm, iv 1, iv vl, iv t0, iv t1, iv t2, iv u0, iv u1, iv u2, iv v0, iv v1, iv v2, rv o_tx, rv o_vx, .unset, .unset, .unset, .unset, .unset, .unset] []) (fun _ k => XS.ifNo X62.here hx rfl (hb hby at_201) rfl ((if0 _ _).trans (feq (by decide : ¬ ((1 : Int32) = (0 : Int32)))).1) k) ?_
    refine own_to (T' := T62) (mkF m 205 #[iv p0, iv p1, iv p2, iv p3, iv p4, iv p5, iv idx, iv tl, iv al, iv sm, iv 1, iv vl, iv t0, iv t1, iv t2, iv u0, iv u1, iv u2, iv v0, iv v1, iv v2, rv o_tx, rv o_vx, .unset, .unset, .unset, .unset, .unset, .unset] [.null]) (fun _ k => XS.aconstNull X62.here hx rfl (hb hby at_204) k) ?_
    refine own_to (T' := T62) (mkF m 219 #[iv p0, iv p1, iv p2, iv p3, iv p4, iv p5, iv idx, iv tl, iv al, iv sm, iv 1, iv vl, iv t0, iv t1, iv t2, iv u0, iv u1, iv u2, iv v0, iv v1, iv v2, rv o_tx, rv o_vx, .unset, .unset, .unset, .unset, .unset, .unset] [.null]) (fun _ k => XS.goto X62.here hx rfl (pc0 := 205) (pc' := 219) rfl (hb hby at_205) (by decide) (by decide) k) ?_
    refine own_to (T' := T62) (mkF m 221 #[iv p0, iv p1, iv p2, iv p3, iv p4, iv p5, iv idx, iv tl, iv al, iv sm, iv 1, iv vl, iv t0, iv t1, iv t2, iv u0, iv u1, iv u2, iv v0, iv v1, iv v2, rv o_tx, rv o_vx, .val .null, .unset, .unset, .unset, .unset, .unset] []) (fun _ k => XS.astore X62.here hx rfl (hb hby at_219) rfl rfl (l' := #[iv p0, iv p1, iv p2, iv p3, iv p4, iv p5, iv idx, iv tl, iv al, iv sm, iv 1, iv vl, iv t0, iv t1, iv t2, iv u0, iv u1, iv u2, iv v0, iv v1, iv v2, rv o_tx, rv o_vx, .val .null, .unset, .unset, .unset, .unset, .unset]) rfl k) ?_
    obtain ⟨T71, h71, X71, e71, E71, A71, D71, -, st71⟩ := newO X62 hx hZ hown (hw _ (List.mem_of_getElem? (i := 26) rfl)) (hw _ (List.mem_of_getElem? (i := 27) rfl)) (hw _ (List.mem_of_getElem? (i := 28) rfl)) rfl (g := (mkF m 221 #[iv p0, iv p1, iv p2, iv p3, iv p4, iv p5, iv idx, iv tl, iv al, iv sm, iv 1, iv vl, iv t0, iv t1, iv t2, iv u0, iv u1, iv u2, iv v0, iv v1, iv v2, rv o_tx, rv o_vx, .val .null, .unset, .unset, .unset, .unset, .unset] [])) rfl (hb hby at_221) (by decide) (by decide)
    obtain ⟨b71, g71⟩ : ∃ z, z = T62.heap.size := ⟨_, rfl⟩
    rw [← g71] at A71 D71 st71
    have sz_b71 : h0.size ≤ b71 := Nat.le_trans KP.1 (Nat.le_of_eq g71.symm)
    have ge_b71 : n0 ≤ b71 := Nat.le_trans Z0 sz_b71
    have ne_o_tx_b71 : o_tx ≠ b71 := Nat.ne_of_lt (Nat.lt_of_lt_of_le S_tx.lt (Nat.le_of_eq g71.symm))
    have ne_t_tx_b71 : t_tx ≠ b71 := Nat.ne_of_lt (Nat.lt_of_lt_of_le S_tx.ltT (Nat.le_of_eq g71.symm))
    have ne_o_vx_b71 : o_vx ≠ b71 := Nat.ne_of_lt (Nat.lt_of_lt_of_le S_vx.lt (Nat.le_of_eq g71.symm))
    have ne_t_vx_b71 : t_vx ≠ b71 := Nat.ne_of_lt (Nat.lt_of_lt_of_le S_vx.ltT (Nat.le_of_eq g71.symm))
    have CHR := CHR.trans (CHr.ext E71 CH)
    have CH := CH.ext E71
    have OL := OL.ext E71
    have KP := KP.ext E71
    have hk1 := Nat.le_trans hk1 E71.1
    have S_tx := S_tx.ext E71
    have S_vx := S_vx.ext E71
    have E_b71 : Exa Z h71 b71 "com/example/ianus/ianus/Token" := A71
    have F_kind_b71 : Fld Z h71 b71 "com/example/ianus/ianus/Token" "kind" "Lcom/example/ianus/ianus/Token$Kind;" .null := D71 (Or.inr (hw _ (List.mem_of_getElem? (i := 40) rfl))) (ty := (.object "com/example/ianus/ianus/Token$Kind")) (by decide)
    have F_text_b71 : Fld Z h71 b71 "com/example/ianus/ianus/Token" "text" "Ljava/lang/String;" .null := D71 (Or.inr (hw _ (List.mem_of_getElem? (i := 42) rfl))) (ty := (.object "java/lang/String")) (by decide)
    have F_value_b71 : Fld Z h71 b71 "com/example/ianus/ianus/Token" "value" "Ljava/lang/String;" .null := D71 (Or.inr (hw _ (List.mem_of_getElem? (i := 44) rfl))) (ty := (.object "java/lang/String")) (by decide)
    have F_line_b71 : Fld Z h71 b71 "com/example/ianus/ianus/Token" "line" "I" (.int (0 : Int32)) := D71 (Or.inr (hw _ (List.mem_of_getElem? (i := 46) rfl))) (ty := .int) (by decide)
    have F_column_b71 : Fld Z h71 b71 "com/example/ianus/ianus/Token" "column" "I" (.int (0 : Int32)) := D71 (Or.inr (hw _ (List.mem_of_getElem? (i := 48) rfl))) (ty := .int) (by decide)
    refine own_to (mkF m 224 #[iv p0, iv p1, iv p2, iv p3, iv p4, iv p5, iv idx, iv tl, iv al, iv sm, iv 1, iv vl, iv t0, iv t1, iv t2, iv u0, iv u1, iv u2, iv v0, iv v1, iv v2, rv o_tx, rv o_vx, .val .null, .unset, .unset, .unset, .unset, .unset] [(.ref b71)]) st71 ?_
    refine own_to (T' := T71) (mkF m 225 #[iv p0, iv p1, iv p2, iv p3, iv p4, iv p5, iv idx, iv tl, iv al, iv sm, iv 1, iv vl, iv t0, iv t1, iv t2, iv u0, iv u1, iv u2, iv v0, iv v1, iv v2, rv o_tx, rv o_vx, .val .null, .unset, .unset, .unset, .unset, .unset] [(.ref b71), (.ref b71)]) (fun _ k => XS.dup X71.here hx rfl (hb hby at_224) rfl rfl k) ?_
    refine own_to (T' := T71) (mkF m 227 #[iv p0, iv p1, iv p2, iv p3, iv p4, iv p5, iv idx, iv tl, iv al, iv sm, iv 1, iv vl, iv t0, iv t1, iv t2, iv u0, iv u1, iv u2, iv v0, iv v1, iv v2, rv o_tx, rv o_vx, .val .null, .unset, .unset, .unset, .unset, .unset] [(.int idx), (.ref b71), (.ref b71)]) (fun _ k => XS.iload X71.here hx rfl (hb hby at_225) rfl k) ?_
    obtain ⟨_, _, ⟨T72, L72, k72, n72⟩, -, X72, ⟨Lc72, hQ72, l72, y72, z72⟩, st72⟩ := Jvm.LawKit.callS X71 hx (y := (⟨"com/example/ianus/ianus/TokenIsPinLaw", "kindOf", "(I)Lcom/example/ianus/ianus/Token$Kind;"⟩ : MethodName)) hown (mvT hZ (hw _ (List.mem_of_getElem? (i := 29) rfl))) (mvT hZ (hw _ (List.mem_of_getElem? (i := 30) rfl))) (mvT hZ (hw _ (List.mem_of_getElem? (i := 2) rfl))) (mvT hZ (hw _ (List.mem_of_getElem? (i := 31) rfl))) (by decide) (backOf (W := 2) (own_rmKO l Z a0 hw [] idx aI aS aN aY aE h71 n0 (Nat.le_trans Z0 KP.1) OL SaI SaS SaN SaY SaE) hZ (hw _ (List.mem_of_getElem? (i := 31) rfl)) (hw _ (List.mem_of_getElem? (i := 2) rfl)) (by decide) (by decide)) (g := (mkF m 227 #[iv p0, iv p1, iv p2, iv p3, iv p4, iv p5, iv idx, iv tl, iv al, iv sm, iv 1, iv vl, iv t0, iv t1, iv t2, iv u0, iv u1, iv u2, iv v0, iv v1, iv v2, rv o_tx, rv o_vx, .val .null, .unset, .unset, .unset, .unset, .unset] [(.int idx), (.ref b71), (.ref b71)])) rfl (by rw [hml]; rfl) (argsL := [(.int idx)]) (rest := [(.ref b71), (.ref b71)]) (lenOf own_pd4 rfl) rfl (by show 2 * 0 + _ ≤ _; exact Nat.le_of_eq rfl) (hb hby at_227) (fun _ _ => ⟨rfl, e71, (by decide : 13 + 0 ≤ _), (by decide : 29 + 0 ≤ _)⟩)
    dsimp only [Pt.U, Pt.locs, Pt.cells, Pt.slots] at X72 l72 y72 z72 st72 hQ72
    subst l72 y72 z72
    obtain ⟨ak, rfl, hak, N72q, e72⟩ := hQ72
    have N72 := Fr.app N62 N72q
    refine own_to (mkF m 230 #[iv p0, iv p1, iv p2, iv p3, iv p4, iv p5, iv idx, iv tl, iv al, iv sm, iv 1, iv vl, iv t0, iv t1, iv t2, iv u0, iv u1, iv u2, iv v0, iv v1, iv v2, rv o_tx, rv o_vx, .val .null, .unset, .unset, .unset, .unset, .unset] [(.ref ak), (.ref b71), (.ref b71)]) st72 ?_
    refine own_to (T' := T72) (mkF m 232 #[iv p0, iv p1, iv p2, iv p3, iv p4, iv p5, iv idx, iv tl, iv al, iv sm, iv 1, iv vl, iv t0, iv t1, iv t2, iv u0, iv u1, iv u2, iv v0, iv v1, iv v2, rv o_tx, rv o_vx, .val .null, .unset, .unset, .unset, .unset, .unset] [(.ref o_tx), (.ref ak), (.ref b71), (.ref b71)]) (fun _ k => XS.aload X72.here hx rfl (hb hby at_230) rfl rfl k) ?_
    refine own_to (T' := T72) (mkF m 234 #[iv p0, iv p1, iv p2, iv p3, iv p4, iv p5, iv idx, iv tl, iv al, iv sm, iv 1, iv vl, iv t0, iv t1, iv t2, iv u0, iv u1, iv u2, iv v0, iv v1, iv v2, rv o_tx, rv o_vx, .val .null, .unset, .unset, .unset, .unset, .unset] [(.ref o_vx), (.ref o_tx), (.ref ak), (.ref b71), (.ref b71)]) (fun _ k => XS.aload X72.here hx rfl (hb hby at_232) rfl rfl k) ?_
    refine own_to (T' := T72) (mkF m 236 #[iv p0, iv p1, iv p2, iv p3, iv p4, iv p5, iv idx, iv tl, iv al, iv sm, iv 1, iv vl, iv t0, iv t1, iv t2, iv u0, iv u1, iv u2, iv v0, iv v1, iv v2, rv o_tx, rv o_vx, .val .null, .unset, .unset, .unset, .unset, .unset] [(.int p4), (.ref o_vx), (.ref o_tx), (.ref ak), (.ref b71), (.ref b71)]) (fun _ k => XS.iload X72.here hx rfl (hb hby at_234) rfl k) ?_
    refine own_to (T' := T72) (mkF m 238 #[iv p0, iv p1, iv p2, iv p3, iv p4, iv p5, iv idx, iv tl, iv al, iv sm, iv 1, iv vl, iv t0, iv t1, iv t2, iv u0, iv u1, iv u2, iv v0, iv v1, iv v2, rv o_tx, rv o_vx, .val .null, .unset, .unset, .unset, .unset, .unset] [(.int p5), (.int p4), (.ref o_vx), (.ref o_tx), (.ref ak), (.ref b71), (.ref b71)]) (fun _ k => XS.iload X72.here hx rfl (hb hby at_236) rfl k) ?_
    obtain ⟨_, _, ⟨T73, L73, k73, n73⟩, -, X73, ⟨Lc73, hQ73, l73, y73, z73⟩, st73⟩ := X72.specialBack hx (y := (⟨"com/example/ianus/ianus/Token", "<init>", "(Lcom/example/ianus/ianus/Token$Kind;Ljava/lang/String;Ljava/lang/String;II)V"⟩ : MethodName)) rfl hown (mvT hZ (hw _ (List.mem_of_getElem? (i := 35) rfl))) (mvT hZ (hw _ (List.mem_of_getElem? (i := 36) rfl))) (mvT hZ (hw _ (List.mem_of_getElem? (i := 37) rfl))) (by decide) (backOf (W := 1) (own_rmCT l Z a0 hw [] b71 ak o_tx o_vx p4 p5 h71 n0 (Nat.le_trans Z0 KP.1) OL ge_b71 E_b71 F_kind_b71 F_text_b71 F_value_b71 F_line_b71 F_column_b71) hZ (hw _ (List.mem_of_getElem? (i := 37) rfl)) (hw _ (List.mem_of_getElem? (i := 28) rfl)) (by decide) (by decide)) (g := (mkF m 238 #[iv p0, iv p1, iv p2, iv p3, iv p4, iv p5, iv idx, iv tl, iv al, iv sm, iv 1, iv vl, iv t0, iv t1, iv t2, iv u0, iv u1, iv u2, iv v0, iv v1, iv v2, rv o_tx, rv o_vx, .val .null, .unset, .unset, .unset, .unset, .unset] [(.int p5), (.int p4), (.ref o_vx), (.ref o_tx), (.ref ak), (.ref b71), (.ref b71)])) rfl (by rw [hml]; rfl) (Steps.refl _) (a := b71) (argsL := [(.ref ak), (.ref o_tx), (.ref o_vx), (.int p4), (.int p5)]) (rest := [(.ref b71)]) (lenOf own_pd5 rfl) rfl (by show 2 * 0 + _ ≤ _; exact Nat.le_of_eq rfl) (hb hby at_238) (fun _ _ => ⟨rfl, e72, (by decide : 13 + 0 ≤ _), (by decide : 29 + 0 ≤ _)⟩)
    dsimp only [Pt.U, Pt.locs, Pt.cells, Pt.slots] at X73 l73 y73 z73 st73 hQ73
    subst l73 y73 z73
    obtain ⟨rfl, N73q, K73, Ek73, Fk73, Ft73, -, -⟩ := hQ73
    have N73 := Fr.app N72 N73q
    have SFk : ∀ x ∈ [b71], Safe Z own_EL T62.vm h71 x := (sfS (Safe.exa hZ.alike E_b71 (by decide) (by decide)) sf0)
    have CHR := CHR.trans (CHr.keep K73 SFk CH)
    have CH := CH.keep K73 SFk
    have OL := OL.keep K73 (allS ge_b71 all0)
    have KP := KP.trans K73 (allS (Or.inr sz_b71) all0)
    have hk1 := Nat.le_trans hk1 K73.1
    have S_tx := S_tx.keep K73 (ninS ne_o_tx_b71 nin0) (ninS ne_t_tx_b71 nin0)
    have S_vx := S_vx.keep K73 (ninS ne_o_vx_b71 nin0) (ninS ne_t_vx_b71 nin0)
    have E_b71 := E_b71.keep K73
    refine own_via (mkF m 241 #[iv p0, iv p1, iv p2, iv p3, iv p4, iv p5, iv idx, iv tl, iv al, iv sm, iv 1, iv vl, iv t0, iv t1, iv t2, iv u0, iv u1, iv u2, iv v0, iv v1, iv v2, rv o_tx, rv o_vx, .val .null, .unset, .unset, .unset, .unset, .unset] [(.ref b71)]) st73 ?_
    have EK : Exa Z T73.heap b71 "com/example/ianus/ianus/Token" := Ek73
    have FK : Fld Z T73.heap b71 "com/example/ianus/ianus/Token" "kind" "Lcom/example/ianus/ianus/Token$Kind;" (.ref ak) := Fk73
    have FT : Fld Z T73.heap b71 "com/example/ianus/ianus/Token" "text" "Ljava/lang/String;" (.ref o_tx) := Ft73
    refine own_to (T' := T73) (mkF m 243 #[iv p0, iv p1, iv p2, iv p3, iv p4, iv p5, iv idx, iv tl, iv al, iv sm, iv 1, iv vl, iv t0, iv t1, iv t2, iv u0, iv u1, iv u2, iv v0, iv v1, iv v2, rv o_tx, rv o_vx, .val .null, rv b71, .unset, .unset, .unset, .unset] []) (fun _ k => XS.astore X73.here hx rfl (hb hby at_241) rfl rfl (l' := #[iv p0, iv p1, iv p2, iv p3, iv p4, iv p5, iv idx, iv tl, iv al, iv sm, iv 1, iv vl, iv t0, iv t1, iv t2, iv u0, iv u1, iv u2, iv v0, iv v1, iv v2, rv o_tx, rv o_vx, .val .null, rv b71, .unset, .unset, .unset, .unset]) rfl k) ?_
    refine own_to (T' := T73) (mkF m 245 #[iv p0, iv p1, iv p2, iv p3, iv p4, iv p5, iv idx, iv tl, iv al, iv sm, iv 1, iv vl, iv t0, iv t1, iv t2, iv u0, iv u1, iv u2, iv v0, iv v1, iv v2, rv o_tx, rv o_vx, .val .null, rv b71, .unset, .unset, .unset, .unset] [(.ref b71)]) (fun _ k => XS.aload X73.here hx rfl (hb hby at_243) rfl rfl k) ?_
    refine own_to (T' := T73) (mkF m 247 #[iv p0, iv p1, iv p2, iv p3, iv p4, iv p5, iv idx, iv tl, iv al, iv sm, iv 1, iv vl, iv t0, iv t1, iv t2, iv u0, iv u1, iv u2, iv v0, iv v1, iv v2, rv o_tx, rv o_vx, .val .null, rv b71, .unset, .unset, .unset, .unset] [.null, (.ref b71)]) (fun _ k => XS.aload X73.here hx rfl (hb hby at_245) rfl rfl k) ?_
    obtain ⟨cq74, kq74, q74a, q74b, q74c⟩ := isOf hZ rfl EK
    obtain ⟨_, _, ⟨T74, L74, k74, n74⟩, -, X74, ⟨Lc74, hQ74, l74, y74, z74⟩, st74⟩ := X73.virtualBack hx (y := (⟨"com/example/ianus/ianus/Token", "is", "(Ljava/lang/String;)Z"⟩ : MethodName)) (z := (⟨"com/example/ianus/ianus/Token", "is", "(Ljava/lang/String;)Z"⟩ : MethodName)) hown (mvT hZ (hw _ (List.mem_of_getElem? (i := 49) rfl))) (mvT hZ (hw _ (List.mem_of_getElem? (i := 50) rfl))) (notFace_of_selects (args := #[]) (mvT hZ (hw _ (List.mem_of_getElem? (i := 52) rfl)))) (mvT hZ (hw _ (List.mem_of_getElem? (i := 52) rfl))) (mvT hZ (hw _ (List.mem_of_getElem? (i := 51) rfl))) (by decide) (backOf (W := 0) (own_rmISN l Z a0 hw [] b71 ak o_tx aI aS aN aY aE T73.heap n0 (Nat.le_trans Z0 KP.1) OL FK FT S_tx.1 SaI SaS SaN SaY SaE) hZ (hw _ (List.mem_of_getElem? (i := 53) rfl)) (hw _ (List.mem_of_getElem? (i := 28) rfl)) (by decide) (by decide)) q74a q74c (g := (mkF m 247 #[iv p0, iv p1, iv p2, iv p3, iv p4, iv p5, iv idx, iv tl, iv al, iv sm, iv 1, iv vl, iv t0, iv t1, iv t2, iv u0, iv u1, iv u2, iv v0, iv v1, iv v2, rv o_tx, rv o_vx, .val .null, rv b71, .unset, .unset, .unset, .unset] [.null, (.ref b71)])) rfl (by rw [hml]; rfl) (Steps.refl _) (argsL := [.null]) (rest := []) (lenOf own_pd6 rfl) rfl (by show 2 * 0 + _ ≤ _; exact Nat.le_of_eq rfl) (hb hby at_247) (fun _ _ => ⟨rfl, rfl, (by decide : 13 + 0 ≤ _), (by decide : 29 + 0 ≤ _)⟩)
    dsimp only [Pt.U, Pt.locs, Pt.cells, Pt.slots] at X74 l74 y74 z74 st74 hQ74
    subst l74 y74 z74
    obtain ⟨rfl, N74q, e74⟩ := hQ74
    have N74 := Fr.app N73 N74q
    refine own_via (mkF m 250 #[iv p0, iv p1, iv p2, iv p3, iv p4, iv p5, iv idx, iv tl, iv al, iv sm, iv 1, iv vl, iv t0, iv t1, iv t2, iv u0, iv u1, iv u2, iv v0, iv v1, iv v2, rv o_tx, rv o_vx, .val .null, rv b71, .unset, .unset, .unset, .unset] [(.int (0 : Int32))]) st74 ?_
    refine own_to (T' := T74) (mkF m 252 #[iv p0, iv p1, iv p2, iv p3, iv p4, iv p5, iv idx, iv tl, iv al, iv sm, iv 1, iv vl, iv t0, iv t1, iv t2, iv u0, iv u1, iv u2, iv v0, iv v1, iv v2, rv o_tx, rv o_vx, .val .null, rv b71, iv 0, .unset, .unset, .unset] []) (fun _ k => XS.istore X74.here hx rfl (hb hby at_250) rfl (l' := #[iv p0, iv p1, iv p2, iv p3, iv p4, iv p5, iv idx, iv tl, iv al, iv sm, iv 1, iv vl, iv t0, iv t1, iv t2, iv u0, iv u1, iv u2, iv v0, iv v1, iv v2, rv o_tx, rv o_vx, .val .null, rv b71, iv 0, .unset, .unset, .unset]) rfl k) ?_
    refine own_to (T' := T74) (mkF m 254 #[iv p0, iv p1, iv p2, iv p3, iv p4, iv p5, iv idx, iv tl, iv al, iv sm, iv 1, iv vl, iv t0, iv t1, iv t2, iv u0, iv u1, iv u2, iv v0, iv v1, iv v2, rv o_tx, rv o_vx, .val .null, rv b71, iv 0, .unset, .unset, .unset] [(.int idx)]) (fun _ k => XS.iload X74.here hx rfl (hb hby at_252) rfl k) ?_
    suffices jn75 : ∀ kk : Int32, ((kk = 0 ∨ kk = 1) ∧ (kk = 1 ↔ (idx = 0 ∨ idx = 3))) → own_E p e below (own_FinH Z s (own_Q0 Z p0 p1 p2 p3 p4 p5 G1 aI aS aN aY aE h0 n0) room_1.cells room_1.slots) T74 (mkF m 268 #[iv p0, iv p1, iv p2, iv p3, iv p4, iv p5, iv idx, iv tl, iv al, iv sm, iv 1, iv vl, iv t0, iv t1, iv t2, iv u0, iv u1, iv u2, iv v0, iv v1, iv v2, rv o_tx, rv o_vx, .val .null, rv b71, iv 0, .unset, .unset, .unset] [(.int kk)]) from by
      by_cases hka0 : idx = (0 : Int32)
      · refine own_to (T' := T74) (mkF m 263 #[iv p0, iv p1, iv p2, iv p3, iv p4, iv p5, iv idx, iv tl, iv al, iv sm, iv 1, iv vl, iv t0, iv t1, iv t2, iv u0, iv u1, iv u2, iv v0, iv v1, iv v2, rv o_tx, rv o_vx, .val .null, rv b71, iv 0, .unset, .unset, .unset] []) (fun _ k => XS.ifYes X74.here hx rfl (pc0 := 254) (pc' := 263) rfl (hb hby at_254) rfl ((if0 _ _).trans (teq hka0).1) (by decide) (by decide) k) ?_
        refine own_to (T' := T74) (mkF m 264 #[iv p0, iv p1, iv p2, iv p3, iv p4, iv p5, iv idx, iv tl, iv al, iv sm, iv 1, iv vl, iv t0, iv t1, iv t2, iv u0, iv u1, iv u2, iv v0, iv v1, iv v2, rv o_tx, rv o_vx, .val .null, rv b71, iv 0, .unset, .unset, .unset] [(.int (1 : Int32))]) (fun _ k => XS.iconst X74.here hx rfl (hb hby at_263) k) ?_
        refine own_to (T' := T74) (mkF m 268 #[iv p0, iv p1, iv p2, iv p3, iv p4, iv p5, iv idx, iv tl, iv al, iv sm, iv 1, iv vl, iv t0, iv t1, iv t2, iv u0, iv u1, iv u2, iv v0, iv v1, iv v2, rv o_tx, rv o_vx, .val .null, rv b71, iv 0, .unset, .unset, .unset] [(.int (1 : Int32))]) (fun _ k => XS.goto X74.here hx rfl (pc0 := 264) (pc' := 268) rfl (hb hby at_264) (by decide) (by decide) k) ?_
        exact jn75 (1 : Int32) (⟨Or.inr rfl, fun _ => Or.inl hka0, fun _ => rfl⟩)
      · refine own_to (T' := T74) (mkF m 257 #[iv p0, iv p1, iv p2, iv p3, iv p4, iv p5, iv idx, iv tl, iv al, iv sm, iv 1, iv vl, iv t0, iv t1, iv t2, iv u0, iv u1, iv u2, iv v0, iv v1, iv v2, rv o_tx, rv o_vx, .val .null, rv b71, iv 0, .unset, .unset, .unset] []) (fun _ k => XS.ifNo X74.here hx rfl (hb hby at_254) rfl ((if0 _ _).trans (feq hka0).1) k) ?_
        refine own_to (T' := T74) (mkF m 259 #[iv p0, iv p1, iv p2, iv p3, iv p4, iv p5, iv idx, iv tl, iv al, iv sm, iv 1, iv vl, iv t0, iv t1, iv t2, iv u0, iv u1, iv u2, iv v0, iv v1, iv v2, rv o_tx, rv o_vx, .val .null, rv b71, iv 0, .unset, .unset, .unset] [(.int idx)]) (fun _ k => XS.iload X74.here hx rfl (hb hby at_257) rfl k) ?_
        refine own_to (T' := T74) (mkF m 260 #[iv p0, iv p1, iv p2, iv p3, iv p4, iv p5, iv idx, iv tl, iv al, iv sm, iv 1, iv vl, iv t0, iv t1, iv t2, iv u0, iv u1, iv u2, iv v0, iv v1, iv v2, rv o_tx, rv o_vx, .val .null, rv b71, iv 0, .unset, .unset, .unset] [(.int (3 : Int32)), (.int idx)]) (fun _ k => XS.iconst X74.here hx rfl (hb hby at_259) k) ?_
        by_cases hka1 : idx = (3 : Int32)
        · refine own_to (T' := T74) (mkF m 263 #[iv p0, iv p1, iv p2, iv p3, iv p4, iv p5, iv idx, iv tl, iv al, iv sm, iv 1, iv vl, iv t0, iv t1, iv t2, iv u0, iv u1, iv u2, iv v0, iv v1, iv v2, rv o_tx, rv o_vx, .val .null, rv b71, iv 0, .unset, .unset, .unset] []) (fun _ k => XS.icmpNo X74.here hx rfl (hb hby at_260) rfl (teq hka1).2 k) ?_
          refine own_to (T' := T74) (mkF m 264 #[iv p0, iv p1, iv p2, iv p3, iv p4, iv p5, iv idx, iv tl, iv al, iv sm, iv 1, iv vl, iv t0, iv t1, iv t2, iv u0, iv u1, iv u2, iv v0, iv v1, iv v2, rv o_tx, rv o_vx, .val .null, rv b71, iv 0, .unset, .unset, .unset] [(.int (1 : Int32))]) (fun _ k => XS.iconst X74.here hx rfl (hb hby at_263) k) ?_
          refine own_to (T' := T74) (mkF m 268 #[iv p0, iv p1, iv p2, iv p3, iv p4, iv p5, iv idx, iv tl, iv al, iv sm, iv 1, iv vl, iv t0, iv t1, iv t2, iv u0, iv u1, iv u2, iv v0, iv v1, iv v2, rv o_tx, rv o_vx, .val .null, rv b71, iv 0, .unset, .unset, .unset] [(.int (1 : Int32))]) (fun _ k => XS.goto X74.here hx rfl (pc0 := 264) (pc' := 268) rfl (hb hby at_264) (by decide) (by decide) k) ?_
          exact jn75 (1 : Int32) (⟨Or.inr rfl, fun _ => Or.inr hka1, fun _ => rfl⟩)
        · refine own_to (T' := T74) (mkF m 267 #[iv p0, iv p1, iv p2, iv p3, iv p4, iv p5, iv idx, iv tl, iv al, iv sm, iv 1, iv vl, iv t0, iv t1, iv t2, iv u0, iv u1, iv u2, iv v0, iv v1, iv v2, rv o_tx, rv o_vx, .val .null, rv b71, iv 0, .unset, .unset, .unset] []) (fun _ k => XS.icmpYes X74.here hx rfl (pc0 := 260) (pc' := 267) rfl (hb hby at_260) rfl (feq hka1).2 (by decide) (by decide) k) ?_
          refine own_to (T' := T74) (mkF m 268 #[iv p0, iv p1, iv p2, iv p3, iv p4, iv p5, iv idx, iv tl, iv al, iv sm, iv 1, iv vl, iv t0, iv t1, iv t2, iv u0, iv u1, iv u2, iv v0, iv v1, iv v2, rv o_tx, rv o_vx, .val .null, rv b71, iv 0, .unset, .unset, .unset] [(.int (0 : Int32))]) (fun _ k => XS.iconst X74.here hx rfl (hb hby at_267) k) ?_
          exact jn75 (0 : Int32) (⟨Or.inl rfl, fun q => absurd q (by decide), fun q => q.elim (fun q => absurd q hka0) (fun q => absurd q hka1)⟩)
    intro kk hkk
    refine own_to (T' := T74) (mkF m 270 #[iv p0, iv p1, iv p2, iv p3, iv p4, iv p5, iv idx, iv tl, iv al, iv sm, iv 1, iv vl, iv t0, iv t1, iv t2, iv u0, iv u1, iv u2, iv v0, iv v1, iv v2, rv o_tx, rv o_vx, .val .null, rv b71, iv 0, iv kk, .unset, .unset] []) (fun _ k => XS.istore X74.here hx rfl (hb hby at_268) rfl (l' := #[iv p0, iv p1, iv p2, iv p3, iv p4, iv p5, iv idx, iv tl, iv al, iv sm, iv 1, iv vl, iv t0, iv t1, iv t2, iv u0, iv u1, iv u2, iv v0, iv v1, iv v2, rv o_tx, rv o_vx, .val .null, rv b71, iv 0, iv kk, .unset, .unset]) rfl k) ?_
    refine own_to (T' := T74) (mkF m 272 #[iv p0, iv p1, iv p2, iv p3, iv p4, iv p5, iv idx, iv tl, iv al, iv sm, iv 1, iv vl, iv t0, iv t1, iv t2, iv u0, iv u1, iv u2, iv v0, iv v1, iv v2, rv o_tx, rv o_vx, .val .null, rv b71, iv 0, iv kk, .unset, .unset] [(.int (1 : Int32))]) (fun _ k => XS.iload X74.here hx rfl (hb hby at_270) rfl k) ?_
    refine own_to (T' := T74) (mkF m 325 #[iv p0, iv p1, iv p2, iv p3, iv p4, iv p5, iv idx, iv tl, iv al, iv sm, iv 1, iv vl, iv t0, iv t1, iv t2, iv u0, iv u1, iv u2, iv v0, iv v1, iv v2, rv o_tx, rv o_vx, .val .null, rv b71, iv 0, iv kk, .unset, .unset] []) (fun _ k => XS.ifYes X74.here hx rfl (pc0 := 272) (pc' := 325) rfl (hb hby at_272) rfl ((if0 _ _).trans (feq (by decide : ¬ ((1 : Int32) = (0 : Int32)))).2) (by decide) (by decide) k) ?_
    refine own_to (T' := T74) (mkF m 326 #[iv p0, iv p1, iv p2, iv p3, iv p4, iv p5, iv idx, iv tl, iv al, iv sm, iv 1, iv vl, iv t0, iv t1, iv t2, iv u0, iv u1, iv u2, iv v0, iv v1, iv v2, rv o_tx, rv o_vx, .val .null, rv b71, iv 0, iv kk, .unset, .unset] [(.int (0 : Int32))]) (fun _ k => XS.iconst X74.here hx rfl (hb hby at_325) k) ?_
    refine own_to (T' := T74) (mkF m 328 #[iv p0, iv p1, iv p2, iv p3, iv p4, iv p5, iv idx, iv tl, iv al, iv sm, iv 1, iv vl, iv t0, iv t1, iv t2, iv u0, iv u1, iv u2, iv v0, iv v1, iv v2, rv o_tx, rv o_vx, .val .null, rv b71, iv 0, iv kk, iv 0, .unset] []) (fun _ k => XS.istore X74.here hx rfl (hb hby at_326) rfl (l' := #[iv p0, iv p1, iv p2, iv p3, iv p4, iv p5, iv idx, iv tl, iv al, iv sm, iv 1, iv vl, iv t0, iv t1, iv t2, iv u0, iv u1, iv u2, iv v0, iv v1, iv v2, rv o_tx, rv o_vx, .val .null, rv b71, iv 0, iv kk, iv 0, .unset]) rfl k) ?_
    refine own_to (T' := T74) (mkF m 330 #[iv p0, iv p1, iv p2, iv p3, iv p4, iv p5, iv idx, iv tl, iv al, iv sm, iv 1, iv vl, iv t0, iv t1, iv t2, iv u0, iv u1, iv u2, iv v0, iv v1, iv v2, rv o_tx, rv o_vx, .val .null, rv b71, iv 0, iv kk, iv 0, .unset] [(.int kk)]) (fun _ k => XS.iload X74.here hx rfl (hb hby at_328) rfl k) ?_
    suffices jn76 : ∀ ex : Int32, (ex = 0) → own_E p e below (own_FinH Z s (own_Q0 Z p0 p1 p2 p3 p4 p5 G1 aI aS aN aY aE h0 n0) room_1.cells room_1.slots) T74 (mkF m 343 #[iv p0, iv p1, iv p2, iv p3, iv p4, iv p5, iv idx, iv tl, iv al, iv sm, iv 1, iv vl, iv t0, iv t1, iv t2, iv u0, iv u1, iv u2, iv v0, iv v1, iv v2, rv o_tx, rv o_vx, .val .null, rv b71, iv 0, iv kk, iv 0, .unset] [(.int ex)]) from by
      by_cases hxa0 : kk = (0 : Int32)
      · refine own_to (T' := T74) (mkF m 342 #[iv p0, iv p1, iv p2, iv p3, iv p4, iv p5, iv idx, iv tl, iv al, iv sm, iv 1, iv vl, iv t0, iv t1, iv t2, iv u0, iv u1, iv u2, iv v0, iv v1, iv v2, rv o_tx, rv o_vx, .val .null, rv b71, iv 0, iv kk, iv 0, .unset] []) (fun _ k => XS.ifYes X74.here hx rfl (pc0 := 330) (pc' := 342) rfl (hb hby at_330) rfl ((if0 _ _).trans (teq hxa0).1) (by decide) (by decide) k) ?_
        refine own_to (T' := T74) (mkF m 343 #[iv p0, iv p1, iv p2, iv p3, iv p4, iv p5, iv idx, iv tl, iv al, iv sm, iv 1, iv vl, iv t0, iv t1, iv t2, iv u0, iv u1, iv u2, iv v0, iv v1, iv v2, rv o_tx, rv o_vx, .val .null, rv b71, iv 0, iv kk, iv 0, .unset] [(.int (0 : Int32))]) (fun _ k => XS.iconst X74.here hx rfl (hb hby at_342) k) ?_
        exact jn76 (0 : Int32) (rfl)
      · refine own_to (T' := T74) (mkF m 333 #[iv p0, iv p1, iv p2, iv p3, iv p4, iv p5, iv idx, iv tl, iv al, iv sm, iv 1, iv vl, iv t0, iv t1, iv t2, iv u0, iv u1, iv u2, iv v0, iv v1, iv v2, rv o_tx, rv o_vx, .val .null, rv b71, iv 0, iv kk, iv 0, .unset] []) (fun _ k => XS.ifNo X74.here hx rfl (hb hby at_330) rfl ((if0 _ _).trans (feq hxa0).1) k) ?_
        refine own_to (T' := T74) (mkF m 335 #[iv p0, iv p1, iv p2, iv p3, iv p4, iv p5, iv idx, iv tl, iv al, iv sm, iv 1, iv vl, iv t0, iv t1, iv t2, iv u0, iv u1, iv u2, iv v0, iv v1, iv v2, rv o_tx, rv o_vx, .val .null, rv b71, iv 0, iv kk, iv 0, .unset] [(.int (0 : Int32))]) (fun _ k => XS.iload X74.here hx rfl (hb hby at_333) rfl k) ?_
        refine own_to (T' := T74) (mkF m 342 #[iv p0, iv p1, iv p2, iv p3, iv p4, iv p5, iv idx, iv tl, iv al, iv sm, iv 1, iv vl, iv t0, iv t1, iv t2, iv u0, iv u1, iv u2, iv v0, iv v1, iv v2, rv o_tx, rv o_vx, .val .null, rv b71, iv 0, iv kk, iv 0, .unset] []) (fun _ k => XS.ifYes X74.here hx rfl (pc0 := 335) (pc' := 342) rfl (hb hby at_335) rfl ((if0 _ _).trans (teq (by decide : (0 : Int32) = (0 : Int32))).1) (by decide) (by decide) k) ?_
        refine own_to (T' := T74) (mkF m 343 #[iv p0, iv p1, iv p2, iv p3, iv p4, iv p5, iv idx, iv tl, iv al, iv sm, iv 1, iv vl, iv t0, iv t1, iv t2, iv u0, iv u1, iv u2, iv v0, iv v1, iv v2, rv o_tx, rv o_vx, .val .null, rv b71, iv 0, iv kk, iv 0, .unset] [(.int (0 : Int32))]) (fun _ k => XS.iconst X74.here hx rfl (hb hby at_342) k) ?_
        exact jn76 (0 : Int32) (rfl)
    intro ex hex
    refine own_to (T' := T74) (mkF m 345 #[iv p0, iv p1, iv p2, iv p3, iv p4, iv p5, iv idx, iv tl, iv al, iv sm, iv 1, iv vl, iv t0, iv t1, iv t2, iv u0, iv u1, iv u2, iv v0, iv v1, iv v2, rv o_tx, rv o_vx, .val .null, rv b71, iv 0, iv kk, iv 0, iv ex] []) (fun _ k => XS.istore X74.here hx rfl (hb hby at_343) rfl (l' := #[iv p0, iv p1, iv p2, iv p3, iv p4, iv p5, iv idx, iv tl, iv al, iv sm, iv 1, iv vl, iv t0, iv t1, iv t2, iv u0, iv u1, iv u2, iv v0, iv v1, iv v2, rv o_tx, rv o_vx, .val .null, rv b71, iv 0, iv kk, iv 0, iv ex]) rfl k) ?_
    refine own_to (T' := T74) (mkF m 347 #[iv p0, iv p1, iv p2, iv p3, iv p4, iv p5, iv idx, iv tl, iv al, iv sm, iv 1, iv vl, iv t0, iv t1, iv t2, iv u0, iv u1, iv u2, iv v0, iv v1, iv v2, rv o_tx, rv o_vx, .val .null, rv b71, iv 0, iv kk, iv 0, iv ex] [(.int (0 : Int32))]) (fun _ k => XS.iload X74.here hx rfl (hb hby at_345) rfl k) ?_
    refine own_to (T' := T74) (mkF m 349 #[iv p0, iv p1, iv p2, iv p3, iv p4, iv p5, iv idx, iv tl, iv al, iv sm, iv 1, iv vl, iv t0, iv t1, iv t2, iv u0, iv u1, iv u2, iv v0, iv v1, iv v2, rv o_tx, rv o_vx, .val .null, rv b71, iv 0, iv kk, iv 0, iv ex] [(.int ex), (.int (0 : Int32))]) (fun _ k => XS.iload X74.here hx rfl (hb hby at_347) rfl k) ?_
    refine own_to (T' := T74) (mkF m 352 #[iv p0, iv p1, iv p2, iv p3, iv p4, iv p5, iv idx, iv tl, iv al, iv sm, iv 1, iv vl, iv t0, iv t1, iv t2, iv u0, iv u1, iv u2, iv v0, iv v1, iv v2, rv o_tx, rv o_vx, .val .null, rv b71, iv 0, iv kk, iv 0, iv ex] []) (fun _ k => XS.icmpNo X74.here hx rfl (hb hby at_349) rfl (teq hex.symm).2 k) ?_
    refine own_to (T' := T74) (mkF m 353 #[iv p0, iv p1, iv p2, iv p3, iv p4, iv p5, iv idx, iv tl, iv al, iv sm, iv 1, iv vl, iv t0, iv t1, iv t2, iv u0, iv u1, iv u2, iv v0, iv v1, iv v2, rv o_tx, rv o_vx, .val .null, rv b71, iv 0, iv kk, iv 0, iv ex] [(.int (1 : Int32))]) (fun _ k => XS.iconst X74.here hx rfl (hb hby at_352) k) ?_
    refine own_to (T' := T74) (mkF m 357 #[iv p0, iv p1, iv p2, iv p3, iv p4, iv p5, iv idx, iv tl, iv al, iv sm, iv 1, iv vl, iv t0, iv t1, iv t2, iv u0, iv u1, iv u2, iv v0, iv v1, iv v2, rv o_tx, rv o_vx, .val .null, rv b71, iv 0, iv kk, iv 0, iv ex] [(.int (1 : Int32))]) (fun _ k => XS.goto X74.here hx rfl (pc0 := 353) (pc' := 357) rfl (hb hby at_353) (by decide) (by decide) k) ?_
    exact own_retNH (s := s) (vm₁ := T62.vm) X74 hS (by rw [e74]; exact hk1) hZ hEW (by rw [e74]; exact CH) (by rw [hh, e74]; exact CHR) hx (t := .boolean) Bd.returns (by simp) hlk (hb hby at_357) (by decide) (by decide) (by rw [e74]; exact ⟨rfl, N74⟩)
set_option maxRecDepth 65536 in
set_option maxHeartbeats 40000000 in
theorem own_comes {Post : Tables → Env → Array Value → State → Outcome → State → Prop} (hpost : ∀ tb e args s v u, (limb_1_1.after args s (.returned v) u = true ∧ limb_1_2.after args s (.returned v) u = true ∧ True) → ReturnedEndW s (.returned v) u (Jvm.fieldLocs frame_1_writes args s ++ Jvm.arrayLocs frame_1_arrays args s ++ Jvm.staticLocs frame_1_statics s) 32 1216 → Post tb e args s (.returned v) u) :
    ArmFor flags0 classFile x code maxLocals ret World_1 tables_1 room_1 Calls_1 rest_1 Pre_1 Post := by
  intro l hfl _ _ p e ha hc hk s m args below hf hA hF happ hP
  obtain ⟨hcalls, hrest, hpre⟩ := hP
  obtain ⟨-, -, -, hnamed, -, -, -, hat⟩ := (Spec.applies_iff hf).mp happ
  obtain ⟨hg, hn⟩ := and_e (Cond.before_iff.mp (show (Jvm.Cond.and given_1 narrow_1).before args s = true from hpre))
  obtain ⟨hg0, hgr0⟩ := and_e hg
  obtain ⟨hg1, hgr1⟩ := and_e hgr0
  obtain ⟨hg2, hgr2⟩ := and_e hgr1
  obtain ⟨hg3, hgr3⟩ := and_e hgr2
  obtain ⟨hg4, hgr4⟩ := and_e hgr3
  obtain ⟨hg5, hgr5⟩ := and_e hgr4
  obtain ⟨w0, w1, w2, w3, w4, w5, rfl⟩ : ∃ w0 w1 w2 w3 w4 w5 : Value, args = #[w0, w1, w2, w3, w4, w5] := by
    have hs : args.size = 6 := by simpa [Cond.value, given_1] using hg0
    obtain ⟨L⟩ := args
    match L, hs with
    | [w0, w1, w2, w3, w4, w5], _ => exact ⟨w0, w1, w2, w3, w4, w5, rfl⟩
  have hw := fun d (hd : d ∈ tables_1) => atoms_spec (ws := Jvm.Cond.code x code maxLocals ret :: tables_1) hat d (List.mem_cons_of_mem _ hd)
  have hfit : Fit s := fun {y c} hc i hi => by
    obtain ⟨ha, rfl⟩ := Array.getElem?_eq_some_iff.mp hc
    have q := List.all_eq_true.mp ((Array.all_eq_true_iff_forall_mem.mp hF) _ (Array.getElem_mem ha)) i (List.mem_range.mpr hi)
    simpa [Array.getElem?_eq_getElem hi] using q
  obtain ⟨i0, ei0⟩ := is_v hg1
  obtain rfl : w0 = (.int i0) := Option.some.inj ei0
  obtain ⟨i1, ei1⟩ := is_v hg2
  obtain rfl : w1 = (.int i1) := Option.some.inj ei1
  obtain ⟨i2, ei2⟩ := is_v hg3
  obtain rfl : w2 = (.int i2) := Option.some.inj ei2
  obtain ⟨i3, ei3⟩ := is_v hg4
  obtain rfl : w3 = (.int i3) := Option.some.inj ei3
  obtain ⟨i4, ei4⟩ := is_v hg5
  obtain rfl : w4 = (.int i4) := Option.some.inj ei4
  obtain ⟨i5, ei5⟩ := is_v hgr5
  obtain rfl : w5 = (.int i5) := Option.some.inj ei5
  obtain ⟨hsets, hown0⟩ := atoms_of _ (rest_1_c_eq ▸ (show rest_1_c.before _ s = true from hrest))
  have n5 := not_v (Cond.before_iff.mp (hsets _ (List.mem_of_getElem? (i := 2) rfl)))
  obtain ⟨G1, eG1⟩ := is_v (Cond.before_iff.mp (hsets _ (List.mem_of_getElem? (i := 1) rfl)))
  have O2 : Sta s s.heap "java/lang/String" "COMPACT_STRINGS" "Z" (.int G1) := Sta.start eG1 (Or.inl (hsets _ (List.mem_of_getElem? (i := 0) rfl)))
  have P5 : ¬ (G1 = (0 : Int32)) := gotF (Cond.eq_ints eG1 (Term.int_eval (0))) n5
  obtain ⟨hx_IDENTIFIER, hr0⟩ := and_e hn
  obtain ⟨hx_SYMBOL, hr1⟩ := and_e hr0
  obtain ⟨ho_IDENTIFIER, hr2⟩ := and_e hr1
  obtain ⟨ho_SYMBOL, hr3⟩ := and_e hr2
  obtain ⟨hx_END, hr4⟩ := and_e hr3
  obtain ⟨ho_END, hr5⟩ := and_e hr4
  obtain ⟨hx_NUMBER, hr6⟩ := and_e hr5
  obtain ⟨ho_NUMBER, hr7⟩ := and_e hr6
  obtain ⟨hx_STRING, hr8⟩ := and_e hr7
  have ho_STRING := hr8
  obtain ⟨aI, eaI⟩ := exa_v hx_IDENTIFIER
  have SaI : Sta s s.heap "com/example/ianus/ianus/Token$Kind" "IDENTIFIER" "Lcom/example/ianus/ianus/Token$Kind;" (.ref aI) := Sta.start eaI (Or.inr ⟨(hw _ (List.mem_of_getElem? (i := 33) rfl)), (hw _ (List.mem_of_getElem? (i := 34) rfl))⟩)
  have OaI := own_fldI eaI ho_IDENTIFIER
  obtain ⟨aS, eaS⟩ := exa_v hx_STRING
  have SaS : Sta s s.heap "com/example/ianus/ianus/Token$Kind" "STRING" "Lcom/example/ianus/ianus/Token$Kind;" (.ref aS) := Sta.start eaS (Or.inr ⟨(hw _ (List.mem_of_getElem? (i := 33) rfl)), (hw _ (List.mem_of_getElem? (i := 84) rfl))⟩)
  have OaS := own_fldI eaS ho_STRING
  obtain ⟨aN, eaN⟩ := exa_v hx_NUMBER
  have SaN : Sta s s.heap "com/example/ianus/ianus/Token$Kind" "NUMBER" "Lcom/example/ianus/ianus/Token$Kind;" (.ref aN) := Sta.start eaN (Or.inr ⟨(hw _ (List.mem_of_getElem? (i := 33) rfl)), (hw _ (List.mem_of_getElem? (i := 82) rfl))⟩)
  have OaN := own_fldI eaN ho_NUMBER
  obtain ⟨aY, eaY⟩ := exa_v hx_SYMBOL
  have SaY : Sta s s.heap "com/example/ianus/ianus/Token$Kind" "SYMBOL" "Lcom/example/ianus/ianus/Token$Kind;" (.ref aY) := Sta.start eaY (Or.inr ⟨(hw _ (List.mem_of_getElem? (i := 33) rfl)), (hw _ (List.mem_of_getElem? (i := 55) rfl))⟩)
  have OaY := own_fldI eaY ho_SYMBOL
  obtain ⟨aE, eaE⟩ := exa_v hx_END
  have SaE : Sta s s.heap "com/example/ianus/ianus/Token$Kind" "END" "Lcom/example/ianus/ianus/Token$Kind;" (.ref aE) := Sta.start eaE (Or.inr ⟨(hw _ (List.mem_of_getElem? (i := 33) rfl)), (hw _ (List.mem_of_getElem? (i := 63) rfl))⟩)
  have OaE := own_fldI eaE ho_END
  have ne_aI_aS : aI ≠ aS := Fld.ne OaI OaS (by decide)
  have ne_aI_aN : aI ≠ aN := Fld.ne OaI OaN (by decide)
  have ne_aI_aY : aI ≠ aY := Fld.ne OaI OaY (by decide)
  have ne_aI_aE : aI ≠ aE := Fld.ne OaI OaE (by decide)
  have ne_aS_aY : aS ≠ aY := Fld.ne OaS OaY (by decide)
  have ne_aN_aY : aN ≠ aY := Fld.ne OaN OaY (by decide)
  have ne_aY_aE : aY ≠ aE := Fld.ne OaY OaE (by decide)
  have CHs : CHv s own_EL s.vm s.heap := CHv.start (own_EWof hw) hcalls.1 (hsets _ (List.mem_of_getElem? (i := 2) rfl)) (hw _ (List.mem_of_getElem? (i := 19) rfl)) (hw _ (List.mem_of_getElem? (i := 5) rfl))
  obtain ⟨n, o, h1, h2, h3, _, L, rfl, ⟨rfl, N⟩, -, hq⟩ := own_rm0 l s _ hw tables_1 i0 i1 i2 i3 i4 i5 G1 aI aS aN aY aE s.heap s.heap.size (Nat.le_refl _) (Old.start s) O2 P5 SaI SaS SaN SaY SaE ne_aI_aS ne_aI_aN ne_aI_aY ne_aI_aE ne_aS_aY ne_aN_aY ne_aY_aE p e ha hc hk s m _ below hf ((Spec.applies_iff_loose hf).mp happ).1 ⟨rfl, State.Warmed39.refl s, rfl, CHs⟩ trivial
  refine ⟨n, _, h1, h2, h3, hpost _ _ _ _ _ _ ⟨Cond.after_iff.mpr rfl, Cond.after_iff.mpr (eq_i res_at (Term.int_eval (1)) rfl), trivial⟩ ⟨hq.1, hq.2.1, hq.2.2.1, (hq.2.2.2.sift fun y hy => Or.inr (N y hy)).mono (by decide) (by decide)⟩⟩
theorem main_1_1 : Claimed_1_1 := own_comes fun _ _ _ _ _ _ h hF => ⟨h.1, hF⟩
theorem main_1_2 : Claimed_1_2 := own_comes fun _ _ _ _ _ _ h hF => ⟨h.2.1, hF⟩
end Jvm.Pilot.@@N@@
namespace Jvm.Pilot.@@N@@
open Jvm Jvm.ClassFile Sem Op Lib Jvm.Free Jvm.Stand Jvm.Pilot.@@N@@.Jvm.D
/-! MADE BY PROGRAM (witnessworld.py) out of the Statement's table words and the real class files: 22 classes; the members and pool entries that the words name. The judged class is class 1, her method 3. -/
namespace start1
open Jvm.ClassFile
def u (s : String) : CpInfo := .utf8 (stringToUtf16 s)
/-- a pool by its gaps: so many unusable entries, then the entry; so many at the end -/
def gap : Nat → List CpInfo → List CpInfo
  | 0, r => r
  | n + 1, r => .unusable :: gap n r
def poolList (es : List (Nat × CpInfo)) (last : Nat) : List CpInfo := es.foldr (fun e r => gap e.1 (e.2 :: r)) (gap last [])
def pool (es : List (Nat × CpInfo)) (last : Nat) : Array CpInfo := ⟨poolList es last⟩
def fileOf (pool : Array CpInfo) (this : Nat) (attrs : Array Attribute := #[]) (ms : Array MethodInfo := #[]) (fl : Nat := 33) (sup : Nat := 0) (ifs : Array Nat := #[]) (fds : Array FieldInfo := #[]) : ClassFile where
  minorVersion := 0
  majorVersion := 65
  constantPool := pool
  accessFlags := fl
  thisClass := this
  superClass := sup
  interfaces := ifs
  fields := fds
  methods := ms
  attributes := attrs
def plain (name : String) (sup : Option ClassId) : Class where
  name := name
  kind := .ordinary
  loader := none
  accessFlags := 33
  super := sup
  interfaces := #[]
  cf := none
  fields := #[]
  methods := #[]
  instanceTypes := #[]
  staticTypes := #[]
  resolved := #[]
  callSites := []
  init := .initialized
  statics := none
  mirror := none

def pool0 : Array CpInfo := pool [(5, u "<init>"), (0, u "()V"), (1, .class_ 10), (1, u "java/lang/Object")] 113

def k0c0 : Code := { maxStack := 0, maxLocals := 1, code := object_method_1_code, exceptionTable := #[], attributes := #[] }
def k0m0 : Method := { name := "<init>", desc := "()V", sig := { parameters := [], returnType := none }, accessFlags := 1, code := some k0c0 }
/-- java/lang/Object -/
def k0 : Class := { plain "java/lang/Object" none with
  accessFlags := 33
  interfaces := #[]
  cf := some (fileOf pool0 8 #[] #[{ accessFlags := 1, nameIndex := 5, descriptorIndex := 6, attributes := #[] }] 33 0 #[] #[])
  fields := #[]
  methods := #[k0m0]
  instanceTypes := #[]
  staticTypes := #[]
  resolved := Array.replicate 124 none
  statics := none }

def pool1 : Array CpInfo := pool [(2, .class_ 4), (1, u "java/lang/Object"), (0, u "<init>"), (0, u "()V"), (0, .class_ 8), (0, u "java/lang/String"), (0, .methodref 7 10), (0, .nameAndType 5 11), (0, u "([C)V"), (0, .fieldref 13 14), (0, .class_ 15), (0, .nameAndType 16 17), (0, u "com/example/ianus/ianus/Token$Kind"), (0, u "IDENTIFIER"), (0, u "Lcom/example/ianus/ianus/Token$Kind;"), (0, .fieldref 13 19), (0, .nameAndType 20 17), (0, u "STRING"), (0, .fieldref 13 22), (0, .nameAndType 23 17), (0, u "NUMBER"), (0, .fieldref 13 25), (0, .nameAndType 26 17), (0, u "SYMBOL"), (0, .fieldref 13 28), (0, .nameAndType 29 17), (0, u "END"), (0, .methodref 31 32), (0, .class_ 33), (0, .nameAndType 34 35), (0, u "com/example/ianus/ianus/TokenIsPinLaw"), (0, u "str"), (0, u "(ICCC)Ljava/lang/String;"), (0, .class_ 37), (0, u "com/example/ianus/ianus/Token"), (0, .methodref 31 39), (0, .nameAndType 40 41), (0, u "kindOf"), (0, u "(I)Lcom/example/ianus/ianus/Token$Kind;"), (0, .methodref 36 43), (0, .nameAndType 5 44), (0, u "(Lcom/example/ianus/ianus/Token$Kind;Ljava/lang/String;Ljava/lang/String;II)V"), (0, .methodref 36 46), (0, .nameAndType 47 48), (0, u "is"), (0, u "(Ljava/lang/String;)Z"), (3, u "law"), (0, u "(IIIIII)Z")] 4

def k1m0 : Method := { name := "<init>", desc := "()V", sig := { parameters := [], returnType := none }, accessFlags := 2, code := none }
def k1c1 : Code := { maxStack := 3, maxLocals := 5, code := method_2_code, exceptionTable := #[], attributes := #[] }
def k1m1 : Method := { name := "str", desc := "(ICCC)Ljava/lang/String;", sig := { parameters := [.int, .char, .char, .char], returnType := some (.object "java/lang/String") }, accessFlags := 10, code := some k1c1 }
def k1c2 : Code := { maxStack := 2, maxLocals := 1, code := method_3_code, exceptionTable := #[], attributes := #[] }
def k1m2 : Method := { name := "kindOf", desc := "(I)Lcom/example/ianus/ianus/Token$Kind;", sig := { parameters := [.int], returnType := some (.object "com/example/ianus/ianus/Token$Kind") }, accessFlags := 10, code := some k1c2 }
def k1c3 : Code := { maxStack := 7, maxLocals := 29, code := code, exceptionTable := #[], attributes := #[] }
def k1m3 : Method := { name := "law", desc := "(IIIIII)Z", sig := { parameters := [.int, .int, .int, .int, .int, .int], returnType := some .boolean }, accessFlags := 9, code := some k1c3 }
/-- com/example/ianus/ianus/TokenIsPinLaw -/
def k1 : Class := { plain "com/example/ianus/ianus/TokenIsPinLaw" (some 0) with
  accessFlags := 49
  interfaces := #[]
  cf := some (fileOf pool1 31 #[] #[{ accessFlags := 2, nameIndex := 5, descriptorIndex := 6, attributes := #[] }, { accessFlags := 10, nameIndex := 34, descriptorIndex := 35, attributes := #[] }, { accessFlags := 10, nameIndex := 40, descriptorIndex := 41, attributes := #[] }, { accessFlags := 9, nameIndex := 52, descriptorIndex := 53, attributes := #[] }] 49 2 #[] #[])
  fields := #[]
  methods := #[k1m0, k1m1, k1m2, k1m3]
  instanceTypes := #[]
  staticTypes := #[]
  resolved := Array.replicate 58 none
  statics := none }

def pool2 : Array CpInfo := pool [(1, .class_ 2), (0, u "java/io/Serializable"), (0, .class_ 4), (0, u "java/lang/Object")] 2

/-- java/io/Serializable -/
def k2 : Class := { plain "java/io/Serializable" (some 0) with
  accessFlags := 1537
  interfaces := #[]
  cf := some (fileOf pool2 1 #[] #[] 1537 3 #[] #[])
  fields := #[]
  methods := #[]
  instanceTypes := #[]
  staticTypes := #[]
  resolved := Array.replicate 7 none
  statics := none }

def pool3 : Array CpInfo := pool [(1, .class_ 2), (0, u "java/lang/Comparable"), (0, .class_ 4), (0, u "java/lang/Object")] 7

/-- java/lang/Comparable -/
def k3 : Class := { plain "java/lang/Comparable" (some 0) with
  accessFlags := 1537
  interfaces := #[]
  cf := some (fileOf pool3 1 #[] #[] 1537 3 #[] #[])
  fields := #[]
  methods := #[]
  instanceTypes := #[]
  staticTypes := #[]
  resolved := Array.replicate 12 none
  statics := none }

def pool4 : Array CpInfo := pool [(2, .class_ 4), (1, u "java/lang/CharSequence"), (42, .class_ 48), (0, u "java/lang/CharSequence$1CodePointIterator"), (10, .class_ 60), (0, u "java/lang/CharSequence$1CharIterator"), (5, .class_ 67), (0, u "java/lang/Object")] 63

/-- java/lang/CharSequence -/
def k4 : Class := { plain "java/lang/CharSequence" (some 0) with
  accessFlags := 1537
  interfaces := #[]
  cf := some (fileOf pool4 2 #[.nestMembers #[47, 59]] #[] 1537 66 #[] #[])
  fields := #[]
  methods := #[]
  instanceTypes := #[]
  staticTypes := #[]
  resolved := Array.replicate 131 none
  statics := none }

def pool5 : Array CpInfo := pool [(1, .class_ 2), (0, u "java/lang/constant/Constable"), (0, .class_ 4), (0, u "java/lang/Object")] 6

/-- java/lang/constant/Constable -/
def k5 : Class := { plain "java/lang/constant/Constable" (some 0) with
  accessFlags := 1537
  interfaces := #[]
  cf := some (fileOf pool5 1 #[] #[] 1537 3 #[] #[])
  fields := #[]
  methods := #[]
  instanceTypes := #[]
  staticTypes := #[]
  resolved := Array.replicate 11 none
  statics := none }

def pool6 : Array CpInfo := pool [(1, .class_ 2), (0, u "java/lang/constant/ConstantDesc"), (0, .class_ 4), (0, u "java/lang/Object")] 32

/-- java/lang/constant/ConstantDesc -/
def k6 : Class := { plain "java/lang/constant/ConstantDesc" (some 0) with
  accessFlags := 1537
  interfaces := #[]
  cf := some (fileOf pool6 1 #[] #[] 1537 3 #[] #[])
  fields := #[]
  methods := #[]
  instanceTypes := #[]
  staticTypes := #[]
  resolved := Array.replicate 37 none
  statics := none }

def pool7 : Array CpInfo := pool [(1, .methodref 2 3), (0, .class_ 4), (0, .nameAndType 5 6), (0, u "java/lang/Object"), (0, u "<init>"), (0, u "()V"), (0, .string 8), (0, u ""), (0, .fieldref 10 11), (0, .class_ 12), (0, .nameAndType 13 14), (0, u "java/lang/String"), (0, u "value"), (0, u "[B"), (0, .fieldref 10 16), (0, .nameAndType 17 18), (0, u "coder"), (0, u "B"), (2, u "hash"), (0, u "I"), (2, u "hashIsZero"), (0, u "Z"), (0, .methodref 10 28), (0, .nameAndType 5 29), (0, u "([CIILjava/lang/Void;)V"), (8, .fieldref 10 39), (0, .nameAndType 40 26), (0, u "COMPACT_STRINGS"), (1, .class_ 44), (1, u "java/lang/StringUTF16"), (0, u "compress"), (1, .methodref 42 48), (0, .nameAndType 49 50), (0, u "coderFromArrayLen"), (0, u "([BI)B"), (56, .class_ 109), (1, u "java/lang/StringLatin1"), (67, .methodref 42 178), (0, .nameAndType 45 179), (0, u "([CII)[B"), (361, .methodref 107 542), (0, .nameAndType 543 544), (0, u "equals"), (0, u "([B[B)Z"), (28, u "(Ljava/lang/Object;)Z"), (1, .class_ 576), (0, u "java/lang/CharSequence"), (22, u "CASE_INSENSITIVE_ORDER"), (0, u "Ljava/util/Comparator;"), (409, u "([C)V"), (90, u "serialPersistentFields"), (0, u "[Ljava/io/ObjectStreamField;"), (0, .class_ 1104), (0, u "java/lang/String$CaseInsensitiveComparator"), (1, .class_ 1107), (0, u "java/io/Serializable"), (0, .class_ 1109), (0, u "java/lang/Comparable"), (0, .class_ 1111), (0, u "java/lang/constant/Constable"), (0, .class_ 1113), (0, u "java/lang/constant/ConstantDesc"), (2, u "serialVersionUID"), (0, u "J"), (3, u "REPL"), (0, u "C"), (2, u "LATIN1"), (1, u "UTF16")] 323

def k7m0 : Method := { name := "<init>", desc := "()V", sig := { parameters := [], returnType := none }, accessFlags := 1, code := none }
def k7c1 : Code := { maxStack := 5, maxLocals := 2, code := jdk_42_method_3_code, exceptionTable := #[], attributes := #[] }
def k7m1 : Method := { name := "<init>", desc := "([C)V", sig := { parameters := [(.array .char)], returnType := none }, accessFlags := 1, code := some k7c1 }
def k7c2 : Code := { maxStack := 2, maxLocals := 3, code := jdk_42_method_66_code, exceptionTable := #[], attributes := #[] }
def k7m2 : Method := { name := "equals", desc := "(Ljava/lang/Object;)Z", sig := { parameters := [(.object "java/lang/Object")], returnType := some .boolean }, accessFlags := 1, code := some k7c2 }
def k7c3 : Code := { maxStack := 4, maxLocals := 6, code := jdk_42_method_149_code, exceptionTable := #[], attributes := #[] }
def k7m3 : Method := { name := "<init>", desc := "([CIILjava/lang/Void;)V", sig := { parameters := [(.array .char), .int, .int, (.object "java/lang/Void")], returnType := none }, accessFlags := 2, code := some k7c3 }
/-- java/lang/String -/
def k7 : Class := { plain "java/lang/String" (some 0) with
  accessFlags := 49
  interfaces := #[2, 3, 4, 5, 6]
  cf := some (fileOf pool7 10 #[.nestMembers #[1103]] #[{ accessFlags := 1, nameIndex := 5, descriptorIndex := 6, attributes := #[] }, { accessFlags := 1, nameIndex := 5, descriptorIndex := 1010, attributes := #[] }, { accessFlags := 1, nameIndex := 543, descriptorIndex := 573, attributes := #[] }, { accessFlags := 2, nameIndex := 5, descriptorIndex := 29, attributes := #[] }] 49 2 #[1106, 1108, 575, 1110, 1112] #[{ accessFlags := 18, nameIndex := 13, descriptorIndex := 14, attributes := #[] }, { accessFlags := 18, nameIndex := 17, descriptorIndex := 18, attributes := #[] }, { accessFlags := 2, nameIndex := 21, descriptorIndex := 22, attributes := #[] }, { accessFlags := 2, nameIndex := 25, descriptorIndex := 26, attributes := #[] }, { accessFlags := 26, nameIndex := 1116, descriptorIndex := 1117, attributes := #[] }, { accessFlags := 24, nameIndex := 40, descriptorIndex := 26, attributes := #[] }, { accessFlags := 26, nameIndex := 1101, descriptorIndex := 1102, attributes := #[] }, { accessFlags := 26, nameIndex := 1121, descriptorIndex := 1122, attributes := #[] }, { accessFlags := 25, nameIndex := 599, descriptorIndex := 600, attributes := #[] }, { accessFlags := 24, nameIndex := 1125, descriptorIndex := 18, attributes := #[] }, { accessFlags := 24, nameIndex := 1127, descriptorIndex := 18, attributes := #[] }])
  fields := #[{ name := "value", type := (.array .byte), accessFlags := 18, slot := 0, constantValue := 0 }, { name := "coder", type := .byte, accessFlags := 18, slot := 1, constantValue := 0 }, { name := "hash", type := .int, accessFlags := 2, slot := 2, constantValue := 0 }, { name := "hashIsZero", type := .boolean, accessFlags := 2, slot := 3, constantValue := 0 }, { name := "serialVersionUID", type := .long, accessFlags := 26, slot := 0, constantValue := 0 }, { name := "COMPACT_STRINGS", type := .boolean, accessFlags := 24, slot := 1, constantValue := 0 }, { name := "serialPersistentFields", type := (.array (.object "java/io/ObjectStreamField")), accessFlags := 26, slot := 2, constantValue := 0 }, { name := "REPL", type := .char, accessFlags := 26, slot := 3, constantValue := 0 }, { name := "CASE_INSENSITIVE_ORDER", type := (.object "java/util/Comparator"), accessFlags := 25, slot := 4, constantValue := 0 }, { name := "LATIN1", type := .byte, accessFlags := 24, slot := 5, constantValue := 0 }, { name := "UTF16", type := .byte, accessFlags := 24, slot := 6, constantValue := 0 }]
  methods := #[k7m0, k7m1, k7m2, k7m3]
  instanceTypes := #[(.array .byte), .byte, .int, .boolean]
  staticTypes := #[.long, .boolean, (.array (.object "java/io/ObjectStreamField")), .char, (.object "java/util/Comparator"), .byte, .byte]
  resolved := Array.replicate 1451 none
  statics := some 0 }

def pool8 : Array CpInfo := pool [(1, .methodref 2 3), (0, .class_ 4), (0, .nameAndType 5 6), (0, u "java/lang/Object"), (0, u "<init>"), (0, u "()V"), (0, .fieldref 8 9), (0, .class_ 10), (0, .nameAndType 11 12), (0, u "com/example/ianus/ianus/Token"), (0, u "kind"), (0, u "Lcom/example/ianus/ianus/Token$Kind;"), (0, .fieldref 8 14), (0, .nameAndType 15 16), (0, u "text"), (0, u "Ljava/lang/String;"), (0, .fieldref 8 18), (0, .nameAndType 19 16), (0, u "value"), (0, .fieldref 8 21), (0, .nameAndType 22 23), (0, u "line"), (0, u "I"), (0, .fieldref 8 25), (0, .nameAndType 26 23), (0, u "column"), (0, .fieldref 28 29), (0, .class_ 30), (0, .nameAndType 31 12), (0, u "com/example/ianus/ianus/Token$Kind"), (0, u "SYMBOL"), (0, .fieldref 28 33), (0, .nameAndType 34 12), (0, u "IDENTIFIER"), (0, .methodref 36 37), (0, .class_ 38), (0, .nameAndType 39 40), (0, u "java/lang/String"), (0, u "equals"), (0, u "(Ljava/lang/Object;)Z"), (21, u "(Lcom/example/ianus/ianus/Token$Kind;Ljava/lang/String;Ljava/lang/String;II)V"), (4, u "is"), (0, u "(Ljava/lang/String;)Z")] 25

def k8c0 : Code := { maxStack := 2, maxLocals := 6, code := prog_18_method_1_code, exceptionTable := #[], attributes := #[] }
def k8m0 : Method := { name := "<init>", desc := "(Lcom/example/ianus/ianus/Token$Kind;Ljava/lang/String;Ljava/lang/String;II)V", sig := { parameters := [(.object "com/example/ianus/ianus/Token$Kind"), (.object "java/lang/String"), (.object "java/lang/String"), .int, .int], returnType := none }, accessFlags := 0, code := some k8c0 }
def k8c1 : Code := { maxStack := 2, maxLocals := 2, code := prog_18_method_7_code, exceptionTable := #[], attributes := #[] }
def k8m1 : Method := { name := "is", desc := "(Ljava/lang/String;)Z", sig := { parameters := [(.object "java/lang/String")], returnType := some .boolean }, accessFlags := 0, code := some k8c1 }
/-- com/example/ianus/ianus/Token -/
def k8 : Class := { plain "com/example/ianus/ianus/Token" (some 0) with
  accessFlags := 32
  interfaces := #[]
  cf := some (fileOf pool8 8 #[.nestMembers #[28]] #[{ accessFlags := 0, nameIndex := 5, descriptorIndex := 62, attributes := #[] }, { accessFlags := 0, nameIndex := 67, descriptorIndex := 68, attributes := #[] }] 32 2 #[] #[{ accessFlags := 18, nameIndex := 11, descriptorIndex := 12, attributes := #[] }, { accessFlags := 18, nameIndex := 15, descriptorIndex := 16, attributes := #[] }, { accessFlags := 18, nameIndex := 19, descriptorIndex := 16, attributes := #[] }, { accessFlags := 18, nameIndex := 22, descriptorIndex := 23, attributes := #[] }, { accessFlags := 18, nameIndex := 26, descriptorIndex := 23, attributes := #[] }])
  fields := #[{ name := "kind", type := (.object "com/example/ianus/ianus/Token$Kind"), accessFlags := 18, slot := 0, constantValue := 0 }, { name := "text", type := (.object "java/lang/String"), accessFlags := 18, slot := 1, constantValue := 0 }, { name := "value", type := (.object "java/lang/String"), accessFlags := 18, slot := 2, constantValue := 0 }, { name := "line", type := .int, accessFlags := 18, slot := 3, constantValue := 0 }, { name := "column", type := .int, accessFlags := 18, slot := 4, constantValue := 0 }]
  methods := #[k8m0, k8m1]
  instanceTypes := #[(.object "com/example/ianus/ianus/Token$Kind"), (.object "java/lang/String"), (.object "java/lang/String"), .int, .int]
  staticTypes := #[]
  resolved := Array.replicate 94 none
  statics := none }

def pool9 : Array CpInfo := pool [(2, .class_ 4), (1, u "java/lang/Enum"), (0, u "name"), (0, u "Ljava/lang/String;"), (2, u "ordinal"), (0, u "I"), (1, .class_ 14), (1, u "java/lang/Object"), (4, u "hash"), (86, .class_ 108), (1, u "java/lang/Enum$EnumDesc"), (2, .class_ 112), (0, u "java/lang/constant/Constable"), (0, .class_ 114), (0, u "java/lang/Comparable"), (0, .class_ 116), (0, u "java/io/Serializable")] 87

/-- java/lang/Enum -/
def k9 : Class := { plain "java/lang/Enum" (some 0) with
  accessFlags := 1057
  interfaces := #[5, 3, 2]
  cf := some (fileOf pool9 2 #[.nestMembers #[106]] #[] 1057 12 #[111, 113, 115] #[{ accessFlags := 18, nameIndex := 5, descriptorIndex := 6, attributes := #[] }, { accessFlags := 18, nameIndex := 9, descriptorIndex := 10, attributes := #[] }, { accessFlags := 2, nameIndex := 19, descriptorIndex := 10, attributes := #[] }])
  fields := #[{ name := "name", type := (.object "java/lang/String"), accessFlags := 18, slot := 0, constantValue := 0 }, { name := "ordinal", type := .int, accessFlags := 18, slot := 1, constantValue := 0 }, { name := "hash", type := .int, accessFlags := 2, slot := 2, constantValue := 0 }]
  methods := #[]
  instanceTypes := #[(.object "java/lang/String"), .int, .int]
  staticTypes := #[]
  resolved := Array.replicate 204 none
  statics := none }

def pool10 : Array CpInfo := pool [(1, .class_ 2), (0, u "com/example/ianus/ianus/Token$Kind"), (2, u "IDENTIFIER"), (0, u "Lcom/example/ianus/ianus/Token$Kind;"), (2, u "STRING"), (2, u "NUMBER"), (2, u "SYMBOL"), (2, u "END"), (2, u "$VALUES"), (0, u "[Lcom/example/ianus/ianus/Token$Kind;"), (6, .class_ 31), (1, u "java/lang/Enum"), (28, .class_ 61), (0, u "com/example/ianus/ianus/Token")] 2

/-- com/example/ianus/ianus/Token$Kind -/
def k10 : Class := { plain "com/example/ianus/ianus/Token$Kind" (some 9) with
  accessFlags := 16432
  interfaces := #[]
  cf := some (fileOf pool10 1 #[.nestHost 60] #[] 16432 29 #[] #[{ accessFlags := 16409, nameIndex := 5, descriptorIndex := 6, attributes := #[] }, { accessFlags := 16409, nameIndex := 9, descriptorIndex := 6, attributes := #[] }, { accessFlags := 16409, nameIndex := 12, descriptorIndex := 6, attributes := #[] }, { accessFlags := 16409, nameIndex := 15, descriptorIndex := 6, attributes := #[] }, { accessFlags := 16409, nameIndex := 18, descriptorIndex := 6, attributes := #[] }, { accessFlags := 4122, nameIndex := 21, descriptorIndex := 22, attributes := #[] }])
  fields := #[{ name := "IDENTIFIER", type := (.object "com/example/ianus/ianus/Token$Kind"), accessFlags := 16409, slot := 0, constantValue := 0 }, { name := "STRING", type := (.object "com/example/ianus/ianus/Token$Kind"), accessFlags := 16409, slot := 1, constantValue := 0 }, { name := "NUMBER", type := (.object "com/example/ianus/ianus/Token$Kind"), accessFlags := 16409, slot := 2, constantValue := 0 }, { name := "SYMBOL", type := (.object "com/example/ianus/ianus/Token$Kind"), accessFlags := 16409, slot := 3, constantValue := 0 }, { name := "END", type := (.object "com/example/ianus/ianus/Token$Kind"), accessFlags := 16409, slot := 4, constantValue := 0 }, { name := "$VALUES", type := (.array (.object "com/example/ianus/ianus/Token$Kind")), accessFlags := 4122, slot := 5, constantValue := 0 }]
  methods := #[]
  instanceTypes := #[(.object "java/lang/String"), .int, .int]
  staticTypes := #[(.object "com/example/ianus/ianus/Token$Kind"), (.object "com/example/ianus/ianus/Token$Kind"), (.object "com/example/ianus/ianus/Token$Kind"), (.object "com/example/ianus/ianus/Token$Kind"), (.object "com/example/ianus/ianus/Token$Kind"), (.array (.object "com/example/ianus/ianus/Token$Kind"))]
  resolved := Array.replicate 64 none
  statics := some 1 }

def pool11 : Array CpInfo := pool [(6, .class_ 8), (1, u "java/lang/Object"), (0, u "<init>"), (0, u "()V"), (1, .class_ 14), (1, u "java/lang/StringUTF16"), (31, u "$assertionsDisabled"), (0, u "Z"), (13, u "HI_BYTE_SHIFT"), (0, u "I"), (2, u "LO_BYTE_SHIFT"), (49, .methodref 12 116), (0, .nameAndType 117 118), (0, u "compress"), (0, u "([CI[BII)I"), (3, u "([CII)[B"), (138, u "coderFromArrayLen"), (0, u "([BI)B"), (106, .class_ 371), (1, u "java/lang/StringUTF16$LinesSpliterator"), (58, u "MAX_LENGTH"), (196, .class_ 628), (0, u "java/lang/StringUTF16$CodePointsSpliterator"), (0, .class_ 630), (0, u "java/lang/StringUTF16$CharsSpliterator")] 4

def k11m0 : Method := { name := "<init>", desc := "()V", sig := { parameters := [], returnType := none }, accessFlags := 0, code := none }
def k11c1 : Code := { maxStack := 2, maxLocals := 2, code := jdk_52_method_15_code, exceptionTable := #[], attributes := #[] }
def k11m1 : Method := { name := "coderFromArrayLen", desc := "([BI)B", sig := { parameters := [(.array .byte), .int], returnType := some .byte }, accessFlags := 8, code := some k11c1 }
def k11c2 : Code := { maxStack := 5, maxLocals := 6, code := jdk_52_method_16_code, exceptionTable := #[], attributes := #[] }
def k11m2 : Method := { name := "compress", desc := "([CII)[B", sig := { parameters := [(.array .char), .int, .int], returnType := some (.array .byte) }, accessFlags := 9, code := some k11c2 }
def k11c3 : Code := { maxStack := 3, maxLocals := 7, code := jdk_52_method_21_code, exceptionTable := #[], attributes := #[] }
def k11m3 : Method := { name := "compress", desc := "([CI[BII)I", sig := { parameters := [(.array .char), .int, (.array .byte), .int, .int], returnType := some .int }, accessFlags := 9, code := some k11c3 }
/-- java/lang/StringUTF16 -/
def k11 : Class := { plain "java/lang/StringUTF16" (some 0) with
  accessFlags := 48
  interfaces := #[]
  cf := some (fileOf pool11 12 #[.nestMembers #[627, 629, 369]] #[{ accessFlags := 0, nameIndex := 9, descriptorIndex := 10, attributes := #[] }, { accessFlags := 8, nameIndex := 261, descriptorIndex := 262, attributes := #[] }, { accessFlags := 9, nameIndex := 117, descriptorIndex := 122, attributes := #[] }, { accessFlags := 9, nameIndex := 117, descriptorIndex := 118, attributes := #[] }] 48 6 #[] #[{ accessFlags := 26, nameIndex := 61, descriptorIndex := 62, attributes := #[] }, { accessFlags := 26, nameIndex := 65, descriptorIndex := 62, attributes := #[] }, { accessFlags := 24, nameIndex := 430, descriptorIndex := 62, attributes := #[] }, { accessFlags := 4120, nameIndex := 46, descriptorIndex := 47, attributes := #[] }])
  fields := #[{ name := "HI_BYTE_SHIFT", type := .int, accessFlags := 26, slot := 0, constantValue := 0 }, { name := "LO_BYTE_SHIFT", type := .int, accessFlags := 26, slot := 1, constantValue := 0 }, { name := "MAX_LENGTH", type := .int, accessFlags := 24, slot := 2, constantValue := 0 }, { name := "$assertionsDisabled", type := .boolean, accessFlags := 4120, slot := 3, constantValue := 0 }]
  methods := #[k11m0, k11m1, k11m2, k11m3]
  instanceTypes := #[]
  staticTypes := #[.int, .int, .int, .boolean]
  resolved := Array.replicate 635 none
  statics := none }

def pool12 : Array CpInfo := pool [(4, .class_ 6), (1, u "java/lang/Object"), (0, u "<init>"), (0, u "()V"), (5, .class_ 16), (1, u "java/lang/StringLatin1"), (104, u "$assertionsDisabled"), (0, u "Z"), (98, .class_ 223), (1, u "java/lang/StringLatin1$LinesSpliterator"), (57, u "equals"), (0, u "([B[B)Z"), (107, .class_ 391), (0, u "java/lang/StringLatin1$CharsSpliterator")] 3

def k12m0 : Method := { name := "<init>", desc := "()V", sig := { parameters := [], returnType := none }, accessFlags := 0, code := none }
def k12c1 : Code := { maxStack := 3, maxLocals := 3, code := jdk_43_method_13_code, exceptionTable := #[], attributes := #[] }
def k12m1 : Method := { name := "equals", desc := "([B[B)Z", sig := { parameters := [(.array .byte), (.array .byte)], returnType := some .boolean }, accessFlags := 9, code := some k12c1 }
/-- java/lang/StringLatin1 -/
def k12 : Class := { plain "java/lang/StringLatin1" (some 0) with
  accessFlags := 48
  interfaces := #[]
  cf := some (fileOf pool12 14 #[.nestMembers #[390, 221]] #[{ accessFlags := 0, nameIndex := 7, descriptorIndex := 8, attributes := #[] }, { accessFlags := 9, nameIndex := 281, descriptorIndex := 282, attributes := #[] }] 48 4 #[] #[{ accessFlags := 4120, nameIndex := 121, descriptorIndex := 122, attributes := #[] }])
  fields := #[{ name := "$assertionsDisabled", type := .boolean, accessFlags := 4120, slot := 0, constantValue := 0 }]
  methods := #[k12m0, k12m1]
  instanceTypes := #[]
  staticTypes := #[.boolean]
  resolved := Array.replicate 395 none
  statics := none }

def pool13 : Array CpInfo := pool [(2, .class_ 4), (1, u "java/lang/Object"), (0, u "<init>"), (0, u "()V"), (17, .class_ 26), (1, u "jdk/internal/util/Preconditions"), (28, .class_ 56), (0, u "jdk/internal/util/Preconditions$4"), (57, .class_ 115), (0, u "jdk/internal/util/Preconditions$1"), (7, u "SIOOBE_FORMATTER"), (0, u "Ljava/util/function/BiFunction;"), (0, .class_ 126), (0, u "jdk/internal/util/Preconditions$2"), (3, u "AIOOBE_FORMATTER"), (0, .class_ 132), (0, u "jdk/internal/util/Preconditions$3"), (3, u "IOOBE_FORMATTER")] 57

def k13m0 : Method := { name := "<init>", desc := "()V", sig := { parameters := [], returnType := none }, accessFlags := 1, code := none }
/-- jdk/internal/util/Preconditions -/
def k13 : Class := { plain "jdk/internal/util/Preconditions" (some 0) with
  accessFlags := 33
  interfaces := #[]
  cf := some (fileOf pool13 24 #[.nestMembers #[55, 131, 125, 114]] #[{ accessFlags := 1, nameIndex := 5, descriptorIndex := 6, attributes := #[] }] 33 2 #[] #[{ accessFlags := 25, nameIndex := 123, descriptorIndex := 124, attributes := #[] }, { accessFlags := 25, nameIndex := 130, descriptorIndex := 124, attributes := #[] }, { accessFlags := 25, nameIndex := 136, descriptorIndex := 124, attributes := #[] }])
  fields := #[{ name := "SIOOBE_FORMATTER", type := (.object "java/util/function/BiFunction"), accessFlags := 25, slot := 0, constantValue := 0 }, { name := "AIOOBE_FORMATTER", type := (.object "java/util/function/BiFunction"), accessFlags := 25, slot := 1, constantValue := 0 }, { name := "IOOBE_FORMATTER", type := (.object "java/util/function/BiFunction"), accessFlags := 25, slot := 2, constantValue := 0 }]
  methods := #[k13m0]
  instanceTypes := #[]
  staticTypes := #[(.object "java/util/function/BiFunction"), (.object "java/util/function/BiFunction"), (.object "java/util/function/BiFunction")]
  resolved := Array.replicate 194 none
  statics := some 2 }

def pool14 : Array CpInfo := pool [(9, u "<init>"), (6, .class_ 18), (1, u "java/lang/Object"), (0, u "()V"), (1, .class_ 23), (1, u "jdk/internal/util/ArraysSupport"), (0, u "LOG2_ARRAY_LONG_INDEX_SCALE"), (0, u "I"), (2, u "U"), (0, u "Ljdk/internal/misc/Unsafe;"), (8, u "BIG_ENDIAN"), (0, u "Z"), (8, u "LOG2_BYTE_BIT_SIZE"), (4, u "LOG2_ARRAY_INT_INDEX_SCALE"), (54, u "JLA"), (0, u "Ljdk/internal/access/JavaLangAccess;"), (11, u "LOG2_ARRAY_BOOLEAN_INDEX_SCALE"), (9, u "LOG2_ARRAY_BYTE_INDEX_SCALE"), (5, u "LOG2_ARRAY_CHAR_INDEX_SCALE"), (5, u "LOG2_ARRAY_SHORT_INDEX_SCALE"), (18, u "LOG2_ARRAY_FLOAT_INDEX_SCALE"), (24, u "LOG2_ARRAY_DOUBLE_INDEX_SCALE"), (89, u "T_BOOLEAN"), (2, u "T_CHAR"), (1, u "T_FLOAT"), (1, u "T_DOUBLE"), (1, u "T_BYTE"), (1, u "T_SHORT"), (1, u "T_INT"), (1, u "T_LONG"), (1, u "SOFT_MAX_ARRAY_LENGTH")] 83

def k14m0 : Method := { name := "<init>", desc := "()V", sig := { parameters := [], returnType := none }, accessFlags := 2, code := none }
/-- jdk/internal/util/ArraysSupport -/
def k14 : Class := { plain "jdk/internal/util/ArraysSupport" (some 0) with
  accessFlags := 33
  interfaces := #[]
  cf := some (fileOf pool14 21 #[] #[{ accessFlags := 2, nameIndex := 9, descriptorIndex := 19, attributes := #[] }] 33 16 #[] #[{ accessFlags := 24, nameIndex := 28, descriptorIndex := 29, attributes := #[] }, { accessFlags := 26, nameIndex := 38, descriptorIndex := 39, attributes := #[] }, { accessFlags := 25, nameIndex := 121, descriptorIndex := 25, attributes := #[] }, { accessFlags := 25, nameIndex := 131, descriptorIndex := 25, attributes := #[] }, { accessFlags := 25, nameIndex := 137, descriptorIndex := 25, attributes := #[] }, { accessFlags := 25, nameIndex := 143, descriptorIndex := 25, attributes := #[] }, { accessFlags := 25, nameIndex := 53, descriptorIndex := 25, attributes := #[] }, { accessFlags := 25, nameIndex := 24, descriptorIndex := 25, attributes := #[] }, { accessFlags := 25, nameIndex := 162, descriptorIndex := 25, attributes := #[] }, { accessFlags := 25, nameIndex := 187, descriptorIndex := 25, attributes := #[] }, { accessFlags := 26, nameIndex := 48, descriptorIndex := 25, attributes := #[] }, { accessFlags := 25, nameIndex := 277, descriptorIndex := 25, attributes := #[] }, { accessFlags := 25, nameIndex := 280, descriptorIndex := 25, attributes := #[] }, { accessFlags := 25, nameIndex := 282, descriptorIndex := 25, attributes := #[] }, { accessFlags := 25, nameIndex := 284, descriptorIndex := 25, attributes := #[] }, { accessFlags := 25, nameIndex := 286, descriptorIndex := 25, attributes := #[] }, { accessFlags := 25, nameIndex := 288, descriptorIndex := 25, attributes := #[] }, { accessFlags := 25, nameIndex := 290, descriptorIndex := 25, attributes := #[] }, { accessFlags := 25, nameIndex := 292, descriptorIndex := 25, attributes := #[] }, { accessFlags := 26, nameIndex := 108, descriptorIndex := 109, attributes := #[] }, { accessFlags := 25, nameIndex := 294, descriptorIndex := 25, attributes := #[] }])
  fields := #[{ name := "U", type := (.object "jdk/internal/misc/Unsafe"), accessFlags := 24, slot := 0, constantValue := 0 }, { name := "BIG_ENDIAN", type := .boolean, accessFlags := 26, slot := 1, constantValue := 0 }, { name := "LOG2_ARRAY_BOOLEAN_INDEX_SCALE", type := .int, accessFlags := 25, slot := 2, constantValue := 0 }, { name := "LOG2_ARRAY_BYTE_INDEX_SCALE", type := .int, accessFlags := 25, slot := 3, constantValue := 0 }, { name := "LOG2_ARRAY_CHAR_INDEX_SCALE", type := .int, accessFlags := 25, slot := 4, constantValue := 0 }, { name := "LOG2_ARRAY_SHORT_INDEX_SCALE", type := .int, accessFlags := 25, slot := 5, constantValue := 0 }, { name := "LOG2_ARRAY_INT_INDEX_SCALE", type := .int, accessFlags := 25, slot := 6, constantValue := 0 }, { name := "LOG2_ARRAY_LONG_INDEX_SCALE", type := .int, accessFlags := 25, slot := 7, constantValue := 0 }, { name := "LOG2_ARRAY_FLOAT_INDEX_SCALE", type := .int, accessFlags := 25, slot := 8, constantValue := 0 }, { name := "LOG2_ARRAY_DOUBLE_INDEX_SCALE", type := .int, accessFlags := 25, slot := 9, constantValue := 0 }, { name := "LOG2_BYTE_BIT_SIZE", type := .int, accessFlags := 26, slot := 10, constantValue := 0 }, { name := "T_BOOLEAN", type := .int, accessFlags := 25, slot := 11, constantValue := 0 }, { name := "T_CHAR", type := .int, accessFlags := 25, slot := 12, constantValue := 0 }, { name := "T_FLOAT", type := .int, accessFlags := 25, slot := 13, constantValue := 0 }, { name := "T_DOUBLE", type := .int, accessFlags := 25, slot := 14, constantValue := 0 }, { name := "T_BYTE", type := .int, accessFlags := 25, slot := 15, constantValue := 0 }, { name := "T_SHORT", type := .int, accessFlags := 25, slot := 16, constantValue := 0 }, { name := "T_INT", type := .int, accessFlags := 25, slot := 17, constantValue := 0 }, { name := "T_LONG", type := .int, accessFlags := 25, slot := 18, constantValue := 0 }, { name := "JLA", type := (.object "jdk/internal/access/JavaLangAccess"), accessFlags := 26, slot := 19, constantValue := 0 }, { name := "SOFT_MAX_ARRAY_LENGTH", type := .int, accessFlags := 25, slot := 20, constantValue := 0 }]
  methods := #[k14m0]
  instanceTypes := #[]
  staticTypes := #[(.object "jdk/internal/misc/Unsafe"), .boolean, .int, .int, .int, .int, .int, .int, .int, .int, .int, .int, .int, .int, .int, .int, .int, .int, .int, (.object "jdk/internal/access/JavaLangAccess"), .int]
  resolved := Array.replicate 378 none
  statics := none }

def pool15 : Array CpInfo := pool [(1, u "java/lang/Cloneable"), (0, .class_ 1), (0, u "java/lang/Object"), (0, .class_ 3)] 3

/-- java/lang/Cloneable -/
def k15 : Class := { plain "java/lang/Cloneable" (some 0) with
  accessFlags := 1537
  interfaces := #[]
  cf := some (fileOf pool15 2 #[] #[] 1537 4 #[] #[])
  fields := #[]
  methods := #[]
  instanceTypes := #[]
  staticTypes := #[]
  resolved := Array.replicate 8 none
  statics := none }

/-- the primitive byte -/
def k16 : Class := { plain "byte" none with kind := .primitive 'B', accessFlags := 0x411 }
/-- [B -/
def k17 : Class := { plain "[B" (some 0) with kind := .array 16 .byte, interfaces := #[15, 2], accessFlags := 1041 }

/-- the primitive char -/
def k18 : Class := { plain "char" none with kind := .primitive 'C', accessFlags := 0x411 }
/-- [C -/
def k19 : Class := { plain "[C" (some 0) with kind := .array 18 .char, interfaces := #[15, 2], accessFlags := 1041 }

/-- the primitive int -/
def k20 : Class := { plain "int" none with kind := .primitive 'I', accessFlags := 0x411 }
/-- [I -/
def k21 : Class := { plain "[I" (some 0) with kind := .array 20 .int, interfaces := #[15, 2], accessFlags := 1041 }

def heap : Heap := #[{ cls := 7, slots := #[.long 0, .int 1, .null, .int 0, .null, .int 0, .int 0], vm := .statics 7 },
  { cls := 10, slots := #[.ref 3, .ref 4, .ref 5, .ref 6, .ref 7, .null], vm := .statics 10 },
  { cls := 13, slots := #[.null, .null, .null], vm := .statics 13 },
  { cls := 10, slots := #[.null, .int 0, .int 0], vm := .none },
  { cls := 10, slots := #[.null, .int 1, .int 0], vm := .none },
  { cls := 10, slots := #[.null, .int 2, .int 0], vm := .none },
  { cls := 10, slots := #[.null, .int 3, .int 0], vm := .none },
  { cls := 10, slots := #[.null, .int 4, .int 0], vm := .none }]
def classes : Array Class := #[k0, k1, k2, k3, k4, k5, k6, k7, k8, k9, k10, k11, k12, k13, k14, k15, k16, k17, k18, k19, k20, k21]
def interned : List (Array UInt16 × Addr) := []
def slotsUsed : Nat := 31
def theMethod : MethodId := ⟨1, 3⟩
def args0 : Array Value := #[.int 5, .int 3, .int 2, .int 4, .int 6, .int 7]
def aboutOver (below : List Frame) : State where
  vm := { classes := classes, interned := interned.toArray }
  heap := heap
  slotsUsed := slotsUsed
  threads := #[{ frames := .invoking theMethod args0 :: below }]
def below0 : List Frame := [.native { method := ⟨0, 0⟩, args := #[] }]
def about1 : State := aboutOver below0
def p0 : Program := .bare "" "" ""
def e0 : Env := launch0.env 0 0 0
theorem w_frames : about1.frames = Frame.invoking theMethod args0 :: below0 := rfl
set_option maxRecDepth 65536 in
theorem w_args : argsFit about1.vm theMethod args0 = true := by decide +kernel
set_option maxRecDepth 65536 in
theorem w_heap : heapFits about1 = true := by decide +kernel
set_option maxRecDepth 65536 in
theorem w_runnable : about1.curStatus? = some .runnable := by decide +kernel
set_option maxRecDepth 65536 in
theorem w_alone : about1.alone = true := by decide +kernel
set_option maxRecDepth 65536 in
theorem w_named : about1.methodNamed? x = some theMethod := by decide +kernel
set_option maxRecDepth 65536 in
theorem w_hears : about1.hears theMethod below0 = true := by decide +kernel
set_option maxRecDepth 65536 in
theorem w_ripe : about1.ripe theMethod args0 below0 = true := by decide +kernel
theorem w_running : about1.status = .running := rfl
set_option maxRecDepth 65536 in
theorem w_room : about1.hasRoom e0.platform room_1 = true :=
  launch0.hasRoom_least _ room_1 (by decide +kernel) (by decide +kernel) (by decide +kernel) (by decide +kernel) (by decide +kernel) (by decide +kernel)
theorem allAtoms_all (ts : List Jvm.Cond) (a : Array Jvm.Value) (st : Jvm.State) : (allAtoms ts).before a st = ts.all (fun c => c.before a st) := by
  induction ts with
  | nil => rfl
  | cons c t ih =>
    show (Jvm.Cond.and c (allAtoms t)).before a st = _
    rw [Jvm.Cond.before_and, ih, List.all_cons]
def words1 : List Jvm.Cond := Jvm.Cond.code x code maxLocals ret :: tables_1
/-- a 'code' word, met by the world's own term for the bytes: nothing is compared byte by byte -/
theorem code_word {y : MethodName} {bytes : ByteArray} {mx : Nat} {rt : Option FieldType} {a : Array Value} {s : State} {m : MethodId} {meth : Method} {c : Code} (h1 : s.methodNamed? y = some m) (h2 : s.vm.method? m = some meth) (h3 : meth.code = some c) (h4 : c.code = bytes)
    (h5 : (c.maxLocals == mx && c.exceptionTable.isEmpty && decide (c.maxStack ≤ mostOperands) && decide (meth.sig.returnType = rt) && !meth.locks && decide (parseMethodDescriptor y.desc = some meth.sig)) = true) : (Jvm.Cond.code y bytes mx rt).before a s = true := by
  simp only [Bool.and_eq_true, beq_iff_eq, Bool.not_eq_true', decide_eq_true_eq] at h5
  obtain ⟨⟨⟨⟨⟨g1, g2⟩, g3⟩, g4⟩, g5⟩, g6⟩ := h5
  simp [Cond.before, Cond.holds, Cond.value, h1, h2, h3, h4, g1, g2, g3, g4, g5, g6]
def isCode : Jvm.Cond → Bool
  | .code _ _ _ _ => true
  | _ => false
theorem all_split {L : List Jvm.Cond} {P : Jvm.Cond → Bool} (h1 : L.all (fun c => isCode c || P c) = true) (h2 : ∀ c ∈ L.filter isCode, P c = true) : L.all P = true := by
  refine List.all_eq_true.mpr fun c hc => ?_
  have h := List.all_eq_true.mp h1 c hc
  rcases Bool.eq_false_or_eq_true (isCode c) with hi | hi
  · exact h2 c (List.mem_filter.mpr ⟨hc, hi⟩)
  · simpa [hi] using h
set_option maxRecDepth 65536 in
theorem w_c0 : (Jvm.Cond.code x code maxLocals ret).before args0 about1 = true := code_word (m := ⟨1, 3⟩) (meth := k1m3) (c := k1c3) (by decide +kernel) rfl rfl rfl (by decide +kernel)
set_option maxRecDepth 65536 in
theorem w_c1 : (Jvm.Cond.code ({ cls := "com/example/ianus/ianus/TokenIsPinLaw", name := "str", desc := "(ICCC)Ljava/lang/String;" } : Jvm.MethodName) method_2_code (5 : Nat) (Option.some (Jvm.ClassFile.FieldType.object "java/lang/String"))).before args0 about1 = true := code_word (m := ⟨1, 1⟩) (meth := k1m1) (c := k1c1) (by decide +kernel) rfl rfl rfl (by decide +kernel)
set_option maxRecDepth 65536 in
theorem w_c2 : (Jvm.Cond.code ({ cls := "java/lang/String", name := "<init>", desc := "([C)V" } : Jvm.MethodName) jdk_42_method_3_code (2 : Nat) (Option.none : Option Jvm.ClassFile.FieldType)).before args0 about1 = true := code_word (m := ⟨7, 1⟩) (meth := k7m1) (c := k7c1) (by decide +kernel) rfl rfl rfl (by decide +kernel)
set_option maxRecDepth 65536 in
theorem w_c3 : (Jvm.Cond.code ({ cls := "java/lang/String", name := "<init>", desc := "([CIILjava/lang/Void;)V" } : Jvm.MethodName) jdk_42_method_149_code (6 : Nat) (Option.none : Option Jvm.ClassFile.FieldType)).before args0 about1 = true := code_word (m := ⟨7, 3⟩) (meth := k7m3) (c := k7c3) (by decide +kernel) rfl rfl rfl (by decide +kernel)
set_option maxRecDepth 65536 in
theorem w_c4 : (Jvm.Cond.code ({ cls := "java/lang/Object", name := "<init>", desc := "()V" } : Jvm.MethodName) object_method_1_code (1 : Nat) (Option.none : Option Jvm.ClassFile.FieldType)).before args0 about1 = true := code_word (m := ⟨0, 0⟩) (meth := k0m0) (c := k0c0) (by decide +kernel) rfl rfl rfl (by decide +kernel)
set_option maxRecDepth 65536 in
theorem w_c5 : (Jvm.Cond.code ({ cls := "com/example/ianus/ianus/TokenIsPinLaw", name := "kindOf", desc := "(I)Lcom/example/ianus/ianus/Token$Kind;" } : Jvm.MethodName) method_3_code (1 : Nat) (Option.some (Jvm.ClassFile.FieldType.object "com/example/ianus/ianus/Token$Kind"))).before args0 about1 = true := code_word (m := ⟨1, 2⟩) (meth := k1m2) (c := k1c2) (by decide +kernel) rfl rfl rfl (by decide +kernel)
set_option maxRecDepth 65536 in
theorem w_c6 : (Jvm.Cond.code ({ cls := "com/example/ianus/ianus/Token", name := "<init>", desc := "(Lcom/example/ianus/ianus/Token$Kind;Ljava/lang/String;Ljava/lang/String;II)V" } : Jvm.MethodName) prog_18_method_1_code (6 : Nat) (Option.none : Option Jvm.ClassFile.FieldType)).before args0 about1 = true := code_word (m := ⟨8, 0⟩) (meth := k8m0) (c := k8c0) (by decide +kernel) rfl rfl rfl (by decide +kernel)
set_option maxRecDepth 65536 in
theorem w_c7 : (Jvm.Cond.code ({ cls := "com/example/ianus/ianus/Token", name := "is", desc := "(Ljava/lang/String;)Z" } : Jvm.MethodName) prog_18_method_7_code (2 : Nat) (Option.some Jvm.ClassFile.FieldType.boolean)).before args0 about1 = true := code_word (m := ⟨8, 1⟩) (meth := k8m1) (c := k8c1) (by decide +kernel) rfl rfl rfl (by decide +kernel)
set_option maxRecDepth 65536 in
theorem w_c8 : (Jvm.Cond.code ({ cls := "java/lang/String", name := "equals", desc := "(Ljava/lang/Object;)Z" } : Jvm.MethodName) jdk_42_method_66_code (3 : Nat) (Option.some Jvm.ClassFile.FieldType.boolean)).before args0 about1 = true := code_word (m := ⟨7, 2⟩) (meth := k7m2) (c := k7c2) (by decide +kernel) rfl rfl rfl (by decide +kernel)
set_option maxRecDepth 65536 in
theorem w_c9 : (Jvm.Cond.code ({ cls := "java/lang/StringUTF16", name := "compress", desc := "([CII)[B" } : Jvm.MethodName) jdk_52_method_16_code (6 : Nat) (Option.some (Jvm.ClassFile.FieldType.array Jvm.ClassFile.FieldType.byte))).before args0 about1 = true := code_word (m := ⟨11, 2⟩) (meth := k11m2) (c := k11c2) (by decide +kernel) rfl rfl rfl (by decide +kernel)
set_option maxRecDepth 65536 in
theorem w_c10 : (Jvm.Cond.code ({ cls := "java/lang/StringUTF16", name := "compress", desc := "([CI[BII)I" } : Jvm.MethodName) jdk_52_method_21_code (7 : Nat) (Option.some Jvm.ClassFile.FieldType.int)).before args0 about1 = true := code_word (m := ⟨11, 3⟩) (meth := k11m3) (c := k11c3) (by decide +kernel) rfl rfl rfl (by decide +kernel)
set_option maxRecDepth 65536 in
theorem w_c11 : (Jvm.Cond.code ({ cls := "java/lang/StringUTF16", name := "coderFromArrayLen", desc := "([BI)B" } : Jvm.MethodName) jdk_52_method_15_code (2 : Nat) (Option.some Jvm.ClassFile.FieldType.byte)).before args0 about1 = true := code_word (m := ⟨11, 1⟩) (meth := k11m1) (c := k11c1) (by decide +kernel) rfl rfl rfl (by decide +kernel)
set_option maxRecDepth 65536 in
theorem w_c12 : (Jvm.Cond.code ({ cls := "java/lang/StringLatin1", name := "equals", desc := "([B[B)Z" } : Jvm.MethodName) jdk_43_method_13_code (3 : Nat) (Option.some Jvm.ClassFile.FieldType.boolean)).before args0 about1 = true := code_word (m := ⟨12, 1⟩) (meth := k12m1) (c := k12c1) (by decide +kernel) rfl rfl rfl (by decide +kernel)
def codes1 : List Jvm.Cond := [Jvm.Cond.code x code maxLocals ret, Jvm.Cond.code ({ cls := "com/example/ianus/ianus/TokenIsPinLaw", name := "str", desc := "(ICCC)Ljava/lang/String;" } : Jvm.MethodName) method_2_code (5 : Nat) (Option.some (Jvm.ClassFile.FieldType.object "java/lang/String")), Jvm.Cond.code ({ cls := "java/lang/String", name := "<init>", desc := "([C)V" } : Jvm.MethodName) jdk_42_method_3_code (2 : Nat) (Option.none : Option Jvm.ClassFile.FieldType), Jvm.Cond.code ({ cls := "java/lang/String", name := "<init>", desc := "([CIILjava/lang/Void;)V" } : Jvm.MethodName) jdk_42_method_149_code (6 : Nat) (Option.none : Option Jvm.ClassFile.FieldType), Jvm.Cond.code ({ cls := "java/lang/Object", name := "<init>", desc := "()V" } : Jvm.MethodName) object_method_1_code (1 : Nat) (Option.none : Option Jvm.ClassFile.FieldType), Jvm.Cond.code ({ cls := "com/example/ianus/ianus/TokenIsPinLaw", name := "kindOf", desc := "(I)Lcom/example/ianus/ianus/Token$Kind;" } : Jvm.MethodName) method_3_code (1 : Nat) (Option.some (Jvm.ClassFile.FieldType.object "com/example/ianus/ianus/Token$Kind")), Jvm.Cond.code ({ cls := "com/example/ianus/ianus/Token", name := "<init>", desc := "(Lcom/example/ianus/ianus/Token$Kind;Ljava/lang/String;Ljava/lang/String;II)V" } : Jvm.MethodName) prog_18_method_1_code (6 : Nat) (Option.none : Option Jvm.ClassFile.FieldType), Jvm.Cond.code ({ cls := "com/example/ianus/ianus/Token", name := "is", desc := "(Ljava/lang/String;)Z" } : Jvm.MethodName) prog_18_method_7_code (2 : Nat) (Option.some Jvm.ClassFile.FieldType.boolean), Jvm.Cond.code ({ cls := "java/lang/String", name := "equals", desc := "(Ljava/lang/Object;)Z" } : Jvm.MethodName) jdk_42_method_66_code (3 : Nat) (Option.some Jvm.ClassFile.FieldType.boolean), Jvm.Cond.code ({ cls := "java/lang/StringUTF16", name := "compress", desc := "([CII)[B" } : Jvm.MethodName) jdk_52_method_16_code (6 : Nat) (Option.some (Jvm.ClassFile.FieldType.array Jvm.ClassFile.FieldType.byte)), Jvm.Cond.code ({ cls := "java/lang/StringUTF16", name := "compress", desc := "([CI[BII)I" } : Jvm.MethodName) jdk_52_method_21_code (7 : Nat) (Option.some Jvm.ClassFile.FieldType.int), Jvm.Cond.code ({ cls := "java/lang/StringUTF16", name := "coderFromArrayLen", desc := "([BI)B" } : Jvm.MethodName) jdk_52_method_15_code (2 : Nat) (Option.some Jvm.ClassFile.FieldType.byte), Jvm.Cond.code ({ cls := "java/lang/StringLatin1", name := "equals", desc := "([B[B)Z" } : Jvm.MethodName) jdk_43_method_13_code (3 : Nat) (Option.some Jvm.ClassFile.FieldType.boolean)]
set_option maxRecDepth 65536 in
theorem codes_eq : words1.filter isCode = codes1 := rfl
theorem w_codes : ∀ c ∈ words1.filter isCode, c.before args0 about1 = true := by
  rw [codes_eq]
  intro c hc
  simp only [codes1, List.mem_cons, List.not_mem_nil, or_false] at hc
  rcases hc with rfl | rfl | rfl | rfl | rfl | rfl | rfl | rfl | rfl | rfl | rfl | rfl | rfl
  · exact w_c0
  · exact w_c1
  · exact w_c2
  · exact w_c3
  · exact w_c4
  · exact w_c5
  · exact w_c6
  · exact w_c7
  · exact w_c8
  · exact w_c9
  · exact w_c10
  · exact w_c11
  · exact w_c12
set_option maxRecDepth 65536 in
theorem w_t1 : (words1.take 24).all (fun c => isCode c || c.before args0 about1) = true := by decide +kernel
set_option maxRecDepth 65536 in
theorem w_t2 : ((words1.drop 24).take 24).all (fun c => isCode c || c.before args0 about1) = true := by decide +kernel
set_option maxRecDepth 65536 in
theorem w_t3 : (((words1.drop 24).drop 24).take 24).all (fun c => isCode c || c.before args0 about1) = true := by decide +kernel
set_option maxRecDepth 65536 in
theorem w_t4 : (((words1.drop 24).drop 24).drop 24).all (fun c => isCode c || c.before args0 about1) = true := by decide +kernel
theorem w_tables : (allAtoms (Jvm.Cond.code x code maxLocals ret :: tables_1)).before args0 about1 = true := by
  rw [allAtoms_all]
  show words1.all (fun c => c.before args0 about1) = true
  refine all_split ?_ w_codes
  rw [← List.take_append_drop 24 words1, List.all_append, w_t1, ← List.take_append_drop 24 (words1.drop 24), List.all_append, w_t2, ← List.take_append_drop 24 ((words1.drop 24).drop 24), List.all_append, w_t3, w_t4]
  rfl
set_option maxRecDepth 65536 in
theorem w_rest : rest_1_c.before args0 about1 = true := by decide +kernel
set_option maxRecDepth 65536 in
theorem w_case : (Jvm.Cond.and given_1 narrow_1).before args0 about1 = true := by decide +kernel
set_option maxRecDepth 65536 in
theorem w_consts : constsHeld consts_1 about1 := Jvm.Lit.constsHeldB_iff.mp (by decide +kernel)
theorem w_applies : (headSpec (Jvm.Cond.code x code maxLocals ret :: tables_1) room_1).applies x e0.platform about1 = true :=
  (Spec.applies_iff w_frames).mpr ⟨w_running, w_runnable, w_alone, w_named, w_hears, w_ripe, w_room, w_tables⟩
theorem atStart : AtStart classFile x code maxLocals ret World_1 tables_1 room_1 Calls_1 rest_1 Pre_1 launch0 p0 e0 about1 theMethod args0 below0 :=
  ⟨lists_1, trivial, launch0.admits_env _ _ _, launch0.least_env, fairChoices_fair.cas, fairChoices_fair.clock, w_frames, w_args, w_heap, w_applies, ⟨w_consts, trivial⟩, w_rest, w_case⟩
end start1
theorem witness_1 : WitnessClaimed_1 := ⟨start1.p0, start1.e0, start1.about1, start1.theMethod, start1.args0, start1.below0, start1.atStart⟩
end Jvm.Pilot.@@N@@
