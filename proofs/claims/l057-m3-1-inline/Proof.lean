import JvmDerived
import JvmDerived.Pilot.@@N@@Statement
import JvmDerived.Pilot.@@N@@Code
set_option linter.unusedVariables false
set_option linter.unusedSimpArgs false
/- laws to paste: Road.backV, Road.eqW, Road.codOf (cut by pick.py; bodies as the Statement names them) -/
namespace Jvm.Pilot.@@N@@
namespace StrChars
open Jvm Sem ClassFile Op Lib Jvm.Stand Jvm.Free.XT Jvm.Free.ALB Jvm.Free.JM Jvm.Free
open Jvm.Lib.Cold (StaticIs)
/-- a char array whose places are chars -/
def Ch (a : Addr) (A : Cell) (U : State) : Prop := Arr .char a A U ∧ Typed .char A
theorem Ch.mv {a : Addr} {A : Cell} {U U' : State} (h : Ch a A U) (hal : U.vm.Alike U'.vm) (hh : U'.heap = U.heap) : Ch a A U' := ⟨h.1.mv hal hh, h.2⟩
theorem Ch.keep {a : Addr} {A : Cell} {U U' : State} (h : Ch a A U) (hal : U.vm.Alike U'.vm) (hk : U'.heap[a]? = some A) : Ch a A U' := ⟨h.1.keep hal hk, h.2⟩
/-- what place i of a char[]'s cell holds -/
def cv (A : Cell) (i : Nat) : Int32 := match A.slots[i]? with | some (.int x) => x | _ => 0
theorem Ch.get {a : Addr} {A : Cell} {U : State} (h : Ch a A U) {i : Nat} (hi : i < A.slots.size) : A.slots[i]? = some (.int (cv A i)) := by
  have e := Array.getElem?_eq_getElem hi
  have f := h.2 i _ e
  unfold cv; rw [e]
  generalize A.slots[i] = v at f
  cases v <;> simp [fits] at f ⊢
/-- the byte that i2b leaves of a char -/
def lo8 (x : Int32) : Int32 := x.toInt8.toInt32
theorem fits_lo8 (y : Int32) : fits .byte (.int (lo8 y)) = true := by
  have h1 := y.toInt8.le_toInt
  have h2 := y.toInt8.toInt_lt
  simp only [lo8, fits, Bool.and_eq_true, decide_eq_true_eq, Int32.le_iff_toInt_le, Int8.toInt_toInt32, show (-128 : Int32).toInt = -128 from by decide, show (127 : Int32).toInt = 127 from by decide]
  omega
/-- A' is A but that each place j of lo .. hi - 1 holds f j -/
def Laid (A A' : Cell) (lo hi : Nat) (f : Nat → Value) : Prop := A'.cls = A.cls ∧ A'.vm = A.vm ∧ A'.slots.size = A.slots.size ∧ ∀ i, A'.slots[i]? = if lo ≤ i ∧ i < hi then some (f i) else A.slots[i]?
theorem Laid.zero (A : Cell) (lo : Nat) (f : Nat → Value) : Laid A A lo (lo + 0) f := ⟨rfl, rfl, rfl, fun i => by rw [if_neg (by omega)]⟩
theorem Laid.step {A Ak : Cell} {lo k : Nat} {f : Nat → Value} {v : Value} (h : Laid A Ak lo k f) (hlo : lo ≤ k) (hk : k < Ak.slots.size) (hv : v = f k) : Laid A (Ak.setSlot k v) lo (k + 1) f := by
  refine ⟨h.1, h.2.1, by simpa [Cell.setSlot] using h.2.2.1, fun i => ?_⟩
  by_cases e : k = i
  · subst e; rw [Cell.slots_setSlot_self v hk, if_pos (by omega), hv]
  · rw [Cell.slots_setSlot_ne v e, h.2.2.2 i]
    by_cases q : lo ≤ i ∧ i < k
    · rw [if_pos q, if_pos (by omega)]
    · rw [if_neg q, if_neg (by omega)]
def U16 : String := "java/lang/StringUTF16"
namespace Cmp5
def yN : MethodName := ⟨"java/lang/StringUTF16", "compress", "([CI[BII)I"⟩
abbrev yB : ByteArray := jdk_52_method_21_code
theorem d0 : decode yB 0 = .ok (.iconst 0, 1) := by decide +kernel
theorem d1 : decode yB 1 = .ok (.istore 5, 2) := by decide +kernel
theorem d3 : decode yB 3 = .ok (.iload 5, 2) := by decide +kernel
theorem d5 : decode yB 5 = .ok (.iload 4, 2) := by decide +kernel
theorem d7 : decode yB 7 = .ok (.if_icmp (.ge) 37, 3) := by decide +kernel
theorem d10 : decode yB 10 = .ok (.aload_n 0, 1) := by decide +kernel
theorem d11 : decode yB 11 = .ok (.iload_n 1, 1) := by decide +kernel
theorem d12 : decode yB 12 = .ok (.caload, 1) := by decide +kernel
theorem d13 : decode yB 13 = .ok (.istore 6, 2) := by decide +kernel
theorem d15 : decode yB 15 = .ok (.iload 6, 2) := by decide +kernel
theorem d17 : decode yB 17 = .ok (.sipush 255, 3) := by decide +kernel
theorem d20 : decode yB 20 = .ok (.if_icmp (.le) 6, 3) := by decide +kernel
theorem d26 : decode yB 26 = .ok (.aload_n 2, 1) := by decide +kernel
theorem d27 : decode yB 27 = .ok (.iload_n 3, 1) := by decide +kernel
theorem d28 : decode yB 28 = .ok (.iload 6, 2) := by decide +kernel
theorem d30 : decode yB 30 = .ok (.i2b, 1) := by decide +kernel
theorem d31 : decode yB 31 = .ok (.bastore, 1) := by decide +kernel
theorem d32 : decode yB 32 = .ok (.iinc 1 1, 3) := by decide +kernel
theorem d35 : decode yB 35 = .ok (.iinc 3 1, 3) := by decide +kernel
theorem d38 : decode yB 38 = .ok (.iinc 5 1, 3) := by decide +kernel
theorem d41 : decode yB 41 = .ok (.goto (-38), 3) := by decide +kernel
theorem d44 : decode yB 44 = .ok (.iload 4, 2) := by decide +kernel
theorem d46 : decode yB 46 = .ok (.ireturn, 1) := by decide +kernel
def site : List Cond := []
def tab : Cond := tabOf yN yB 7 (some .int) site
def P (b : Addr) (A : Cell) (d : Addr) (B : Cell) (o q len : Nat) (args : Array Value) (s : State) : Prop := args = #[.ref b, .int (Int32.ofNat o), .ref d, .int (Int32.ofNat q), .int (Int32.ofNat len)] ∧ Ch b A s ∧ Arr .byte d B s ∧ b ≠ d ∧ o + len ≤ A.slots.size ∧ q + len ≤ B.slots.size ∧ ∀ i, i < len → ¬ 255 < cv A (o + i)
def E (b : Addr) (A : Cell) (d : Addr) (B : Cell) (o q len : Nat) (r : Option Value) (s u : State) : Prop := r = some (.int (Int32.ofNat len)) ∧ ∃ B', Put d B' s u ∧ Laid B B' q (q + len) (fun j => Value.int (lo8 (cv A (o + (j - q)))))
/-- no char of the range above 255: len; the places written hold each char's low byte -/
theorem law (l : Launch) (b : Addr) (A : Cell) (d : Addr) (B : Cell) (o q len : Nat) : Law l yN 5 5 0 0 yB 7 (some .int) site (P b A d B o q len) (E b A d B o q len) (copyLocs d q len) 0 0 := by
  refine Law.of_walk (plainFor_of_name (by decide +kernel)) (by decide +kernel) (by decide +kernel) (by decide) (fun _ _ h => by rw [h.1]; rfl) (fun _ U U' hal hh h => ⟨h.1, h.2.1.mv hal hh, h.2.2.1.mv hal hh, h.2.2.2⟩) (fun r U U' V V' h1 hal h2 h => ⟨h.1, h.2.elim fun B' q => ⟨B', q.1.mv h1 h2, q.2⟩⟩) ?_
  intro p e s m args below meth c s₁ X0 hexec hbytes hml hret hlk hnm hown hh0 W hP
  obtain ⟨rfl, hA, hB, hne, l1, l2, hp⟩ := hP
  have c1 : Steps p.tables e below (s₁.setTop (entryFrame m #[.ref b, .int (Int32.ofNat o), .ref d, .int (Int32.ofNat q), .int (Int32.ofNat len)] 7)) (s₁.setTop (mkF m 0 #[.val (.ref b), .val (.int (Int32.ofNat o)), .val (.ref d), .val (.int (Int32.ofNat q)), .val (.int (Int32.ofNat len)), .unset, .unset] [])) := entry rfl
  have hA0 := hA.1.mv X0.warmed.alike hh0
  have hB0 := hB.mv X0.warmed.alike hh0
  have a31 := hA.1.2.2.2
  have c2 : Steps p.tables e below (s₁.setTop (entryFrame m #[.ref b, .int (Int32.ofNat o), .ref d, .int (Int32.ofNat q), .int (Int32.ofNat len)] 7)) (s₁.setTop (mkF m 3 #[.val (.ref b), .val (.int (Int32.ofNat o)), .val (.ref d), .val (.int (Int32.ofNat q)), .val (.int (Int32.ofNat len)), .val (.int 0), .unset] [])) := c1.trans (by
    refine iconstV X0.here hexec rfl 0 (hb hbytes d0) (by decide) ?_
    refine XS.istore X0.here hexec rfl (hb hbytes d1) rfl rfl ?_
    exact Steps.refl _)
  have loop : ∀ (r i : Nat), i + r = len → ∀ (z : Slot), (z = .unset ∨ ∃ w, z = .val w ∧ w.category = 1) → ∀ (Tl : State) (Bk : Cell), Stand p l e { frames := 0, locals := 0, cells := 0, slots := 0 } s m #[.ref b, .int (Int32.ofNat o), .ref d, .int (Int32.ofNat q), .int (Int32.ofNat len)] below meth c Tl ([] ++ copyLocs d q i) 0 0 → Put d Bk s₁ Tl → Laid B Bk q (q + i) (fun j => Value.int (lo8 (cv A (o + (j - q))))) →
      Steps p.tables e below (s₁.setTop (entryFrame m #[.ref b, .int (Int32.ofNat o), .ref d, .int (Int32.ofNat q), .int (Int32.ofNat len)] 7)) (Tl.setTop (mkF m 3 #[.val (.ref b), .val (.int (Int32.ofNat (o + i))), .val (.ref d), .val (.int (Int32.ofNat (q + i))), .val (.int (Int32.ofNat len)), .val (.int (Int32.ofNat i)), z] [])) → ∃ (T' : State) (B' : Cell) (z' : Slot), Stand p l e { frames := 0, locals := 0, cells := 0, slots := 0 } s m #[.ref b, .int (Int32.ofNat o), .ref d, .int (Int32.ofNat q), .int (Int32.ofNat len)] below meth c T' ([] ++ copyLocs d q len) 0 0 ∧ Put d B' s₁ T' ∧ Laid B B' q (q + len) (fun j => Value.int (lo8 (cv A (o + (j - q))))) ∧
      Steps p.tables e below (s₁.setTop (entryFrame m #[.ref b, .int (Int32.ofNat o), .ref d, .int (Int32.ofNat q), .int (Int32.ofNat len)] 7)) (T'.setTop (mkF m 3 #[.val (.ref b), .val (.int (Int32.ofNat (o + len))), .val (.ref d), .val (.int (Int32.ofNat (q + len))), .val (.int (Int32.ofNat len)), .val (.int (Int32.ofNat len)), z'] [])) := by
    intro r
    induction r with
    | zero =>
      intro i hi z hz Tl Bk Xl pl fl cl
      have hil : i = len := by omega
      rw [hil] at Xl fl cl
      exact ⟨Tl, Bk, z, Xl, pl, fl, cl⟩
    | succ r ih =>
      intro i hi z hz Tl Bk Xl pl fl cl
      have all := X0.warmed.alike.symm.trans Xl.warmed.alike
      have hAl := hA0.keep all (pl.other hne hA0.1)
      have hBk := hB0.like all pl.1 fl.1 fl.2.1 fl.2.2.1
      have hlt : q + i < Bk.slots.size := by rw [fl.2.2.1]; omega
      have c3 : Steps p.tables e below (s₁.setTop (entryFrame m #[.ref b, .int (Int32.ofNat o), .ref d, .int (Int32.ofNat q), .int (Int32.ofNat len)] 7)) (Tl.setTop (mkF m 12 #[.val (.ref b), .val (.int (Int32.ofNat (o + i))), .val (.ref d), .val (.int (Int32.ofNat (q + i))), .val (.int (Int32.ofNat len)), .val (.int (Int32.ofNat i)), z] [.int (Int32.ofNat (o + i)), .ref b])) := cl.trans (by
        refine XS.iload Xl.here hexec rfl (hb hbytes d3) rfl ?_
        refine XS.iload Xl.here hexec rfl (hb hbytes d5) rfl ?_
        refine XS.icmpNo Xl.here hexec rfl (hb hbytes d7) rfl (ii_ge_f (lt32 (by omega) (by omega))) ?_
        refine XS.aloadN Xl.here hexec rfl (hb hbytes d10) rfl rfl ?_
        refine XS.iloadN Xl.here hexec rfl (hb hbytes d11) rfl ?_
        exact Steps.refl _)
      have c4 : Steps p.tables e below (s₁.setTop (entryFrame m #[.ref b, .int (Int32.ofNat o), .ref d, .int (Int32.ofNat q), .int (Int32.ofNat len)] 7)) (Tl.setTop (mkF m 13 #[.val (.ref b), .val (.int (Int32.ofNat (o + i))), .val (.ref d), .val (.int (Int32.ofNat (q + i))), .val (.int (Int32.ofNat len)), .val (.int (Int32.ofNat i)), z] [.int (cv A (o + i))])) := c3.trans (by
        refine Xl.aget hexec hAl rfl (hA.get (i := o + i) (by omega)) rfl rfl (hb hbytes d12) ?_
        exact Steps.refl _)
      have c5 : Steps p.tables e below (s₁.setTop (entryFrame m #[.ref b, .int (Int32.ofNat o), .ref d, .int (Int32.ofNat q), .int (Int32.ofNat len)] 7)) (Tl.setTop (mkF m 15 #[.val (.ref b), .val (.int (Int32.ofNat (o + i))), .val (.ref d), .val (.int (Int32.ofNat (q + i))), .val (.int (Int32.ofNat len)), .val (.int (Int32.ofNat i)), .val (.int (cv A (o + i)))] [])) := c4.trans (by
        refine XS.istoreS Xl.here hexec rfl (hb hbytes d13) rfl rfl hz ?_
        exact Steps.refl _)
      have c6 : Steps p.tables e below (s₁.setTop (entryFrame m #[.ref b, .int (Int32.ofNat o), .ref d, .int (Int32.ofNat q), .int (Int32.ofNat len)] 7)) (Tl.setTop (mkF m 31 #[.val (.ref b), .val (.int (Int32.ofNat (o + i))), .val (.ref d), .val (.int (Int32.ofNat (q + i))), .val (.int (Int32.ofNat len)), .val (.int (Int32.ofNat i)), .val (.int (cv A (o + i)))] [.int (lo8 (cv A (o + i))), .int (Int32.ofNat (q + i)), .ref d])) := c5.trans (by
        refine XS.iload Xl.here hexec rfl (hb hbytes d15) rfl ?_
        refine sipushV Xl.here hexec rfl 255 (hb hbytes d17) (by decide) ?_
        refine XS.icmpYes Xl.here hexec rfl (pc0 := 20) rfl (hb hbytes d20) rfl (ii_le_t (hp i (by omega))) (by decide) rfl ?_
        refine XS.aloadN Xl.here hexec rfl (hb hbytes d26) rfl rfl ?_
        refine XS.iloadN Xl.here hexec rfl (hb hbytes d27) rfl ?_
        refine XS.iload Xl.here hexec rfl (hb hbytes d28) rfl ?_
        refine i2b Xl.here hexec rfl (hb hbytes d30) rfl ?_
        exact Steps.refl _)
      obtain ⟨T7, X7, p7, st7⟩ := Xl.aput hexec hBk rfl hlt rfl (fits_lo8 (cv A (o + i))) (g := (mkF m 31 #[.val (.ref b), .val (.int (Int32.ofNat (o + i))), .val (.ref d), .val (.int (Int32.ofNat (q + i))), .val (.int (Int32.ofNat len)), .val (.int (Int32.ofNat i)), .val (.int (cv A (o + i)))] [.int (lo8 (cv A (o + i))), .int (Int32.ofNat (q + i)), .ref d])) rfl (rest := []) rfl (hb hbytes d31)
      have c8 : Steps p.tables e below (s₁.setTop (entryFrame m #[.ref b, .int (Int32.ofNat o), .ref d, .int (Int32.ofNat q), .int (Int32.ofNat len)] 7)) (T7.setTop (mkF m 32 #[.val (.ref b), .val (.int (Int32.ofNat (o + i))), .val (.ref d), .val (.int (Int32.ofNat (q + i))), .val (.int (Int32.ofNat len)), .val (.int (Int32.ofNat i)), .val (.int (cv A (o + i)))] [])) := c6.trans (st7 _ (Steps.refl _))
      have c9 : Steps p.tables e below (s₁.setTop (entryFrame m #[.ref b, .int (Int32.ofNat o), .ref d, .int (Int32.ofNat q), .int (Int32.ofNat len)] 7)) (T7.setTop (mkF m 3 #[.val (.ref b), .val (.int (Int32.ofNat (o + i) + 1)), .val (.ref d), .val (.int (Int32.ofNat (q + i) + 1)), .val (.int (Int32.ofNat len)), .val (.int (Int32.ofNat i + 1)), .val (.int (cv A (o + i)))] [])) := c8.trans (by
        refine iincV X7.here hexec rfl 1 (hb hbytes d32) (by decide) rfl rfl ?_
        refine iincV X7.here hexec rfl 1 (hb hbytes d35) (by decide) rfl rfl ?_
        refine iincV X7.here hexec rfl 1 (hb hbytes d38) (by decide) rfl rfl ?_
        refine XS.goto X7.here hexec rfl (pc0 := 41) rfl (hb hbytes d41) (by decide) rfl ?_
        exact Steps.refl _)
      have c10 : Steps p.tables e below (s₁.setTop (entryFrame m #[.ref b, .int (Int32.ofNat o), .ref d, .int (Int32.ofNat q), .int (Int32.ofNat len)] 7)) (T7.setTop (mkF m 3 #[.val (.ref b), .val (.int (Int32.ofNat (o + (i + 1)))), .val (.ref d), .val (.int (Int32.ofNat (q + (i + 1)))), .val (.int (Int32.ofNat len)), .val (.int (Int32.ofNat (i + 1))), .val (.int (cv A (o + i)))] [])) := by
        have := c9
        rw [succ32, succ32, succ32] at this
        exact this
      exact ih (i + 1) (by omega) _ (Or.inr ⟨_, rfl, rfl⟩) T7 _ (by rw [copyLocs_step, ← List.append_assoc]; exact X7) (pl.trans p7) (fl.step (by omega) hlt (by simp)) c10
  obtain ⟨T9, B9, z9, X9, p9, f9, g9⟩ := loop len 0 (by omega) .unset (Or.inl rfl) s₁ B (by simpa [copyLocs] using X0) ⟨hB0.1, fun _ _ => rfl, rfl⟩ (Laid.zero _ _ _) c2
  have c11 : Steps p.tables e below (s₁.setTop (entryFrame m #[.ref b, .int (Int32.ofNat o), .ref d, .int (Int32.ofNat q), .int (Int32.ofNat len)] 7)) (T9.setTop (mkF m 46 #[.val (.ref b), .val (.int (Int32.ofNat (o + len))), .val (.ref d), .val (.int (Int32.ofNat (q + len))), .val (.int (Int32.ofNat len)), .val (.int (Int32.ofNat len)), z9] [.int (Int32.ofNat len)])) := g9.trans (by
    refine XS.iload X9.here hexec rfl (hb hbytes d3) rfl ?_
    refine XS.iload X9.here hexec rfl (hb hbytes d5) rfl ?_
    refine XS.icmpYes X9.here hexec rfl (pc0 := 7) rfl (hb hbytes d7) rfl (ii_ge_t (nlt32 (by omega) (Nat.le_refl _))) (by decide) rfl ?_
    refine XS.iload X9.here hexec rfl (hb hbytes d44) rfl ?_
    exact Steps.refl _)
  exact ⟨T9, some (.int (Int32.ofNat len)), _, _, _, X9, by simp, rfl, rfl, (fun h => by cases h), ⟨rfl, B9, p9.from hh0, f9⟩, fun fs hl => c11.trans (X9.ireturnOut hexec hret rfl (Or.inl rfl) (hb hbytes d46) hl)⟩
end Cmp5
namespace Cmp3
def yN : MethodName := ⟨"java/lang/StringUTF16", "compress", "([CII)[B"⟩
abbrev yB : ByteArray := jdk_52_method_16_code
theorem d0 : decode yB 0 = .ok (.iload_n 2, 1) := by decide +kernel
theorem d1 : decode yB 1 = .ok (.newarray .byte, 2) := by decide +kernel
theorem d3 : decode yB 3 = .ok (.astore_n 3, 1) := by decide +kernel
theorem d4 : decode yB 4 = .ok (.aload_n 0, 1) := by decide +kernel
theorem d5 : decode yB 5 = .ok (.iload_n 1, 1) := by decide +kernel
theorem d6 : decode yB 6 = .ok (.aload_n 3, 1) := by decide +kernel
theorem d7 : decode yB 7 = .ok (.iconst 0, 1) := by decide +kernel
theorem d8 : decode yB 8 = .ok (.iload_n 2, 1) := by decide +kernel
theorem d9 : decode yB 9 = .ok (.invokestatic 115, 3) := by decide +kernel
theorem d12 : decode yB 12 = .ok (.istore 4, 2) := by decide +kernel
theorem d14 : decode yB 14 = .ok (.iload 4, 2) := by decide +kernel
theorem d16 : decode yB 16 = .ok (.iload_n 2, 1) := by decide +kernel
theorem d17 : decode yB 17 = .ok (.if_icmp (.eq) 40, 3) := by decide +kernel
theorem d57 : decode yB 57 = .ok (.aload_n 3, 1) := by decide +kernel
theorem d58 : decode yB 58 = .ok (.areturn, 1) := by decide +kernel
def site : List Cond := [.arrayClass .byte, Cmp5.tab] ++ staticW U16 115 Cmp5.yN
def tab : Cond := tabOf yN yB 6 (some (.array .byte)) site
def P (b : Addr) (A : Cell) (o len : Nat) (args : Array Value) (s : State) : Prop := args = #[.ref b, .int (Int32.ofNat o), .int (Int32.ofNat len)] ∧ Ch b A s ∧ o + len ≤ A.slots.size ∧ len ≤ 536870912 ∧ ∀ i, i < len → ¬ 255 < cv A (o + i)
def E (b : Addr) (A : Cell) (o len : Nat) (r : Option Value) (s u : State) : Prop := NewArr .byte "[B" len (fun j => .int (lo8 (cv A (o + j)))) r s u ∧ u.heap.size = s.heap.size + 1
/-- no char of the range above 255: a new byte[] of their low bytes -/
theorem law (l : Launch) (b : Addr) (A : Cell) (o len : Nat) : Law l yN 3 3 1 18 yB 6 (some (.array .byte)) site (P b A o len) (E b A o len) [] 1 len := by
  refine Law.of_walk (plainFor_of_name (by decide +kernel)) (by decide +kernel) (by decide +kernel) (by decide) (fun _ _ h => by rw [h.1]; rfl) (fun _ U U' hal hh h => ⟨h.1, h.2.1.mv hal hh, h.2.2⟩) (fun r U U' V V' h1 hal h2 h => ⟨NewArr.mv r U U' V V' h1 hal h2 h.1, by rw [h1, h2]; exact h.2⟩) ?_
  intro p e s m args below meth c s₁ X0 hexec hbytes hml hret hlk hnm hown hh0 W hP
  obtain ⟨rfl, hA, l1, l2, hp⟩ := hP
  have a31 := hA.1.2.2.2
  have c1 : Steps p.tables e below (s₁.setTop (entryFrame m #[.ref b, .int (Int32.ofNat o), .int (Int32.ofNat len)] 6)) (s₁.setTop (mkF m 0 #[.val (.ref b), .val (.int (Int32.ofNat o)), .val (.int (Int32.ofNat len)), .unset, .unset, .unset] [])) := entry rfl
  have c2 : Steps p.tables e below (s₁.setTop (entryFrame m #[.ref b, .int (Int32.ofNat o), .int (Int32.ofNat len)] 6)) (s₁.setTop (mkF m 1 #[.val (.ref b), .val (.int (Int32.ofNat o)), .val (.int (Int32.ofNat len)), .unset, .unset, .unset] [.int (Int32.ofNat len)])) := c1.trans (by
    refine XS.iloadN X0.here hexec rfl (hb hbytes d0) rfl ?_
    exact Steps.refl _)
  obtain ⟨T3, B3, X3, ba3, bs3, bv3, bh3, bf3, st3⟩ := X0.anew hexec (atype := .byte) (wk W (.arrayClass .byte)) rfl (by show len * 1 ≤ _; omega) (by omega) (g := (mkF m 1 #[.val (.ref b), .val (.int (Int32.ofNat o)), .val (.int (Int32.ofNat len)), .unset, .unset, .unset] [.int (Int32.ofNat len)])) rfl (hb hbytes d1) (rest := []) rfl (Nat.le_refl _) (by show 0 + len ≤ len; omega)
  rw [hh0] at ba3 st3
  have kp3 : XT.Kept s T3 := (XT.Kept.of_eq hh0).push bh3
  have hA3 := hA.keep X3.warmed.alike (kp3 _ _ hA.1.1)
  have hne : b ≠ s.heap.size := hA.1.ne
  have c4 : Steps p.tables e below (s₁.setTop (entryFrame m #[.ref b, .int (Int32.ofNat o), .int (Int32.ofNat len)] 6)) (T3.setTop (mkF m 3 #[.val (.ref b), .val (.int (Int32.ofNat o)), .val (.int (Int32.ofNat len)), .unset, .unset, .unset] [.ref s.heap.size])) := c2.trans (st3 _ (Steps.refl _))
  have c5 : Steps p.tables e below (s₁.setTop (entryFrame m #[.ref b, .int (Int32.ofNat o), .int (Int32.ofNat len)] 6)) (T3.setTop (mkF m 9 #[.val (.ref b), .val (.int (Int32.ofNat o)), .val (.int (Int32.ofNat len)), .val (.ref s.heap.size), .unset, .unset] [.int (Int32.ofNat len), .int 0, .ref s.heap.size, .int (Int32.ofNat o), .ref b])) := c4.trans (by
    refine XS.astoreN X3.here hexec rfl (hb hbytes d3) rfl rfl rfl ?_
    refine XS.aloadN X3.here hexec rfl (hb hbytes d4) rfl rfl ?_
    refine XS.iloadN X3.here hexec rfl (hb hbytes d5) rfl ?_
    refine XS.aloadN X3.here hexec rfl (hb hbytes d6) rfl rfl ?_
    refine iconstV X3.here hexec rfl 0 (hb hbytes d7) (by decide) ?_
    refine XS.iloadN X3.here hexec rfl (hb hbytes d8) rfl ?_
    exact Steps.refl _)
  obtain ⟨v6, T6, X6, E6, g6⟩ := X3.callS hexec (Cmp5.law l b A s.heap.size B3 o 0 len) hown (wks W (staticW U16 115 Cmp5.yN)) (wk W Cmp5.tab) (W := 0) (Nat.le_of_ble_eq_true rfl) (Nat.le_of_ble_eq_true rfl) (Nat.le_refl _) (by show 0 + len + 0 ≤ len; omega) (g := (mkF m 9 #[.val (.ref b), .val (.int (Int32.ofNat o)), .val (.int (Int32.ofNat len)), .val (.ref s.heap.size), .unset, .unset] [.int (Int32.ofNat len), .int (Int32.ofNat 0), .ref s.heap.size, .int (Int32.ofNat o), .ref b])) rfl (by rw [hml]; rfl) c5 (argsL := [.ref b, .int (Int32.ofNat o), .ref s.heap.size, .int (Int32.ofNat 0), .int (Int32.ofNat len)]) (rest := []) rfl rfl (by show 2 * 0 + 0 ≤ _; decide) (hb hbytes d9) (⟨rfl, hA3, ba3, hne, l1, by rw [bs3]; simp, hp⟩)
  obtain ⟨rfl, B6, p6, f6⟩ := E6
  have c7 : Steps p.tables e below (s₁.setTop (entryFrame m #[.ref b, .int (Int32.ofNat o), .int (Int32.ofNat len)] 6)) (T6.setTop (mkF m 12 #[.val (.ref b), .val (.int (Int32.ofNat o)), .val (.int (Int32.ofNat len)), .val (.ref s.heap.size), .unset, .unset] [.int (Int32.ofNat len)])) := g6
  have c8 : Steps p.tables e below (s₁.setTop (entryFrame m #[.ref b, .int (Int32.ofNat o), .int (Int32.ofNat len)] 6)) (T6.setTop (mkF m 58 #[.val (.ref b), .val (.int (Int32.ofNat o)), .val (.int (Int32.ofNat len)), .val (.ref s.heap.size), .val (.int (Int32.ofNat len)), .unset] [.ref s.heap.size])) := c7.trans (by
    refine XS.istore X6.here hexec rfl (hb hbytes d12) rfl rfl ?_
    refine XS.iload X6.here hexec rfl (hb hbytes d14) rfl ?_
    refine XS.iloadN X6.here hexec rfl (hb hbytes d16) rfl ?_
    refine XS.icmpYes X6.here hexec rfl (pc0 := 17) rfl (hb hbytes d17) rfl (ii_eq_t rfl) (by decide) rfl ?_
    refine XS.aloadN X6.here hexec rfl (hb hbytes d57) rfl rfl ?_
    exact Steps.refl _)
  have X8 := X6.wide (L' := []) (cells' := 1) (slots' := len) (fun x hx hlt => by
    simp only [List.nil_append, copyLocs, List.mem_map, List.mem_range] at hx
    obtain ⟨i, -, rfl⟩ := hx
    exact absurd hlt (Nat.lt_irrefl _)) (Nat.le_refl _) (by omega)
  exact ⟨T6, some (.ref s.heap.size), _, _, _, X8, rfl, rfl, rfl, (fun h => by cases h), ⟨⟨rfl, B6, ba3.like (X3.warmed.alike.symm.trans X6.warmed.alike) p6.1 f6.1 f6.2.1 f6.2.2.1, f6.2.1.trans bv3, by rw [X6.warmed.alike.findClass, f6.1]; exact bf3, by rw [f6.2.2.1, bs3]; simp, fun j hj => by rw [f6.2.2.2 j, if_pos (by omega)]; rfl, kp3.put p6 (Nat.le_refl _)⟩, by rw [p6.2.2, bh3, hh0]; simp⟩, fun fs hl => c8.trans (X8.areturnOut hexec rfl hret rfl (hb hbytes d58) hl)⟩
end Cmp3
namespace CodL
def yN : MethodName := ⟨"java/lang/StringUTF16", "coderFromArrayLen", "([BI)B"⟩
abbrev yB : ByteArray := jdk_52_method_15_code
theorem d0 : decode yB 0 = .ok (.iload_n 1, 1) := by decide +kernel
theorem d1 : decode yB 1 = .ok (.aload_n 0, 1) := by decide +kernel
theorem d2 : decode yB 2 = .ok (.arraylength, 1) := by decide +kernel
theorem d3 : decode yB 3 = .ok (.isub, 1) := by decide +kernel
theorem d4 : decode yB 4 = .ok (.bipush 31, 2) := by decide +kernel
theorem d6 : decode yB 6 = .ok (.iushr, 1) := by decide +kernel
theorem d7 : decode yB 7 = .ok (.i2b, 1) := by decide +kernel
theorem d8 : decode yB 8 = .ok (.ireturn, 1) := by decide +kernel
def site : List Cond := []
def tab : Cond := tabOf yN yB 2 (some .byte) site
def P (d : Addr) (B : Cell) (args : Array Value) (s : State) : Prop := args = #[.ref d, .int (Int32.ofNat B.slots.size)] ∧ Arr .byte d B s
def E (r : Option Value) (s u : State) : Prop := XT.PureE (some (.int 0)) r s u
/-- an array as long as the number of chars: LATIN1 -/
theorem law (l : Launch) (d : Addr) (B : Cell) : Law l yN 2 2 0 0 yB 2 (some .byte) site (P d B) E [] 0 0 := by
  refine Law.of_walk (plainFor_of_name (by decide +kernel)) (by decide +kernel) (by decide +kernel) (by decide) (fun _ _ h => by rw [h.1]; rfl) (fun _ U U' hal hh h => ⟨h.1, h.2.mv hal hh⟩) (fun r U U' V V' h1 hal h2 h => XT.PureE.mv r U U' V V' h1 hal h2 h) ?_
  intro p e s m args below meth c s₁ X0 hexec hbytes hml hret hlk hnm hown hh0 W hP
  obtain ⟨rfl, hB⟩ := hP
  have hB0 := hB.mv X0.warmed.alike hh0
  have c1 : Steps p.tables e below (s₁.setTop (entryFrame m #[.ref d, .int (Int32.ofNat B.slots.size)] 2)) (s₁.setTop (mkF m 0 #[.val (.ref d), .val (.int (Int32.ofNat B.slots.size))] [])) := entry rfl
  have c2 : Steps p.tables e below (s₁.setTop (entryFrame m #[.ref d, .int (Int32.ofNat B.slots.size)] 2)) (s₁.setTop (mkF m 2 #[.val (.ref d), .val (.int (Int32.ofNat B.slots.size))] [.ref d, .int (Int32.ofNat B.slots.size)])) := c1.trans (by
    refine XS.iloadN X0.here hexec rfl (hb hbytes d0) rfl ?_
    refine XS.aloadN X0.here hexec rfl (hb hbytes d1) rfl rfl ?_
    exact Steps.refl _)
  have c3 : Steps p.tables e below (s₁.setTop (entryFrame m #[.ref d, .int (Int32.ofNat B.slots.size)] 2)) (s₁.setTop (mkF m 8 #[.val (.ref d), .val (.int (Int32.ofNat B.slots.size))] [.int (lo8 (ushr (Int32.ofNat B.slots.size - Int32.ofNat B.slots.size) 31))])) := c2.trans (by
    refine X0.alen hexec hB0 rfl rfl (hb hbytes d2) ?_
    refine XS.isub X0.here hexec rfl (hb hbytes d3) rfl ?_
    refine bipushV X0.here hexec rfl 31 (hb hbytes d4) (by decide) ?_
    refine iushr X0.here hexec rfl (hb hbytes d6) rfl ?_
    refine i2b X0.here hexec rfl (hb hbytes d7) rfl ?_
    exact Steps.refl _)
  have e0 : lo8 (ushr (Int32.ofNat B.slots.size - Int32.ofNat B.slots.size) 31) = 0 := by rw [Int32.sub_self]; decide
  rw [e0] at c3
  exact ⟨s₁, some (.int 0), _, _, _, X0, rfl, rfl, rfl, (fun h => by cases h), ⟨rfl, hh0⟩, fun fs hl => c3.trans (X0.ireturnOut hexec hret rfl (Or.inr (Or.inr (Or.inl rfl))) (hb hbytes d8) hl)⟩
end CodL
/-- the String at a is Latin-1 over a new byte[] (the heap's one new cell): the low bytes of the len chars of A from o on; every cell but a is kept -/
def Got (a : Addr) (D : Cell) (fV fC : Field) (A : Cell) (o len : Nat) (r : Option Value) (s u : State) : Prop := r = none ∧ ∃ D' V : Cell, Blank "java/lang/String" a D' u ∧ Same D D' [fV.slot, fC.slot] ∧ D'.slots[fV.slot]? = some (.ref s.heap.size) ∧ D'.slots[fC.slot]? = some (.int 0) ∧ Arr .byte s.heap.size V u ∧ V.vm = .none ∧ u.vm.findClass "[B" = some V.cls ∧ V.slots.size = len ∧ (∀ j, j < len → V.slots[j]? = some (.int (lo8 (cv A (o + j))))) ∧ (∀ (y : Addr) (c : Cell), y ≠ a → s.heap[y]? = some c → u.heap[y]? = some c) ∧ u.heap.size = s.heap.size + 1
theorem Got.mv {a : Addr} {D A : Cell} {fV fC : Field} {o len : Nat} : ∀ r (U U' V V' : State), U'.heap = U.heap → V.vm.Alike V'.vm → V'.heap = V.heap → Got a D fV fC A o len r U V → Got a D fV fC A o len r U' V' :=
  fun r U U' V V' h1 hal h2 ⟨e0, D', X, a1, a2, a3, a4, a5, a6, a7, a8, a9, a10, a11⟩ => ⟨e0, D', X, a1.mv hal h2, a2, by rw [h1]; exact a3, a4, by rw [h1]; exact a5.mv hal h2, a6, by rw [hal.findClass]; exact a7, a8, a9, by rw [h1, h2]; exact a10, by rw [h1, h2]; exact a11⟩
namespace New4
def yN : MethodName := ⟨"java/lang/String", "<init>", "([CIILjava/lang/Void;)V"⟩
abbrev yB : ByteArray := jdk_42_method_149_code
theorem d0 : decode yB 0 = .ok (.aload_n 0, 1) := by decide +kernel
theorem d1 : decode yB 1 = .ok (.invokespecial 1, 3) := by decide +kernel
theorem d4 : decode yB 4 = .ok (.iload_n 3, 1) := by decide +kernel
theorem d5 : decode yB 5 = .ok (.ifCond (.ne) 22, 3) := by decide +kernel
theorem d27 : decode yB 27 = .ok (.getstatic 38, 3) := by decide +kernel
theorem d30 : decode yB 30 = .ok (.ifCond (.eq) 28, 3) := by decide +kernel
theorem d33 : decode yB 33 = .ok (.aload_n 1, 1) := by decide +kernel
theorem d34 : decode yB 34 = .ok (.iload_n 2, 1) := by decide +kernel
theorem d35 : decode yB 35 = .ok (.iload_n 3, 1) := by decide +kernel
theorem d36 : decode yB 36 = .ok (.invokestatic 177, 3) := by decide +kernel
theorem d39 : decode yB 39 = .ok (.astore 5, 2) := by decide +kernel
theorem d41 : decode yB 41 = .ok (.aload_n 0, 1) := by decide +kernel
theorem d42 : decode yB 42 = .ok (.aload 5, 2) := by decide +kernel
theorem d44 : decode yB 44 = .ok (.iload_n 3, 1) := by decide +kernel
theorem d45 : decode yB 45 = .ok (.invokestatic 47, 3) := by decide +kernel
theorem d48 : decode yB 48 = .ok (.putfield 15, 3) := by decide +kernel
theorem d51 : decode yB 51 = .ok (.aload_n 0, 1) := by decide +kernel
theorem d52 : decode yB 52 = .ok (.aload 5, 2) := by decide +kernel
theorem d54 : decode yB 54 = .ok (.putfield 9, 3) := by decide +kernel
theorem d57 : decode yB 57 = .ok (.return_, 1) := by decide +kernel
def site : List Cond := [.fieldLink "java/lang/String" 38 "java/lang/String" "COMPACT_STRINGS" "Z", Cmp3.tab, CodL.tab, .laysFinal "java/lang/String" "java/lang/String" "value" "[B", .fieldLink "java/lang/String" 9 "java/lang/String" "value" "[B", .laysFinal "java/lang/String" "java/lang/String" "coder" "B", .fieldLink "java/lang/String" 15 "java/lang/String" "coder" "B"] ++ objW "java/lang/String" 1 ++ staticW "java/lang/String" 177 Cmp3.yN ++ staticW "java/lang/String" 47 CodL.yN
def tab : Cond := tabOf yN yB 6 none site
def P (a : Addr) (D : Cell) (fV fC : Field) (b : Addr) (A : Cell) (z : Int32) (o len : Nat) (args : Array Value) (s : State) : Prop := args = #[.ref a, .ref b, .int (Int32.ofNat o), .int (Int32.ofNat len), .null] ∧ Blank "java/lang/String" a D s ∧ Found "java/lang/String" "value" "[B" fV s ∧ Found "java/lang/String" "coder" "B" fC s ∧ Ch b A s ∧ StaticIs s "java/lang/String" "COMPACT_STRINGS" "Z" (.int z) ∧ ¬ z = 0 ∧ 0 < len ∧ o + len ≤ A.slots.size ∧ len ≤ 536870912 ∧ ∀ i, i < len → ¬ 255 < cv A (o + i)
def E (a : Addr) (D : Cell) (fV fC : Field) (A : Cell) (o len : Nat) (r : Option Value) (s u : State) : Prop := Got a D fV fC A o len r s u
/-- len > 0, no char of the range above 255: a Latin-1 String of their low bytes -/
theorem law (l : Launch) (a : Addr) (D : Cell) (fV fC : Field) (b : Addr) (A : Cell) (z : Int32) (o len : Nat) : Law l yN 5 4 2 35 yB 6 none site (P a D fV fC b A z o len) (E a D fV fC A o len) [⟨a, fC.slot⟩, ⟨a, fV.slot⟩] 1 len := by
  refine Law.of_walk (plainFor_of_name (by decide +kernel)) (by decide +kernel) (by decide +kernel) (by decide) (fun _ _ h => by rw [h.1]; rfl) (fun _ U U' hal hh h => ⟨h.1, h.2.1.mv hal hh, h.2.2.1.al hal, h.2.2.2.1.al hal, h.2.2.2.2.1.mv hal hh, h.2.2.2.2.2.1.there hal hh, h.2.2.2.2.2.2⟩) (fun r U U' V V' h1 hal h2 h => Got.mv r U U' V V' h1 hal h2 h) ?_
  intro p e s m args below meth c s₁ X0 hexec hbytes hml hret hlk hnm hown hh0 W hP
  obtain ⟨rfl, hB, f1, f2, hA, s1, hz, l0, l1, l2, hp⟩ := hP
  have a31 := hA.1.2.2.2
  have c1 : Steps p.tables e below (s₁.setTop (entryFrame m #[.ref a, .ref b, .int (Int32.ofNat o), .int (Int32.ofNat len), .null] 6)) (s₁.setTop (mkF m 0 #[.val (.ref a), .val (.ref b), .val (.int (Int32.ofNat o)), .val (.int (Int32.ofNat len)), .val .null, .unset] [])) := entry rfl
  have c2 : Steps p.tables e below (s₁.setTop (entryFrame m #[.ref a, .ref b, .int (Int32.ofNat o), .int (Int32.ofNat len), .null] 6)) (s₁.setTop (mkF m 1 #[.val (.ref a), .val (.ref b), .val (.int (Int32.ofNat o)), .val (.int (Int32.ofNat len)), .val .null, .unset] [.ref a])) := c1.trans (by
    refine XS.aloadN X0.here hexec rfl (hb hbytes d0) rfl rfl ?_
    exact Steps.refl _)
  obtain ⟨T3, X3, q3, st3⟩ := X0.oinit hexec hown (wks W (objW "java/lang/String" 1)) (g := (mkF m 1 #[.val (.ref a), .val (.ref b), .val (.int (Int32.ofNat o)), .val (.int (Int32.ofNat len)), .val .null, .unset] [.ref a])) rfl (by rw [hml]; rfl) (rest := []) rfl (hb hbytes d1) (W := 0) (by show 2 * 0 + 0 ≤ _; decide) (Nat.le_of_ble_eq_true rfl) (Nat.le_of_ble_eq_true rfl)
  have hh3 := q3.trans hh0
  have c4 : Steps p.tables e below (s₁.setTop (entryFrame m #[.ref a, .ref b, .int (Int32.ofNat o), .int (Int32.ofNat len), .null] 6)) (T3.setTop (mkF m 27 #[.val (.ref a), .val (.ref b), .val (.int (Int32.ofNat o)), .val (.int (Int32.ofNat len)), .val .null, .unset] [])) := (c2.trans (st3 _ (Steps.refl _))).trans (by
    refine XS.iloadN X3.here hexec rfl (hb hbytes d4) rfl ?_
    refine XS.ifYes X3.here hexec rfl (pc0 := 5) rfl (hb hbytes d5) rfl (i0_ne_t (nz32 (by omega) l0)) (by decide) rfl ?_
    exact Steps.refl _)
  obtain ⟨T5, X5, q5, st5⟩ := X3.sget hexec hown (wk W (.fieldLink "java/lang/String" 38 "java/lang/String" "COMPACT_STRINGS" "Z")) s1 (fun _ _ h => by rw [hh3]; exact h) (g := (mkF m 27 #[.val (.ref a), .val (.ref b), .val (.int (Int32.ofNat o)), .val (.int (Int32.ofNat len)), .val .null, .unset] [])) rfl (hb hbytes d27)
  have hh5 := q5.trans hh3
  have c6 : Steps p.tables e below (s₁.setTop (entryFrame m #[.ref a, .ref b, .int (Int32.ofNat o), .int (Int32.ofNat len), .null] 6)) (T5.setTop (mkF m 30 #[.val (.ref a), .val (.ref b), .val (.int (Int32.ofNat o)), .val (.int (Int32.ofNat len)), .val .null, .unset] [.int z])) := c4.trans (st5 _ (Steps.refl _))
  have c7 : Steps p.tables e below (s₁.setTop (entryFrame m #[.ref a, .ref b, .int (Int32.ofNat o), .int (Int32.ofNat len), .null] 6)) (T5.setTop (mkF m 36 #[.val (.ref a), .val (.ref b), .val (.int (Int32.ofNat o)), .val (.int (Int32.ofNat len)), .val .null, .unset] [.int (Int32.ofNat len), .int (Int32.ofNat o), .ref b])) := c6.trans (by
    refine XS.ifNo X5.here hexec rfl (hb hbytes d30) rfl (i0_eq_f hz) ?_
    refine XS.aloadN X5.here hexec rfl (hb hbytes d33) rfl rfl ?_
    refine XS.iloadN X5.here hexec rfl (hb hbytes d34) rfl ?_
    refine XS.iloadN X5.here hexec rfl (hb hbytes d35) rfl ?_
    exact Steps.refl _)
  obtain ⟨v8, T8, X8, E8, g8⟩ := X5.callS hexec (Cmp3.law l b A o len) hown (wks W (staticW "java/lang/String" 177 Cmp3.yN)) (wk W Cmp3.tab) (W := 0) (Nat.le_of_ble_eq_true rfl) (Nat.le_of_ble_eq_true rfl) (Nat.le_refl _) (by show 0 + len ≤ len; omega) (g := (mkF m 36 #[.val (.ref a), .val (.ref b), .val (.int (Int32.ofNat o)), .val (.int (Int32.ofNat len)), .val .null, .unset] [.int (Int32.ofNat len), .int (Int32.ofNat o), .ref b])) rfl (by rw [hml]; rfl) c7 (argsL := [.ref b, .int (Int32.ofNat o), .int (Int32.ofNat len)]) (rest := []) rfl rfl (by show 2 * 0 + 0 ≤ _; decide) (hb hbytes d36) (⟨rfl, hA.mv X5.warmed.alike hh5, l1, l2, hp⟩)
  obtain ⟨e8, z8⟩ := E8
  obtain ⟨rfl, N, n1, n2, n3, n4, n5, n6⟩ := NewArr.mv _ T5 s _ _ hh5.symm (Vm.Alike.refl _) rfl e8
  rw [hh5] at z8
  have hB1 := hB.keep X8.warmed.alike (n6 _ _ hB.1)
  have hne : s.heap.size ≠ a := (Nat.ne_of_lt (Array.getElem?_eq_some_iff.mp hB.1).1).symm
  have c9 : Steps p.tables e below (s₁.setTop (entryFrame m #[.ref a, .ref b, .int (Int32.ofNat o), .int (Int32.ofNat len), .null] 6)) (T8.setTop (mkF m 39 #[.val (.ref a), .val (.ref b), .val (.int (Int32.ofNat o)), .val (.int (Int32.ofNat len)), .val .null, .unset] [.ref s.heap.size])) := g8
  have c10 : Steps p.tables e below (s₁.setTop (entryFrame m #[.ref a, .ref b, .int (Int32.ofNat o), .int (Int32.ofNat len), .null] 6)) (T8.setTop (mkF m 45 #[.val (.ref a), .val (.ref b), .val (.int (Int32.ofNat o)), .val (.int (Int32.ofNat len)), .val .null, .val (.ref s.heap.size)] [.int (Int32.ofNat N.slots.size), .ref s.heap.size, .ref a])) := by
    have hc : Steps p.tables e below (s₁.setTop (entryFrame m #[.ref a, .ref b, .int (Int32.ofNat o), .int (Int32.ofNat len), .null] 6)) (T8.setTop (mkF m 45 #[.val (.ref a), .val (.ref b), .val (.int (Int32.ofNat o)), .val (.int (Int32.ofNat len)), .val .null, .val (.ref s.heap.size)] [.int (Int32.ofNat len), .ref s.heap.size, .ref a])) := c9.trans (by
      refine XS.astore X8.here hexec rfl (hb hbytes d39) rfl rfl rfl ?_
      refine XS.aloadN X8.here hexec rfl (hb hbytes d41) rfl rfl ?_
      refine XS.aload X8.here hexec rfl (hb hbytes d42) rfl rfl ?_
      refine XS.iloadN X8.here hexec rfl (hb hbytes d44) rfl ?_
      exact Steps.refl _)
    rw [n4]; exact hc
  obtain ⟨v11, T11, X11, E11, g11⟩ := X8.callS hexec (CodL.law l s.heap.size N) hown (wks W (staticW "java/lang/String" 47 CodL.yN)) (wk W CodL.tab) (W := 1) (Nat.le_of_ble_eq_true rfl) (Nat.le_of_ble_eq_true rfl) (Nat.le_refl _) (by show 0 + len + 0 ≤ len; omega) (g := (mkF m 45 #[.val (.ref a), .val (.ref b), .val (.int (Int32.ofNat o)), .val (.int (Int32.ofNat len)), .val .null, .val (.ref s.heap.size)] [.int (Int32.ofNat N.slots.size), .ref s.heap.size, .ref a])) rfl (by rw [hml]; rfl) c10 (argsL := [.ref s.heap.size, .int (Int32.ofNat N.slots.size)]) (rest := [.ref a]) rfl rfl (by show 2 * 0 + (1 + 0) ≤ _; decide) (hb hbytes d45) (⟨rfl, n1⟩)
  obtain ⟨rfl, q11⟩ := E11
  have hB11 := hB1.mv (X8.warmed.alike.symm.trans X11.warmed.alike) q11
  have c12 : Steps p.tables e below (s₁.setTop (entryFrame m #[.ref a, .ref b, .int (Int32.ofNat o), .int (Int32.ofNat len), .null] 6)) (T11.setTop (mkF m 48 #[.val (.ref a), .val (.ref b), .val (.int (Int32.ofNat o)), .val (.int (Int32.ofNat len)), .val .null, .val (.ref s.heap.size)] [.int 0, .ref a])) := g11
  obtain ⟨T13, X13, p13, bl13, sl13, st13⟩ := X11.finit hexec hown (wk W (.fieldLink "java/lang/String" 15 "java/lang/String" "coder" "B")) (Or.inr ⟨_, (wk W (.laysFinal "java/lang/String" "java/lang/String" "coder" "B"))⟩) (Or.inl ⟨rfl, hnm⟩) f2 (Or.inl rfl) hB11 (t := .byte) (by decide +kernel) rfl (g := (mkF m 48 #[.val (.ref a), .val (.ref b), .val (.int (Int32.ofNat o)), .val (.int (Int32.ofNat len)), .val .null, .val (.ref s.heap.size)] [.int 0, .ref a])) rfl (rest := []) rfl (hb hbytes d48)
  have c14 : Steps p.tables e below (s₁.setTop (entryFrame m #[.ref a, .ref b, .int (Int32.ofNat o), .int (Int32.ofNat len), .null] 6)) (T13.setTop (mkF m 54 #[.val (.ref a), .val (.ref b), .val (.int (Int32.ofNat o)), .val (.int (Int32.ofNat len)), .val .null, .val (.ref s.heap.size)] [.ref s.heap.size, .ref a])) := (c12.trans (st13 _ (Steps.refl _))).trans (by
    refine XS.aloadN X13.here hexec rfl (hb hbytes d51) rfl rfl ?_
    refine XS.aload X13.here hexec rfl (hb hbytes d52) rfl rfl ?_
    exact Steps.refl _)
  obtain ⟨T15, X15, p15, bl15, sl15, st15⟩ := X13.finit hexec hown (wk W (.fieldLink "java/lang/String" 9 "java/lang/String" "value" "[B")) (Or.inr ⟨_, (wk W (.laysFinal "java/lang/String" "java/lang/String" "value" "[B"))⟩) (Or.inl ⟨rfl, hnm⟩) f1 (Or.inl rfl) bl13 (t := (.array .byte)) (by decide +kernel) rfl (g := (mkF m 54 #[.val (.ref a), .val (.ref b), .val (.int (Int32.ofNat o)), .val (.int (Int32.ofNat len)), .val .null, .val (.ref s.heap.size)] [.ref s.heap.size, .ref a])) rfl (rest := []) rfl (hb hbytes d54)
  have c16 : Steps p.tables e below (s₁.setTop (entryFrame m #[.ref a, .ref b, .int (Int32.ofNat o), .int (Int32.ofNat len), .null] 6)) (T15.setTop (mkF m 57 #[.val (.ref a), .val (.ref b), .val (.int (Int32.ofNat o)), .val (.int (Int32.ofNat len)), .val .null, .val (.ref s.heap.size)] [])) := c14.trans (st15 _ (Steps.refl _))
  have ap := apart (Or.inr ⟨_, (wk W (.laysFinal "java/lang/String" "java/lang/String" "value" "[B"))⟩) (Or.inr ⟨_, (wk W (.laysFinal "java/lang/String" "java/lang/String" "coder" "B"))⟩) f1 f2 (t₁ := .array .byte) (t₂ := .byte) (by decide +kernel) (by decide +kernel) (by decide)
  have al := X8.warmed.alike.symm.trans X15.warmed.alike
  have n7 : T11.heap[s.heap.size]? = some N := by rw [q11]; exact n1.1
  exact ⟨T15, none, _, _, _, X15, by simp, rfl, by omega, (fun _ => rfl), ⟨rfl, _, N, bl15, ((Same.refl D _).set _ (by simp)).set _ (by simp), sl15, (Cell.slots_setSlot_ne _ ap).trans sl13, n1.keep al (p15.other hne (p13.other hne n7)), n2, by rw [al.findClass]; exact n3, n4, n5, fun y c h1 h2 => p15.other h1 (p13.other h1 (by rw [q11]; exact n6 y c h2)), by rw [p15.2.2, p13.2.2, q11]; exact z8⟩, fun fs hl => c16.trans (X15.returnOut hexec hret (hb hbytes d57) hl)⟩
end New4
namespace New1
def yN : MethodName := ⟨"java/lang/String", "<init>", "([C)V"⟩
abbrev yB : ByteArray := jdk_42_method_3_code
theorem d0 : decode yB 0 = .ok (.aload_n 0, 1) := by decide +kernel
theorem d1 : decode yB 1 = .ok (.aload_n 1, 1) := by decide +kernel
theorem d2 : decode yB 2 = .ok (.iconst 0, 1) := by decide +kernel
theorem d3 : decode yB 3 = .ok (.aload_n 1, 1) := by decide +kernel
theorem d4 : decode yB 4 = .ok (.arraylength, 1) := by decide +kernel
theorem d5 : decode yB 5 = .ok (.aconst_null, 1) := by decide +kernel
theorem d6 : decode yB 6 = .ok (.invokespecial 27, 3) := by decide +kernel
theorem d9 : decode yB 9 = .ok (.return_, 1) := by decide +kernel
def site : List Cond := [New4.tab] ++ initW "java/lang/String" 27 New4.yN
def tab : Cond := tabOf yN yB 2 none site
def P (a : Addr) (D : Cell) (fV fC : Field) (b : Addr) (A : Cell) (z : Int32) (args : Array Value) (s : State) : Prop := args = #[.ref a, .ref b] ∧ Blank "java/lang/String" a D s ∧ Found "java/lang/String" "value" "[B" fV s ∧ Found "java/lang/String" "coder" "B" fC s ∧ Ch b A s ∧ StaticIs s "java/lang/String" "COMPACT_STRINGS" "Z" (.int z) ∧ ¬ z = 0 ∧ 0 < A.slots.size ∧ A.slots.size ≤ 536870912 ∧ ∀ i, i < A.slots.size → ¬ 255 < cv A i
def E (a : Addr) (D : Cell) (fV fC : Field) (A : Cell) (r : Option Value) (s u : State) : Prop := Got a D fV fC A 0 A.slots.size r s u
/-- new String(chars), not empty, no char above 255: a Latin-1 String of their low bytes -/
theorem law (l : Launch) (a : Addr) (D : Cell) (fV fC : Field) (b : Addr) (A : Cell) (z : Int32) : Law l yN 2 1 3 52 yB 2 none site (P a D fV fC b A z) (E a D fV fC A) [⟨a, fC.slot⟩, ⟨a, fV.slot⟩] 1 A.slots.size := by
  refine Law.of_walk (plainFor_of_name (by decide +kernel)) (by decide +kernel) (by decide +kernel) (by decide) (fun _ _ h => by rw [h.1]; rfl) (fun _ U U' hal hh h => ⟨h.1, h.2.1.mv hal hh, h.2.2.1.al hal, h.2.2.2.1.al hal, h.2.2.2.2.1.mv hal hh, h.2.2.2.2.2.1.there hal hh, h.2.2.2.2.2.2⟩) (fun r U U' V V' h1 hal h2 h => Got.mv r U U' V V' h1 hal h2 h) ?_
  intro p e s m args below meth c s₁ X0 hexec hbytes hml hret hlk hnm hown hh0 W hP
  obtain ⟨rfl, hB, f1, f2, hA, s1, hz, l0, l2, hp⟩ := hP
  have c1 : Steps p.tables e below (s₁.setTop (entryFrame m #[.ref a, .ref b] 2)) (s₁.setTop (mkF m 0 #[.val (.ref a), .val (.ref b)] [])) := entry rfl
  have c2 : Steps p.tables e below (s₁.setTop (entryFrame m #[.ref a, .ref b] 2)) (s₁.setTop (mkF m 6 #[.val (.ref a), .val (.ref b)] [.null, .int (Int32.ofNat A.slots.size), .int 0, .ref b, .ref a])) := c1.trans (by
    refine XS.aloadN X0.here hexec rfl (hb hbytes d0) rfl rfl ?_
    refine XS.aloadN X0.here hexec rfl (hb hbytes d1) rfl rfl ?_
    refine iconstV X0.here hexec rfl 0 (hb hbytes d2) (by decide) ?_
    refine XS.aloadN X0.here hexec rfl (hb hbytes d3) rfl rfl ?_
    refine X0.alen hexec (hA.1.mv X0.warmed.alike hh0) rfl rfl (hb hbytes d4) ?_
    refine XS.aconstNull X0.here hexec rfl (hb hbytes d5) ?_
    exact Steps.refl _)
  obtain ⟨v3, T3, X3, E3, g3⟩ := X0.callN hexec (New4.law l a D fV fC b A z 0 A.slots.size) rfl hown (wks W (initW "java/lang/String" 27 New4.yN)) (W New4.tab (by simp only [site, List.mem_cons, List.mem_append, true_or, or_true])) (W := 0) (Nat.le_of_ble_eq_true rfl) (Nat.le_of_ble_eq_true rfl) (Nat.le_refl _) (by show 0 + A.slots.size ≤ A.slots.size; omega) (g := (mkF m 6 #[.val (.ref a), .val (.ref b)] [.null, .int (Int32.ofNat A.slots.size), .int (Int32.ofNat 0), .ref b, .ref a])) rfl (by rw [hml]; rfl) c2 (argsL := [.ref b, .int (Int32.ofNat 0), .int (Int32.ofNat A.slots.size), .null]) (rest := []) rfl rfl (by show 2 * 0 + 0 ≤ _; decide) (hb hbytes d6) (⟨rfl, hB.mv X0.warmed.alike hh0, f1.al X0.warmed.alike, f2.al X0.warmed.alike, hA.mv X0.warmed.alike hh0, s1.there X0.warmed.alike hh0, hz, l0, by omega, l2, fun i hi => by rw [Nat.zero_add]; exact hp i hi⟩)
  have e0 := Got.mv _ s₁ s _ _ hh0.symm (Vm.Alike.refl _) rfl E3
  obtain rfl := e0.1
  have c4 : Steps p.tables e below (s₁.setTop (entryFrame m #[.ref a, .ref b] 2)) (T3.setTop (mkF m 9 #[.val (.ref a), .val (.ref b)] [])) := g3
  exact ⟨T3, none, _, _, _, X3, by simp, rfl, by omega, (fun _ => rfl), e0, fun fs hl => c4.trans (X3.returnOut hexec hret (hb hbytes d9) hl)⟩
theorem pays {l : Launch} {R : Room} {p : Program} {e : Env} {below : List Frame} {s : State} {sargs : Array Value} {len W : Nat} (a : Addr) (D : Cell) (fV fC : Field) (b : Addr) (A : Cell) (z : Int32) (htab : tab.before sargs s = true) (hfr : 4 ≤ R.frames) (hlo : W + 65 ≤ R.locals) :
    Back l R p e below s sargs yN len W (fun A₁ a₁ => A₁.cells + 1 ≤ R.cells ∧ A₁.slots + A.slots.size ≤ R.slots ∧ P a D fV fC b A z a₁ A₁.U) (fun A₁ _ v₁ B₁ => E a D fV fC A v₁ A₁.U B₁.U ∧ B₁.locs = A₁.locs ++ [⟨a, fC.slot⟩, ⟨a, fV.slot⟩] ∧ B₁.cells = A₁.cells + 1 ∧ B₁.slots = A₁.slots + A.slots.size) :=
  (law l a D fV fC b A z).pays htab hfr (by omega)
end New1
/-- the byte, read back as charAt reads it, is the char -/
theorem lo8_mask {x : Int32} (h0 : ¬ x < 0) (h1 : ¬ 255 < x) : lo8 x &&& 255 = x := by
  have t : ∀ k : Fin 256, lo8 (Int32.ofNat k.val) &&& 255 = Int32.ofNat k.val := by decide +kernel
  rw [Int32.lt_iff_toInt_lt] at h0 h1
  have e0 : (0 : Int32).toInt = 0 := rfl
  have e1 : (255 : Int32).toInt = 255 := rfl
  obtain ⟨k, hk⟩ : ∃ k : Nat, x.toInt = k := ⟨x.toInt.toNat, by omega⟩
  have hx : x = Int32.ofNat k := Int32.toInt_inj.mp (by rw [hk, Int32.toInt_ofNat_small (by omega)])
  rw [hx]
  exact t ⟨k, by omega⟩
end StrChars
namespace StrChars.Road
open Jvm Sem ClassFile Op Lib Jvm.Stand Jvm.Free Jvm.Free.XT
open Jvm.Lib.Cold (StaticIs)
abbrev ST : String := "java/lang/String"
/-- every table word that New1's law asks, flat -/
abbrev words : List Jvm.Cond := [.code New1.yN New1.yB 2 none, .initialized ST, .methodLink ST 27 New4.yN, .instanceMethod New4.yN,
  .code New4.yN New4.yB 6 none, .fieldLink ST 38 ST "COMPACT_STRINGS" "Z", .laysFinal ST ST "value" "[B", .fieldLink ST 9 ST "value" "[B", .laysFinal ST ST "coder" "B", .fieldLink ST 15 ST "coder" "B",
  .methodLink ST 1 Lib.objectInit, .instanceMethod Lib.objectInit, .code Lib.objectInit ⟨#[0xb1]⟩ 1 none, .methodLink ST 177 Cmp3.yN, .static Cmp3.yN, .methodLink ST 47 CodL.yN, .static CodL.yN,
  .code Cmp3.yN Cmp3.yB 6 (some (.array .byte)), .initialized U16, .arrayClass .byte, .methodLink U16 115 Cmp5.yN, .static Cmp5.yN, .code Cmp5.yN Cmp5.yB 7 (some .int), .code CodL.yN CodL.yB 2 (some .byte)]
theorem tab_of {a : Array Value} {s : State} (h : ∀ w ∈ words, w.before a s = true) : New1.tab.before a s = true := by
  have h5 : Cmp5.tab.before a s = true := unparts (wk h (.code Cmp5.yN Cmp5.yB 7 (some .int))) (wks h (.initialized Cmp5.yN.cls :: Cmp5.site))
  have hc : CodL.tab.before a s = true := unparts (wk h (.code CodL.yN CodL.yB 2 (some .byte))) (wks h (.initialized CodL.yN.cls :: CodL.site))
  have q5 : ∀ w ∈ Cmp5.tab :: words, w.before a s = true := fun w hw => (List.mem_cons.mp hw).elim (fun e => e ▸ h5) (h w)
  have h3 : Cmp3.tab.before a s = true := unparts (wk q5 (.code Cmp3.yN Cmp3.yB 6 (some (.array .byte)))) (wks q5 (.initialized Cmp3.yN.cls :: Cmp3.site))
  have q3 : ∀ w ∈ Cmp3.tab :: CodL.tab :: words, w.before a s = true := fun w hw => (List.mem_cons.mp hw).elim (fun e => e ▸ h3) fun hw => (List.mem_cons.mp hw).elim (fun e => e ▸ hc) (h w)
  have h4 : New4.tab.before a s = true := unparts (wk q3 (.code New4.yN New4.yB 6 none)) (wks q3 (.initialized New4.yN.cls :: New4.site))
  have q4 : ∀ w ∈ New4.tab :: words, w.before a s = true := fun w hw => (List.mem_cons.mp hw).elim (fun e => e ▸ h4) (h w)
  exact unparts (wk q4 (.code New1.yN New1.yB 2 none)) (wks q4 (.initialized New1.yN.cls :: New1.site))
/-- the words ride from the start Z to the walk's own state -/
theorem moved {Z s : State} {a0 args : Array Value} (hZ : Z.Warmed39 s.vm) (hw : ∀ d ∈ words, d.before a0 Z = true) : ∀ d ∈ words, d.before args s = true := fun d hd => by
  have q := hw d hd
  have t : ∀ d ∈ words, d = .arrayClass .byte ∨ (d.onTables && d.keepsFace) = true := by decide +kernel
  rcases t d hd with rfl | t
  · exact RoadKit.mvA hZ q
  · exact RoadKit.mv hZ q t
/-- WHAT COMES BACK, over the tables of the start Z: h the heap at the call, h' behind it -/
def Q (Z : State) (x : Addr) (A : Cell) (h : Heap) (v : Option Value) (h' : Heap) (L : List Loc) : Prop := v = none ∧ (∀ y ∈ L, y.base = x) ∧ RoadKit.Keep h h' [x] ∧ h'.size = h.size + 1 ∧ RoadKit.Exa Z h' x ST ∧ RoadKit.Fld Z h' x ST "value" "[B" (.ref h.size) ∧ RoadKit.Fld Z h' x ST "coder" "B" (.int 0) ∧
  (∃ V : Cell, RoadKit.Arr Z h' h.size V .byte ∧ V.vm = .none ∧ Z.vm.findClass "[B" = some V.cls ∧ V.slots.size = A.slots.size ∧ ∀ j, j < A.slots.size → V.slots[j]? = some (.int (lo8 (cv A j)))) ∧
  ∀ (O n d : String) (w : Value), RoadKit.Fld Z h x O n d w → RoadKit.slotOf Z O n d ≠ RoadKit.slotOf Z ST "value" "[B" → RoadKit.slotOf Z O n d ≠ RoadKit.slotOf Z ST "coder" "B" → RoadKit.Fld Z h' x O n d w
/-- **new String(chars) AT A CALL, IN THE ROAD'S FORM**: for specialBack behind newO: x the fresh String, b the char[] with the cell A -/
theorem back {p : Program} {l : Launch} {e : Env} {R : Room} {s : State} {args : Array Value} {below : List Frame} {len W : Nat} {Z : State} {a0 : Array Value} {h : Heap} (hZ : Z.Warmed39 s.vm) (hw : ∀ d ∈ words, d.before a0 Z = true) {kI : Nat} (wi : (Jvm.Cond.instantiable ST kI).before a0 Z = true)
    {x b : Addr} {A : Cell} {z : Int32} {v0 c0 : Value} (E : RoadKit.Exa Z h x ST) (V : RoadKit.Fld Z h x ST "value" "[B" v0) (C : RoadKit.Fld Z h x ST "coder" "B" c0) (K : RoadKit.Arr Z h b A .char) (hty : Typed .char A) (S : RoadKit.Sta Z h ST "COMPACT_STRINGS" "Z" (.int z)) (hz : ¬ z = 0)
    (l0 : 0 < A.slots.size) (l2 : A.slots.size ≤ 536870912) (hp : ∀ i, i < A.slots.size → ¬ 255 < cv A i) (hfr : 4 ≤ R.frames) (hlo : W + 65 ≤ R.locals) :
    Back l R p e below s args New1.yN len W (fun P a => a = #[.ref x, .ref b] ∧ P.U.heap = h ∧ P.cells + 1 ≤ R.cells ∧ P.slots + A.slots.size ≤ R.slots)
      (fun P _ v B => ∃ L, Q Z x A h v B.U.heap L ∧ B.locs = P.locs ++ L ∧ B.cells = P.cells + 1 ∧ B.slots = P.slots + A.slots.size) := by
  intro m meth c P g ig mk a X hg hsize hdg hW hn hp'
  obtain ⟨rfl, rfl, r1, r2⟩ := hp'
  have al : Z.vm.Alike P.U.vm := hZ.alike.trans X.warmed.alike
  obtain ⟨D, cfV, kV, iV, fV, hD, gV, stV, knV, obV, asV, slV⟩ := id V
  obtain ⟨D', cfC, kC, iC, fC, hD', gC, stC, -, -, asC, slC⟩ := id C
  cases hD.symm.trans hD'
  obtain ⟨D2, kD, e1, e2, e3, e4, e5⟩ := id E
  cases hD.symm.trans e1
  obtain ⟨c2, k2, i1, i2, i3, -⟩ := Cond.instantiable_spec wi
  cases e2.symm.trans i1
  cases e3.symm.trans i2
  obtain ⟨kU, u1, u2⟩ := al.2.2 _ _ e3
  have hB : Blank ST x D P.U := ⟨hD, ⟨knV, fun q hq => by rw [hq] at obV; cases obV⟩, by rw [al.findClass]; exact e2, kU, u1, by rw [u2]; exact i3, by rw [u2]; exact e5 i3⟩
  have F1 : Found ST "value" "[B" fV P.U := ⟨SBG.found_only al ⟨cfV, kV, iV, gV⟩, stV⟩
  have F2 : Found ST "coder" "B" fC P.U := ⟨SBG.found_only al ⟨cfC, kC, iC, gC⟩, stC⟩
  have hA : Ch b A P.U := ⟨⟨K.1, State.isArrayOf_alike al K.2.1, K.2.2, by omega⟩, hty⟩
  have hS : StaticIs P.U ST "COMPACT_STRINGS" "Z" (.int z) := by
    obtain ⟨cfS, iS, kS, fS, st, cS, t1, t2, t3, t4, t5, t6, t7⟩ := S
    exact StaticIs.there (s := { Z with heap := P.U.heap }) ⟨cfS, iS, kS, fS, st, cS, t1, t2, t3, t4, t5, (fun q => by rw [q] at t6; cases t6), t7⟩ al rfl
  obtain ⟨v, B, X', ⟨⟨hv, E', V', q1, q2, q3, q4, q5, q6, q7, q8, q9, q10, q11⟩, hl, hc, hs⟩, st⟩ := New1.pays x D fV fC b A z (tab_of (moved hZ hw)) hfr hlo m meth c P g ig mk _ X hg hsize hdg hW hn ⟨r1, r2, rfl, hB, F1, F2, hA, hS, hz, l0, l2, hp⟩
  have al' : Z.vm.Alike B.U.vm := hZ.alike.trans X'.warmed.alike
  have hsz : E'.slots.size = D.slots.size := by
    obtain ⟨-, -, -, kB, w1, w2, w3⟩ := q1
    obtain ⟨kB', y1, y2⟩ := al'.2.2 _ _ e3
    rw [q2.2.1] at w1
    cases w1.symm.trans y1
    rw [w3, e5 i3, y2]
  refine ⟨v, B, X', ⟨_, ⟨hv, ?_, ⟨by omega, fun y cy hy hn' => q10 y cy (by simpa using hn') hy, fun y cy hy => ?_⟩, q11, ⟨E', _, q1.1, by rw [q2.2.1]; exact e2, by rw [q2.2.1]; exact e3, by rw [q2.1]; exact obV, fun _ => by rw [hsz]; exact e5 i3⟩,
    ⟨E', cfV, kV, iV, fV, q1.1, gV, stV, by rw [q2.1]; exact knV, by rw [q2.1]; exact obV, by rw [q2.2.1]; exact asV, q3⟩, ⟨E', cfC, kC, iC, fC, q1.1, gC, stC, by rw [q2.1]; exact knV, by rw [q2.1]; exact obV, by rw [q2.2.1]; exact asC, q4⟩,
    ⟨V', ⟨q5.1, State.isArrayOf_alike al'.symm q5.2.1, q5.2.2.1⟩, q6, by rw [← al'.findClass]; exact q7, q8, fun j hj => by have := q9 j hj; rwa [Nat.zero_add] at this⟩, fun O n d w F n1 n2 => ?_⟩, hl, hc, hs⟩, st⟩
  · intro y hy
    simp only [List.mem_cons, List.not_mem_nil, or_false] at hy
    rcases hy with rfl | rfl <;> rfl
  · by_cases q : y = x
    · subst q
      cases hD.symm.trans hy
      exact ⟨E', q1.1, q2.2.1, q2.1, hsz⟩
    · exact ⟨cy, q10 y cy q hy, rfl, rfl, rfl⟩
  · obtain ⟨D3, cf, k, i, f, g1, g2, g3, g4, g5, g6, g7⟩ := F
    cases hD.symm.trans g1
    simp only [RoadKit.slotOf, g2, gV, gC, Option.map_some, Option.getD_some] at n1 n2
    exact ⟨E', cf, k, i, f, q1.1, g2, g3, by rw [q2.1]; exact g4, by rw [q2.1]; exact g5, by rw [q2.2.1]; exact g6, by rw [q2.2.2 f.slot (by simp [n1, n2])]; exact g7⟩
end StrChars.Road
namespace StrChars.Road
open Jvm Sem ClassFile Op Lib Jvm.Stand Jvm.Free Jvm.Free.XT
/-- WHAT COMES BACK, the byte[] as a list of values -/
def QA (Z : State) (x : Addr) (zn : Int32) (cs : List Int32) (h : Heap) (v : Option Value) (h' : Heap) (L : List Loc) : Prop := v = none ∧ (∀ y ∈ L, y.base = x) ∧ RoadKit.Keep h h' [x] ∧ h'.size = h.size + 1 ∧ RoadKit.Exa Z h' x ST ∧ RoadKit.Fld Z h' x ST "value" "[B" (.ref h.size) ∧ RoadKit.Fld Z h' x ST "coder" "B" (.int 0) ∧
  (∃ kb, Z.vm.findClass "[B" = some kb ∧ RoadKit.Arv Z h' h.size kb .byte zn (cs.map fun c => .int (lo8 c)) (.int 0)) ∧
  ∀ (O n d : String) (w : Value), RoadKit.Fld Z h x O n d w → RoadKit.slotOf Z O n d ≠ RoadKit.slotOf Z ST "value" "[B" → RoadKit.slotOf Z O n d ≠ RoadKit.slotOf Z ST "coder" "B" → RoadKit.Fld Z h' x O n d w
/-- **new String(chars) AT A CALL, THE ARRAYS AS LISTS**: the char[] at b holds cs, not empty, no char above 255 -/
theorem backArv {p : Program} {l : Launch} {e : Env} {R : Room} {s : State} {args : Array Value} {below : List Frame} {len W : Nat} {Z : State} {a0 : Array Value} {h : Heap} (hZ : Z.Warmed39 s.vm) (hw : ∀ d ∈ words, d.before a0 Z = true) {kI : Nat} (wi : (Jvm.Cond.instantiable ST kI).before a0 Z = true)
    {x b : Addr} {k : ClassId} {zn z : Int32} {cs : List Int32} {dv v0 c0 : Value} (E : RoadKit.Exa Z h x ST) (V : RoadKit.Fld Z h x ST "value" "[B" v0) (C : RoadKit.Fld Z h x ST "coder" "B" c0) (K : RoadKit.Arv Z h b k .char zn (cs.map Value.int) dv) (S : RoadKit.Sta Z h ST "COMPACT_STRINGS" "Z" (.int z)) (hz : ¬ z = 0)
    (hlen : zn.toNatClampNeg = cs.length) (h0 : 0 < cs.length) (hbig : cs.length ≤ 536870912) (hall : ∀ c ∈ cs, ¬ 255 < c) (hfr : 4 ≤ R.frames) (hlo : W + 65 ≤ R.locals) :
    Back l R p e below s args New1.yN len W (fun P a => a = #[.ref x, .ref b] ∧ P.U.heap = h ∧ P.cells + 1 ≤ R.cells ∧ P.slots + cs.length ≤ R.slots)
      (fun P _ v B => ∃ L, QA Z x zn cs h v B.U.heap L ∧ B.locs = P.locs ++ L ∧ B.cells = P.cells + 1 ∧ B.slots = P.slots + cs.length) := by
  obtain ⟨A, K1, K2, K3, K4, K5, K6⟩ := K
  have e : A.slots.size = cs.length := K3.trans hlen
  have hat : ∀ (i : Nat) (hi : i < cs.length), A.slots[i]? = some (.int cs[i]) := fun i hi => by rw [K5 i (by omega)]; simp [List.getD_eq_getElem?_getD, hi]
  have hcv : ∀ (i : Nat) (hi : i < cs.length), cv A i = cs[i] := fun i hi => by unfold cv; rw [hat i hi]
  have hty : Typed .char A := fun i v hv => by
    have hi : i < A.slots.size := (Array.getElem?_eq_some_iff.mp hv).1
    have q := K5 i hi
    rw [hv] at q
    rw [Option.some.inj q]
    exact K6 i hi
  refine Back.mono (back hZ hw wi E V C K1 hty S hz (by omega) (by omega) (fun i hi => by rw [hcv i (by omega)]; exact hall _ (List.getElem_mem _)) hfr hlo) (fun P a hp => ⟨hp.1, hp.2.1, hp.2.2.1, by rw [e]; exact hp.2.2.2⟩) (fun P a v B hp hq => ?_)
  obtain ⟨L, ⟨q1, q2, q3, q4, q5, q6, q7, ⟨V', v1, v2, v3, v4, v5⟩, q9⟩, hl, hc, hs⟩ := hq
  refine ⟨L, ⟨q1, q2, q3, q4, q5, q6, q7, ⟨V'.cls, v3, V', v1, rfl, by rw [v4, e, hlen], K4, fun i hi => ?_, fun i hi => ?_⟩, q9⟩, hl, hc, by rw [hs, e]⟩
  · have hi' : i < cs.length := by omega
    rw [v5 i (by omega), hcv i hi']; simp [List.getD_eq_getElem?_getD, hi']
  · have hi' : i < cs.length := by omega
    simp only [List.getD_eq_getElem?_getD, List.getElem?_map, List.getElem?_eq_getElem hi', Option.map_some, Option.getD_some]
    exact fits_lo8 _
end StrChars.Road
namespace StrChars.Road
open Jvm Sem ClassFile Op Lib Jvm.Stand Jvm.Free Jvm.Free.XT
/-- WHAT COMES BACK, in the writer's own shape -/
def QV (Z : State) (x : Addr) (N : Int32) (bs : List Int32) (h : Heap) (n0 : Nat) (v : Option Value) (h' : Heap) (L : List Loc) : Prop := v = none ∧ RoadKit.Fr n0 L ∧ RoadKit.Keep h h' [x] ∧ RoadKit.Exa Z h' x ST ∧ RoadKit.Fld Z h' x ST "coder" "B" (.int 0) ∧
  ∃ (t : Addr) (kb : ClassId), n0 ≤ t ∧ h.size ≤ t ∧ ¬ t = x ∧ RoadKit.Fld Z h' x ST "value" "[B" (.ref t) ∧ RoadKit.Arv Z h' t kb .byte N (bs.map Value.int) (.int 0)
/-- **new String(chars) AT A CALL, FOR THE WRITER**: a char[] of n known ints, each 0 to 255 -/
theorem backV {p : Program} {l : Launch} {e : Env} {R : Room} {s : State} {args : Array Value} {below : List Frame} {len W : Nat} {Z : State} {a0 : Array Value} {h : Heap} (hZ : Z.Warmed39 s.vm) (hw : ∀ d ∈ words, d.before a0 Z = true) {kI : Nat} (wi : (Jvm.Cond.instantiable ST kI).before a0 Z = true)
    {x b : Addr} {kC : ClassId} {cs bs : List Int32} {d v0 c0 : Value} {z N : Int32} {n n0 : Nat} (hx0 : n0 ≤ x) (hh0 : n0 ≤ h.size) (E : RoadKit.Exa Z h x ST) (V : RoadKit.Fld Z h x ST "value" "[B" v0) (C : RoadKit.Fld Z h x ST "coder" "B" c0) (K : RoadKit.Arv Z h b kC .char N (cs.map Value.int) d) (S : RoadKit.Sta Z h ST "COMPACT_STRINGS" "Z" (.int z)) (hz : ¬ z = 0)
    (hn : cs.length = n) (hN : N = Int32.ofNat n) (l0 : 0 < n) (l2 : n ≤ 4000) (hp : ∀ c ∈ cs, ¬ c < 0 ∧ ¬ (255 : Int32) < c) (hb : bs = cs.map (fun c => c.toInt8.toInt32)) (hfr : 4 ≤ R.frames) (hlo : W + 65 ≤ R.locals) :
    Back l R p e below s args (⟨"java/lang/String", "<init>", "([C)V"⟩ : MethodName) len W (fun P a => a = #[.ref x, .ref b] ∧ P.U.heap = h ∧ P.cells + 1 ≤ R.cells ∧ P.slots + n ≤ R.slots)
      (fun P _ v B => ∃ L, QV Z x N bs h n0 v B.U.heap L ∧ B.locs = P.locs ++ L ∧ B.cells = P.cells + 1 ∧ B.slots = P.slots + n) := by
  subst hn hN hb
  refine Back.mono (backArv hZ hw wi E V C K S hz (n32 (by omega)) l0 (by omega) (fun c hc => (hp c hc).2) hfr hlo) (fun P a hp => hp) (fun P a v B hp hq => ?_)
  obtain ⟨L, ⟨q1, q2, q3, q4, q5, q6, q7, ⟨kb, v1, v2⟩, q9⟩, hl, hc, hs⟩ := hq
  exact ⟨L, ⟨q1, fun y hy => by rw [q2 y hy]; exact hx0, q3, q5, q7, h.size, kb, hh0, Nat.le_refl _, Nat.ne_of_gt E.lt, q6, by rw [List.map_map]; exact v2⟩, hl, hc, hs⟩
end StrChars.Road
namespace StrChars
open Jvm Sem ClassFile Op Lib Jvm.Stand Jvm.Free.XT Jvm.Free.ALB Jvm.Free.JM Jvm.Free
open Jvm.Lib.Cold (StaticIs)
def hi8 (x : Int32) : Int32 := lo8 (x >>> ((8 : Int32) &&& 31))
/-- what StringUTF16.getChar makes of two bytes -/
def pairCh (u v : Int32) : Int32 := (((u &&& 255) <<< ((0 : Int32) &&& 31)) ||| ((v &&& 255) <<< ((8 : Int32) &&& 31))).toUInt32.toUInt16.toUInt32.toInt32
theorem lo8_and (x : Int32) : (lo8 x &&& 255).toBitVec.toNat = x.toBitVec.toNat % 256 := by
  have h : (lo8 x).toBitVec = (x.toBitVec.signExtend 8).signExtend 32 := by rw [lo8, Int8.toBitVec_toInt32, Int32.toBitVec_toInt8]
  rw [Int32.toBitVec_and, BitVec.toNat_and, h]
  have e : ((x.toBitVec.signExtend 8).signExtend 32).toNat % 256 = x.toBitVec.toNat % 256 := by
    rw [BitVec.toNat_signExtend]
    have hlt := x.toBitVec.isLt
    simp only [BitVec.toNat_setWidth, BitVec.toNat_signExtend]
    split <;> split <;> omega
  rw [← e]
  exact Nat.and_two_pow_sub_one_eq_mod _ 8
theorem pair_says {c : Int32} (h0 : ¬ c < 0) (h1 : ¬ 65535 < c) : pairCh (lo8 c) (hi8 c) = c := by
  rw [Int32.lt_iff_toInt_lt] at h0 h1
  have e0 : (0 : Int32).toInt = 0 := rfl
  have e1 : (65535 : Int32).toInt = 65535 := rfl
  have hc : c.toInt = c.toBitVec.toNat := by
    have := c.toBitVec.isLt
    have e : c.toInt = c.toBitVec.toInt := rfl
    rw [e] at h0 h1
    rw [e]
    rw [BitVec.toInt_eq_toNat_cond] at h0 h1 ⊢
    split at h0 <;> split <;> omega
  have hn : c.toBitVec.toNat < 65536 := by omega
  have a1 := lo8_and c
  have a2 : (hi8 c &&& 255).toBitVec.toNat = c.toBitVec.toNat / 256 := by
    rw [hi8, lo8_and]
    have e : ((8 : Int32) &&& 31) = 8 := by decide
    rw [e, Int32.toBitVec_shiftRight]
    have e2 : ((8 : Int32).toBitVec.smod 32) = 8#32 := by decide
    rw [e2, BitVec.sshiftRight_eq', BitVec.toNat_sshiftRight_of_msb_false (by rw [BitVec.msb_eq_false_iff_two_mul_lt]; omega)]
    show c.toBitVec.toNat >>> 8 % 256 = _
    rw [Nat.shiftRight_eq_div_pow]
    omega
  unfold pairCh
  apply Int32.toBitVec_inj.mp
  apply BitVec.eq_of_toNat_eq
  have f0 : ((0 : Int32) &&& 31) = 0 := by decide
  have f8 : ((8 : Int32) &&& 31) = 8 := by decide
  rw [f0, f8]
  have g : (((lo8 c &&& 255) <<< (0 : Int32)) ||| ((hi8 c &&& 255) <<< (8 : Int32))).toBitVec.toNat = c.toBitVec.toNat := by
    rw [Int32.toBitVec_or, Int32.toBitVec_shiftLeft, Int32.toBitVec_shiftLeft]
    have s0 : ((0 : Int32).toBitVec.smod 32) = 0#32 := by decide
    have s8 : ((8 : Int32).toBitVec.smod 32) = 8#32 := by decide
    rw [s0, s8, BitVec.toNat_or]
    simp only [BitVec.shiftLeft_eq', BitVec.toNat_shiftLeft, a1, a2]
    show (c.toBitVec.toNat % 256) <<< 0 % 2 ^ 32 ||| (c.toBitVec.toNat / 256) <<< 8 % 2 ^ 32 = _
    rw [Nat.shiftLeft_zero, Nat.mod_eq_of_lt (show c.toBitVec.toNat % 256 < 2 ^ 32 by omega), Nat.mod_eq_of_lt (show (c.toBitVec.toNat / 256) <<< 8 < 2 ^ 32 by rw [Nat.shiftLeft_eq]; omega), Nat.or_comm, ← Nat.shiftLeft_add_eq_or_of_lt (by omega), Nat.shiftLeft_eq]
    omega
  show BitVec.toNat (((((lo8 c &&& 255) <<< (0 : Int32)) ||| ((hi8 c &&& 255) <<< (8 : Int32))).toBitVec.setWidth 16).setWidth 32) = _
  rw [BitVec.toNat_setWidth, BitVec.toNat_setWidth, g]
  omega
end StrChars
namespace StrChars
open Jvm Sem ClassFile Op Lib Jvm.Stand Jvm.Free.XT Jvm.Free.ALB Jvm.Free.JM Jvm.Free
open Jvm.Lib.Cold (StaticIs)
/-- the array's cell V codes the n chars f 0 .. f (n - 1) by the coder cd, as the JDK does: coder 1 just where some char is above 255 -/
def Cod (cd : Int32) (n : Nat) (f : Nat → Int32) (V : Cell) : Prop := (cd = 0 ∧ V.slots.size = n ∧ ∀ j, j < n → V.slots[j]? = some (.int (lo8 (f j))) ∧ ¬ 255 < f j) ∨ (cd = 1 ∧ V.slots.size = 2 * n ∧ (∀ j, j < n → V.slots[2 * j]? = some (.int (lo8 (f j))) ∧ V.slots[2 * j + 1]? = some (.int (hi8 (f j)))) ∧ ∃ j, j < n ∧ 255 < f j)
/-- **x is a String of the n chars f 0 .. f (n - 1)**, Latin-1 or UTF-16; its array at t has the cell V -/
def Txt (x t : Addr) (V : Cell) (cd : Int32) (n : Nat) (f : Nat → Int32) (U : State) : Prop := Exact "java/lang/String" x U ∧ Has x "java/lang/String" "value" "[B" (.ref t) U ∧ Has x "java/lang/String" "coder" "B" (.int cd) U ∧ XT.Arr .byte t V U ∧ Cod cd n f V ∧ ∀ j, j < n → ¬ f j < 0 ∧ ¬ 65535 < f j
theorem Txt.mv {x t : Addr} {V : Cell} {cd : Int32} {n : Nat} {f : Nat → Int32} {U U' : State} (h : Txt x t V cd n f U) (hal : U.vm.Alike U'.vm) (hh : U'.heap = U.heap) : Txt x t V cd n f U' := ⟨h.1.mv hal hh, h.2.1.mv hal hh, h.2.2.1.mv hal hh, h.2.2.2.1.mv hal hh, h.2.2.2.2⟩
end StrChars
namespace StrChars.Road
open Jvm Sem ClassFile Op Lib Jvm.Stand Jvm.Free Jvm.Free.XT
open Jvm.Lib.Cold (StaticIs)
theorem consq {a : Array Value} {s : State} {c : Jvm.Cond} {L : List Jvm.Cond} (h0 : c.before a s = true) (h : ∀ w ∈ L, w.before a s = true) : ∀ w ∈ c :: L, w.before a s = true := fun w hw => (List.mem_cons.mp hw).elim (fun e => e ▸ h0) (h w)
/-- the bytes of the chars cs, low before high -/
def wideBytes : List Int32 → List Value
  | [] => []
  | c :: cs => .int (lo8 c) :: .int (hi8 c) :: wideBytes cs
theorem wide_lo (d : Value) : ∀ (cs : List Int32) (j : Nat), j < cs.length → (wideBytes cs).getD (2 * j) d = .int (lo8 (cs.getD j 0))
  | [], j, h => absurd h (Nat.not_lt_zero j)
  | c :: cs, 0, _ => rfl
  | c :: cs, j + 1, h => by
    have q := wide_lo d cs j (by simpa using h)
    rw [show 2 * (j + 1) = 2 * j + 1 + 1 from by omega]
    simpa [wideBytes] using q
theorem wide_hi (d : Value) : ∀ (cs : List Int32) (j : Nat), j < cs.length → (wideBytes cs).getD (2 * j + 1) d = .int (hi8 (cs.getD j 0))
  | [], j, h => absurd h (Nat.not_lt_zero j)
  | c :: cs, 0, _ => rfl
  | c :: cs, j + 1, h => by
    have q := wide_hi d cs j (by simpa using h)
    rw [show 2 * (j + 1) + 1 = 2 * j + 1 + 1 + 1 from by omega]
    simpa [wideBytes] using q
theorem low_at (d : Value) (cs : List Int32) (j : Nat) (h : j < cs.length) : (cs.map fun c => Value.int (lo8 c)).getD j d = .int (lo8 (cs.getD j 0)) := by
  simp [List.getD_eq_getElem?_getD, h]
/-- an array of N2 bytes vs codes the chars cs by the coder cd -/
def CodA (cs : List Int32) (cd N2 : Int32) (vs : List Value) : Prop := (cd = 0 ∧ N2 = Int32.ofNat cs.length ∧ vs = (cs.map fun c => Value.int (lo8 c)) ∧ ∀ c ∈ cs, ¬ 255 < c) ∨ (cd = 1 ∧ N2 = Int32.ofNat (2 * cs.length) ∧ vs = wideBytes cs ∧ ∃ c ∈ cs, 255 < c)
theorem CodA.cod {cs : List Int32} {cd N2 : Int32} {vs : List Value} {V : Cell} (h : CodA cs cd N2 vs) (hn : 2 * cs.length < 2 ^ 31) (hs : V.slots.size = N2.toNatClampNeg) (hv : RoadKit.Has V vs (.int 0)) : Cod cd cs.length (fun j => cs.getD j 0) V := by
  rcases h with ⟨rfl, rfl, rfl, h⟩ | ⟨rfl, rfl, rfl, c, hc, hw⟩
  · rw [n32 (by omega)] at hs
    exact Or.inl ⟨rfl, hs, fun j hj => ⟨by rw [hv j (by omega), low_at _ _ _ hj], by
      have e : cs.getD j 0 = cs[j] := by simp [List.getD_eq_getElem?_getD, hj]
      show ¬ 255 < cs.getD j 0
      rw [e]; exact h _ (List.getElem_mem _)⟩⟩
  · rw [n32 (by omega)] at hs
    obtain ⟨j, hj, rfl⟩ := List.getElem_of_mem hc
    exact Or.inr ⟨rfl, hs, fun j hj => ⟨by rw [hv _ (by omega), wide_lo _ _ _ hj], by rw [hv _ (by omega), wide_hi _ _ _ hj]⟩, j, hj, by
      have e : cs.getD j 0 = cs[j] := by simp [List.getD_eq_getElem?_getD, hj]
      show 255 < cs.getD j 0
      rw [e]; exact hw⟩
/-- an object of exactly java/lang/String, its two fields found: as the laws ask it -/
theorem strObj {Z U : State} {a0 : Array Value} {kI : Nat} (wi : (Jvm.Cond.instantiable ST kI).before a0 Z = true) (al : Z.vm.Alike U.vm) {x : Addr} {v0 c0 : Value} (E : RoadKit.Exa Z U.heap x ST) (V : RoadKit.Fld Z U.heap x ST "value" "[B" v0) (C : RoadKit.Fld Z U.heap x ST "coder" "B" c0) :
    ∃ (D : Cell) (fV fC : Field), Blank ST x D U ∧ Found ST "value" "[B" fV U ∧ Found ST "coder" "B" fC U ∧ D.slots[fV.slot]? = some v0 ∧ D.slots[fC.slot]? = some c0 ∧ RoadKit.slotOf Z ST "value" "[B" = fV.slot ∧ RoadKit.slotOf Z ST "coder" "B" = fC.slot := by
  obtain ⟨D, cfV, kV, iV, fV, hD, gV, stV, knV, obV, asV, slV⟩ := V
  obtain ⟨D', cfC, kC, iC, fC, hD', gC, stC, -, -, asC, slC⟩ := C
  cases hD.symm.trans hD'
  obtain ⟨D2, kD, e1, e2, e3, e4, e5⟩ := E
  cases hD.symm.trans e1
  obtain ⟨c2, k2, i1, i2, i3, -⟩ := Cond.instantiable_spec wi
  cases e2.symm.trans i1
  cases e3.symm.trans i2
  obtain ⟨kU, u1, u2⟩ := al.2.2 _ _ e3
  exact ⟨D, fV, fC, ⟨hD, ⟨knV, fun q hq => by rw [hq] at obV; cases obV⟩, by rw [al.findClass]; exact e2, kU, u1, by rw [u2]; exact i3, by rw [u2]; exact e5 i3⟩, ⟨SBG.found_only al ⟨cfV, kV, iV, gV⟩, stV⟩, ⟨SBG.found_only al ⟨cfC, kC, iC, gC⟩, stC⟩, slV, slC, by simp [RoadKit.slotOf, gV], by simp [RoadKit.slotOf, gC]⟩
theorem sta_is {Z U : State} (al : Z.vm.Alike U.vm) {C n d : String} {v : Value} (S : RoadKit.Sta Z U.heap C n d v) : StaticIs U C n d v := by
  obtain ⟨cfS, iS, kS, fS, st, cS, t1, t2, t3, t4, t5, t6, t7⟩ := S
  exact StaticIs.there (s := { Z with heap := U.heap }) ⟨cfS, iS, kS, fS, st, cS, t1, t2, t3, t4, t5, (fun q => by rw [q] at t6; cases t6), t7⟩ al rfl
end StrChars.Road
namespace StrChars
open Jvm Sem ClassFile Op Lib Jvm.Stand Jvm.Free.XT Jvm.Free.ALB Jvm.Free.JM Jvm.Free
open Jvm.Lib.Cold (StaticIs)
/-- what place i of a byte[]'s cell holds -/
def yv (A : Cell) (i : Nat) : Int32 := match A.slots[i]? with | some (.int x) => x | _ => 0
theorem yv_get {a : Addr} {A : Cell} {U : State} (h : XT.Arr .byte a A U) (ht : Typed .byte A) {i : Nat} (hi : i < A.slots.size) : A.slots[i]? = some (.int (yv A i)) := by
  have e := Array.getElem?_eq_getElem hi
  have f := ht i _ e
  unfold yv; rw [e]
  generalize A.slots[i] = v at f
  cases v <;> simp [fits] at f ⊢
/-- the two arrays are equal, place for place -/
def EqC (A B : Cell) : Prop := A.slots.size = B.slots.size ∧ ∀ i, i < A.slots.size → yv A i = yv B i
/-- a boolean that says whether p -/
def Says01 (q : Prop) (r : Option Value) (s u : State) : Prop := ∃ v : Int32, r = some (.int v) ∧ u.heap = s.heap ∧ ((v = 1 ∧ q) ∨ (v = 0 ∧ ¬ q))
theorem Says01.mv {q : Prop} : ∀ r (U U' V V' : State), U'.heap = U.heap → V.vm.Alike V'.vm → V'.heap = V.heap → Says01 q r U V → Says01 q r U' V' :=
  fun r U U' V V' h1 _ h2 ⟨v, a, b, c⟩ => ⟨v, a, by rw [h1, h2]; exact b, c⟩
namespace LEq
def yN : MethodName := ⟨"java/lang/StringLatin1", "equals", "([B[B)Z"⟩
abbrev yB : ByteArray := jdk_43_method_13_code
theorem d0 : decode yB 0 = .ok (.aload_n 0, 1) := by decide +kernel
theorem d1 : decode yB 1 = .ok (.arraylength, 1) := by decide +kernel
theorem d2 : decode yB 2 = .ok (.aload_n 1, 1) := by decide +kernel
theorem d3 : decode yB 3 = .ok (.arraylength, 1) := by decide +kernel
theorem d4 : decode yB 4 = .ok (.if_icmp (.ne) 30, 3) := by decide +kernel
theorem d7 : decode yB 7 = .ok (.iconst 0, 1) := by decide +kernel
theorem d8 : decode yB 8 = .ok (.istore_n 2, 1) := by decide +kernel
theorem d9 : decode yB 9 = .ok (.iload_n 2, 1) := by decide +kernel
theorem d10 : decode yB 10 = .ok (.aload_n 0, 1) := by decide +kernel
theorem d11 : decode yB 11 = .ok (.arraylength, 1) := by decide +kernel
theorem d12 : decode yB 12 = .ok (.if_icmp (.ge) 20, 3) := by decide +kernel
theorem d15 : decode yB 15 = .ok (.aload_n 0, 1) := by decide +kernel
theorem d16 : decode yB 16 = .ok (.iload_n 2, 1) := by decide +kernel
theorem d17 : decode yB 17 = .ok (.baload, 1) := by decide +kernel
theorem d18 : decode yB 18 = .ok (.aload_n 1, 1) := by decide +kernel
theorem d19 : decode yB 19 = .ok (.iload_n 2, 1) := by decide +kernel
theorem d20 : decode yB 20 = .ok (.baload, 1) := by decide +kernel
theorem d21 : decode yB 21 = .ok (.if_icmp (.eq) 5, 3) := by decide +kernel
theorem d24 : decode yB 24 = .ok (.iconst 0, 1) := by decide +kernel
theorem d25 : decode yB 25 = .ok (.ireturn, 1) := by decide +kernel
theorem d26 : decode yB 26 = .ok (.iinc 2 1, 3) := by decide +kernel
theorem d29 : decode yB 29 = .ok (.goto (-20), 3) := by decide +kernel
theorem d32 : decode yB 32 = .ok (.iconst 1, 1) := by decide +kernel
theorem d33 : decode yB 33 = .ok (.ireturn, 1) := by decide +kernel
theorem d34 : decode yB 34 = .ok (.iconst 0, 1) := by decide +kernel
theorem d35 : decode yB 35 = .ok (.ireturn, 1) := by decide +kernel
def site : List Cond := []
def tab : Cond := tabOf yN yB 3 (some .boolean) site
def P (a : Addr) (A : Cell) (b : Addr) (B : Cell) (args : Array Value) (s : State) : Prop := args = #[.ref a, .ref b] ∧ XT.Arr .byte a A s ∧ Typed .byte A ∧ XT.Arr .byte b B s ∧ Typed .byte B
/-- whether two byte[] are equal, place for place -/
theorem law (l : Launch) (a : Addr) (A : Cell) (b : Addr) (B : Cell) : Law l yN 2 2 0 0 yB 3 (some .boolean) site (P a A b B) (Says01 (EqC A B)) [] 0 0 := by
  refine Law.of_walk (plainFor_of_name (by decide +kernel)) (by decide +kernel) (by decide +kernel) (by decide) (fun _ _ h => by rw [h.1]; rfl) (fun _ U U' hal hh h => ⟨h.1, h.2.1.mv hal hh, h.2.2.1, h.2.2.2.1.mv hal hh, h.2.2.2.2⟩) (fun r U U' V V' h1 hal h2 h => Says01.mv r U U' V V' h1 hal h2 h) ?_
  intro p e s m args below meth c s₁ X0 hexec hbytes hml hret hlk hnm hown hh0 W hP
  obtain ⟨rfl, hA, tA, hB, tB⟩ := hP
  have a31 := hA.2.2.2
  have b31 := hB.2.2.2
  have hA0 := hA.mv X0.warmed.alike hh0
  have hB0 := hB.mv X0.warmed.alike hh0
  have c1 : Steps p.tables e below (s₁.setTop (entryFrame m #[.ref a, .ref b] 3)) (s₁.setTop (mkF m 0 #[.val (.ref a), .val (.ref b), .unset] [])) := entry rfl
  have c2 : Steps p.tables e below (s₁.setTop (entryFrame m #[.ref a, .ref b] 3)) (s₁.setTop (mkF m 4 #[.val (.ref a), .val (.ref b), .unset] [.int (Int32.ofNat B.slots.size), .int (Int32.ofNat A.slots.size)])) := c1.trans (by
    refine XS.aloadN X0.here hexec rfl (hb hbytes d0) rfl rfl ?_
    refine X0.alen hexec hA0 rfl rfl (hb hbytes d1) ?_
    refine XS.aloadN X0.here hexec rfl (hb hbytes d2) rfl rfl ?_
    refine X0.alen hexec hB0 rfl rfl (hb hbytes d3) ?_
    exact Steps.refl _)
  by_cases hs : A.slots.size = B.slots.size
  · have c3 : Steps p.tables e below (s₁.setTop (entryFrame m #[.ref a, .ref b] 3)) (s₁.setTop (mkF m 9 #[.val (.ref a), .val (.ref b), .val (.int 0)] [])) := c2.trans (by
      refine XS.icmpNo X0.here hexec rfl (hb hbytes d4) rfl (ii_ne_f (by rw [hs])) ?_
      refine iconstV X0.here hexec rfl 0 (hb hbytes d7) (by decide) ?_
      refine XS.istoreN X0.here hexec rfl (hb hbytes d8) rfl rfl ?_
      exact Steps.refl _)
    have loop : ∀ (r i : Nat), i + r = A.slots.size → (∀ j, j < i → yv A j = yv B j) → Steps p.tables e below (s₁.setTop (entryFrame m #[.ref a, .ref b] 3)) (s₁.setTop (mkF m 9 #[.val (.ref a), .val (.ref b), .val (.int (Int32.ofNat i))] [])) → ∃ (pc : Nat) (Ls : Array Slot) (v : Int32), (pc = 25 ∨ pc = 33) ∧ ((v = 1 ∧ EqC A B) ∨ (v = 0 ∧ ¬ EqC A B)) ∧ Steps p.tables e below (s₁.setTop (entryFrame m #[.ref a, .ref b] 3)) (s₁.setTop (mkF m pc Ls [.int v])) := by
      intro r
      induction r with
      | zero =>
        intro i hi he cl
        exact ⟨33, _, 1, Or.inr rfl, Or.inl ⟨rfl, hs, fun j hj => he j (by omega)⟩, cl.trans (by
          refine XS.iloadN X0.here hexec rfl (hb hbytes d9) rfl ?_
          refine XS.aloadN X0.here hexec rfl (hb hbytes d10) rfl rfl ?_
          refine X0.alen hexec hA0 rfl rfl (hb hbytes d11) ?_
          refine XS.icmpYes X0.here hexec rfl (pc0 := 12) rfl (hb hbytes d12) rfl (ii_ge_t (nlt32 (by omega) (by omega))) (by decide) rfl ?_
          refine iconstV X0.here hexec rfl 1 (hb hbytes d32) (by decide) ?_
          exact Steps.refl _)⟩
      | succ r ih =>
        intro i hi he cl
        have c4 : Steps p.tables e below (s₁.setTop (entryFrame m #[.ref a, .ref b] 3)) (s₁.setTop (mkF m 21 #[.val (.ref a), .val (.ref b), .val (.int (Int32.ofNat i))] [.int (yv B i), .int (yv A i)])) := cl.trans (by
          refine XS.iloadN X0.here hexec rfl (hb hbytes d9) rfl ?_
          refine XS.aloadN X0.here hexec rfl (hb hbytes d10) rfl rfl ?_
          refine X0.alen hexec hA0 rfl rfl (hb hbytes d11) ?_
          refine XS.icmpNo X0.here hexec rfl (hb hbytes d12) rfl (ii_ge_f (lt32 (by omega) (by omega))) ?_
          refine XS.aloadN X0.here hexec rfl (hb hbytes d15) rfl rfl ?_
          refine XS.iloadN X0.here hexec rfl (hb hbytes d16) rfl ?_
          refine X0.aget hexec hA0 rfl (yv_get hA tA (i := i) (by omega)) rfl rfl (hb hbytes d17) ?_
          refine XS.aloadN X0.here hexec rfl (hb hbytes d18) rfl rfl ?_
          refine XS.iloadN X0.here hexec rfl (hb hbytes d19) rfl ?_
          refine X0.aget hexec hB0 rfl (yv_get hB tB (i := i) (by omega)) rfl rfl (hb hbytes d20) ?_
          exact Steps.refl _)
        by_cases hv : yv A i = yv B i
        · have c5 : Steps p.tables e below (s₁.setTop (entryFrame m #[.ref a, .ref b] 3)) (s₁.setTop (mkF m 9 #[.val (.ref a), .val (.ref b), .val (.int (Int32.ofNat i + 1))] [])) := c4.trans (by
            refine XS.icmpYes X0.here hexec rfl (pc0 := 21) rfl (hb hbytes d21) rfl (ii_eq_t hv) (by decide) rfl ?_
            refine iincV X0.here hexec rfl 1 (hb hbytes d26) (by decide) rfl rfl ?_
            refine XS.goto X0.here hexec rfl (pc0 := 29) rfl (hb hbytes d29) (by decide) rfl ?_
            exact Steps.refl _)
          rw [succ32] at c5
          exact ih (i + 1) (by omega) (fun j hj => by
            by_cases e : j = i
            · rw [e]; exact hv
            · exact he j (by omega)) c5
        · exact ⟨25, _, 0, Or.inl rfl, Or.inr ⟨rfl, fun q => hv (q.2 i (by omega))⟩, c4.trans (by
            refine XS.icmpNo X0.here hexec rfl (hb hbytes d21) rfl (ii_eq_f hv) ?_
            refine iconstV X0.here hexec rfl 0 (hb hbytes d24) (by decide) ?_
            exact Steps.refl _)⟩
    obtain ⟨pc, Ls, v, hpc, hv, cz⟩ := loop A.slots.size 0 (by omega) (fun j hj => absurd hj (Nat.not_lt_zero j)) c3
    have nv : narrow .boolean (.int v) = .int v := by rcases hv with ⟨rfl, -⟩ | ⟨rfl, -⟩ <;> rfl
    rcases hpc with rfl | rfl
    · exact ⟨s₁, some (.int v), _, _, _, X0, rfl, rfl, rfl, (fun h => by cases h), ⟨v, rfl, hh0, hv⟩, fun fs hl => cz.trans (X0.ireturnOut hexec hret nv (Or.inr (Or.inl rfl)) (hb hbytes d25) hl)⟩
    · exact ⟨s₁, some (.int v), _, _, _, X0, rfl, rfl, rfl, (fun h => by cases h), ⟨v, rfl, hh0, hv⟩, fun fs hl => cz.trans (X0.ireturnOut hexec hret nv (Or.inr (Or.inl rfl)) (hb hbytes d33) hl)⟩
  · have c3 : Steps p.tables e below (s₁.setTop (entryFrame m #[.ref a, .ref b] 3)) (s₁.setTop (mkF m 35 #[.val (.ref a), .val (.ref b), .unset] [.int 0])) := c2.trans (by
      refine XS.icmpYes X0.here hexec rfl (pc0 := 4) rfl (hb hbytes d4) rfl (ii_ne_t (ne32 a31 b31 hs)) (by decide) rfl ?_
      refine iconstV X0.here hexec rfl 0 (hb hbytes d34) (by decide) ?_
      exact Steps.refl _)
    exact ⟨s₁, some (.int 0), _, _, _, X0, rfl, rfl, rfl, (fun h => by cases h), ⟨0, rfl, hh0, Or.inr ⟨rfl, fun q => hs q.1⟩⟩, fun fs hl => c3.trans (X0.ireturnOut hexec hret rfl (Or.inr (Or.inl rfl)) (hb hbytes d35) hl)⟩
end LEq
theorem Cod.ty {cd : Int32} {n : Nat} {f : Nat → Int32} {V : Cell} (h : Cod cd n f V) : Typed .byte V := fun i v hv => by
  have hi : i < V.slots.size := (Array.getElem?_eq_some_iff.mp hv).1
  rcases h with ⟨-, k1, k2⟩ | ⟨-, k1, k2, -⟩
  · rw [(k2 i (by omega)).1] at hv; cases hv; exact fits_lo8 _
  · rcases Nat.mod_two_eq_zero_or_one i with e | e
    · obtain ⟨j, rfl⟩ : ∃ j, i = 2 * j := ⟨i / 2, by omega⟩
      rw [(k2 j (by omega)).1] at hv; cases hv; exact fits_lo8 _
    · obtain ⟨j, rfl⟩ : ∃ j, i = 2 * j + 1 := ⟨i / 2, by omega⟩
      rw [(k2 j (by omega)).2] at hv; cases hv; exact fits_lo8 _
/-- the same text -/
def SameT (n : Nat) (f : Nat → Int32) (k : Nat) (g : Nat → Int32) : Prop := n = k ∧ ∀ j, j < n → f j = g j
theorem lo8_inj {x y : Int32} (h0 : ¬ x < 0) (h1 : ¬ 255 < x) (k0 : ¬ y < 0) (k1 : ¬ 255 < y) (h : lo8 x = lo8 y) : x = y := by
  rw [← lo8_mask h0 h1, ← lo8_mask k0 k1, h]
/-- arrays coded by one coder are equal just where the texts are -/
theorem Cod.eqv {cd : Int32} {n k : Nat} {f g : Nat → Int32} {V V' : Cell} (h : Cod cd n f V) (h' : Cod cd k g V') (hf : ∀ j, j < n → ¬ f j < 0 ∧ ¬ 65535 < f j) (hg : ∀ j, j < k → ¬ g j < 0 ∧ ¬ 65535 < g j) : EqC V V' ↔ SameT n f k g := by
  have yvv : ∀ {W : Cell} {i : Nat} {x : Int32}, W.slots[i]? = some (.int x) → yv W i = x := fun q => by unfold yv; rw [q]
  rcases h with ⟨rfl, k1, k2⟩ | ⟨rfl, k1, k2, -⟩
  · rcases h' with ⟨-, m1, m2⟩ | ⟨e, -⟩
    · constructor
      · rintro ⟨e1, e2⟩
        refine ⟨by omega, fun j hj => ?_⟩
        have q := e2 j (by omega)
        rw [yvv (k2 j hj).1, yvv (m2 j (by omega)).1] at q
        exact lo8_inj (hf j hj).1 (k2 j hj).2 (hg j (by omega)).1 (m2 j (by omega)).2 q
      · rintro ⟨rfl, e2⟩
        refine ⟨by omega, fun j hj => ?_⟩
        rw [yvv (k2 j (by omega)).1, yvv (m2 j (by omega)).1, e2 j (by omega)]
    · exact absurd e (by decide)
  · rcases h' with ⟨e, -⟩ | ⟨-, m1, m2, -⟩
    · exact absurd e (by decide)
    · constructor
      · rintro ⟨e1, e2⟩
        refine ⟨by omega, fun j hj => ?_⟩
        have q1 := e2 (2 * j) (by omega)
        have q2 := e2 (2 * j + 1) (by omega)
        rw [yvv (k2 j hj).1, yvv (m2 j (by omega)).1] at q1
        rw [yvv (k2 j hj).2, yvv (m2 j (by omega)).2] at q2
        rw [← pair_says (hf j hj).1 (hf j hj).2, ← pair_says (hg j (by omega)).1 (hg j (by omega)).2, q1, q2]
      · rintro ⟨rfl, e2⟩
        refine ⟨by omega, fun i hi => ?_⟩
        rcases Nat.mod_two_eq_zero_or_one i with e | e
        · obtain ⟨j, rfl⟩ : ∃ j, i = 2 * j := ⟨i / 2, by omega⟩
          rw [yvv (k2 j (by omega)).1, yvv (m2 j (by omega)).1, e2 j (by omega)]
        · obtain ⟨j, rfl⟩ : ∃ j, i = 2 * j + 1 := ⟨i / 2, by omega⟩
          rw [yvv (k2 j (by omega)).2, yvv (m2 j (by omega)).2, e2 j (by omega)]
/-- two codings differ: so do the texts -/
theorem Cod.dif {cd cd' : Int32} {n k : Nat} {f g : Nat → Int32} {V V' : Cell} (h : Cod cd n f V) (h' : Cod cd' k g V') (hne : ¬ cd = cd') : ¬ SameT n f k g := by
  rintro ⟨rfl, e⟩
  rcases h with ⟨rfl, -, k2⟩ | ⟨rfl, -, -, j, hj, hw⟩
  · rcases h' with ⟨rfl, -⟩ | ⟨-, -, -, j, hj, hw⟩
    · exact hne rfl
    · exact (k2 j hj).2 (by rw [e j hj]; exact hw)
  · rcases h' with ⟨-, -, m2⟩ | ⟨rfl, -⟩
    · exact (m2 j hj).2 (by rw [← e j hj]; exact hw)
    · exact hne rfl
/-- an object of exactly C is an instance of C -/
theorem cinst {p : Program} {l : Launch} {e : Env} {R : Room} {s : State} {m : MethodId} {args : Array Value} {below : List Frame} {meth : Method} {c : Code} {T : State} {locs : List Loc} {cells slots : Nat} (X : Stand p l e R s m args below meth c T locs cells slots) (hexec : p.tables.exec = Jvm.exec) {own C : String} {index : Nat} (hown : s.vm.findClass own = some m.cls) (hlink : (Cond.classLink own index C).before args s = true) {a : Addr} (hE : Exact C a T)
    {g : JFrame} (hg : g.method = m) {rest : List Value} (hstack : g.stack = .ref a :: rest) (hdg : decode c.code g.pc = .ok (.instanceof index, 3)) :
    ∃ T', Stand p l e R s m args below meth c T' locs cells slots ∧ T'.heap = T.heap ∧ ∀ target, Steps p.tables e below (T'.setTop { g with pc := g.pc + 3, stack := .int 1 :: rest }) target → Steps p.tables e below (T.setTop g) target := by
  obtain ⟨cB, h1, D, h2, h3, h4⟩ := hE
  have h1' : s.vm.findClass C = some cB := by rw [← X.warmed.alike.findClass]; exact h1
  obtain ⟨vm', X', st⟩ := X.instanceofYes hexec hown hlink h2 h4 h1' (by rw [h3]; exact Jvm.Free.SB.assignable_self _ _) hg hstack hdg
  exact ⟨_, X', rfl, st⟩
theorem cself {p : Program} {l : Launch} {e : Env} {R : Room} {s : State} {m : MethodId} {args : Array Value} {below : List Frame} {meth : Method} {c : Code} {T : State} {locs : List Loc} {cells slots : Nat} (X : Stand p l e R s m args below meth c T locs cells slots) (hexec : p.tables.exec = Jvm.exec) {own C : String} {index : Nat} (hown : s.vm.findClass own = some m.cls) (hlink : (Cond.classLink own index C).before args s = true) {a : Addr} (hE : Exact C a T)
    {g : JFrame} (hg : g.method = m) {rest : List Value} (hstack : g.stack = .ref a :: rest) (hdg : decode c.code g.pc = .ok (.checkcast index, 3)) :
    ∃ T', Stand p l e R s m args below meth c T' locs cells slots ∧ T'.heap = T.heap ∧ ∀ target, Steps p.tables e below (T'.setTop { g with pc := g.pc + 3, stack := .ref a :: rest }) target → Steps p.tables e below (T.setTop g) target := by
  obtain ⟨cB, h1, D, h2, h3, h4⟩ := hE
  have h1' : s.vm.findClass C = some cB := by rw [← X.warmed.alike.findClass]; exact h1
  obtain ⟨vm', X', st⟩ := X.checkcastYes hexec hown hlink h2 h4 h1' (by rw [h3]; exact Jvm.Free.SB.assignable_self _ _) hg hstack hdg
  exact ⟨_, X', rfl, fun t h => st t (by rw [← hstack] at h; exact h)⟩
namespace SEq
def yN : MethodName := ⟨"java/lang/String", "equals", "(Ljava/lang/Object;)Z"⟩
abbrev yB : ByteArray := jdk_42_method_66_code
theorem d0 : decode yB 0 = .ok (.aload_n 0, 1) := by decide +kernel
theorem d1 : decode yB 1 = .ok (.aload_n 1, 1) := by decide +kernel
theorem d2 : decode yB 2 = .ok (.if_acmp (.ne) 5, 3) := by decide +kernel
theorem d5 : decode yB 5 = .ok (.iconst 1, 1) := by decide +kernel
theorem d6 : decode yB 6 = .ok (.ireturn, 1) := by decide +kernel
theorem d7 : decode yB 7 = .ok (.aload_n 1, 1) := by decide +kernel
theorem d8 : decode yB 8 = .ok (.instanceof 10, 3) := by decide +kernel
theorem d11 : decode yB 11 = .ok (.ifCond (.eq) 43, 3) := by decide +kernel
theorem d14 : decode yB 14 = .ok (.aload_n 1, 1) := by decide +kernel
theorem d15 : decode yB 15 = .ok (.checkcast 10, 3) := by decide +kernel
theorem d18 : decode yB 18 = .ok (.astore_n 2, 1) := by decide +kernel
theorem d19 : decode yB 19 = .ok (.getstatic 38, 3) := by decide +kernel
theorem d22 : decode yB 22 = .ok (.ifCond (.eq) 14, 3) := by decide +kernel
theorem d25 : decode yB 25 = .ok (.aload_n 0, 1) := by decide +kernel
theorem d26 : decode yB 26 = .ok (.getfield 15, 3) := by decide +kernel
theorem d29 : decode yB 29 = .ok (.aload_n 2, 1) := by decide +kernel
theorem d30 : decode yB 30 = .ok (.getfield 15, 3) := by decide +kernel
theorem d33 : decode yB 33 = .ok (.if_icmp (.ne) 21, 3) := by decide +kernel
theorem d36 : decode yB 36 = .ok (.aload_n 0, 1) := by decide +kernel
theorem d37 : decode yB 37 = .ok (.getfield 9, 3) := by decide +kernel
theorem d40 : decode yB 40 = .ok (.aload_n 2, 1) := by decide +kernel
theorem d41 : decode yB 41 = .ok (.getfield 9, 3) := by decide +kernel
theorem d44 : decode yB 44 = .ok (.invokestatic 541, 3) := by decide +kernel
theorem d47 : decode yB 47 = .ok (.ifCond (.eq) 7, 3) := by decide +kernel
theorem d50 : decode yB 50 = .ok (.iconst 1, 1) := by decide +kernel
theorem d51 : decode yB 51 = .ok (.goto 4, 3) := by decide +kernel
theorem d54 : decode yB 54 = .ok (.iconst 0, 1) := by decide +kernel
theorem d55 : decode yB 55 = .ok (.ireturn, 1) := by decide +kernel
def site : List Cond := [.classLink "java/lang/String" 10 "java/lang/String", .fieldLink "java/lang/String" 38 "java/lang/String" "COMPACT_STRINGS" "Z", .fieldLink "java/lang/String" 15 "java/lang/String" "coder" "B", .fieldLink "java/lang/String" 9 "java/lang/String" "value" "[B", LEq.tab] ++ staticW "java/lang/String" 541 LEq.yN
def tab : Cond := tabOf yN yB 3 (some .boolean) site
def P (x t : Addr) (V : Cell) (cd : Int32) (n : Nat) (f : Nat → Int32) (y t' : Addr) (V' : Cell) (cd' : Int32) (k : Nat) (g : Nat → Int32) (z : Int32) (args : Array Value) (s : State) : Prop := args = #[.ref x, .ref y] ∧ Txt x t V cd n f s ∧ Txt y t' V' cd' k g s ∧ StaticIs s "java/lang/String" "COMPACT_STRINGS" "Z" (.int z) ∧ ¬ z = 0
/-- equals(Object) of two Strings: whether the texts are the same -/
theorem law (l : Launch) (x t : Addr) (V : Cell) (cd : Int32) (n : Nat) (f : Nat → Int32) (y t' : Addr) (V' : Cell) (cd' : Int32) (k : Nat) (g : Nat → Int32) (z : Int32) : Law l yN 2 1 1 14 yB 3 (some .boolean) site (P x t V cd n f y t' V' cd' k g z) (Says01 (SameT n f k g)) [] 0 0 := by
  refine Law.of_walk (plainFor_of_name (by decide +kernel)) (by decide +kernel) (by decide +kernel) (by decide) (fun _ _ h => by rw [h.1]; rfl) (fun _ U U' hal hh h => ⟨h.1, h.2.1.mv hal hh, h.2.2.1.mv hal hh, h.2.2.2.1.there hal hh, h.2.2.2.2⟩) (fun r U U' V V' h1 hal h2 h => Says01.mv r U U' V V' h1 hal h2 h) ?_
  intro p e s m args below meth c s₁ X0 hexec hbytes hml hret hlk hnm hown hh0 W hP
  obtain ⟨rfl, hx, hy, s1, hz⟩ := hP
  have c1 : Steps p.tables e below (s₁.setTop (entryFrame m #[.ref x, .ref y] 3)) (s₁.setTop (mkF m 2 #[.val (.ref x), .val (.ref y), .unset] [.ref y, .ref x])) := Steps.trans (entry rfl) (by
    show Steps p.tables e below (s₁.setTop (mkF m 0 #[.val (.ref x), .val (.ref y), .unset] [])) _
    refine XS.aloadN X0.here hexec rfl (hb hbytes d0) rfl rfl ?_
    refine XS.aloadN X0.here hexec rfl (hb hbytes d1) rfl rfl ?_
    exact Steps.refl _)
  by_cases hxy : x = y
  · have c2 : Steps p.tables e below (s₁.setTop (entryFrame m #[.ref x, .ref y] 3)) (s₁.setTop (mkF m 6 #[.val (.ref x), .val (.ref y), .unset] [.int 1])) := c1.trans (by
      refine acmpNo X0.here hexec rfl (hb hbytes d2) rfl rfl rfl (by simp [acmp, hxy]) ?_
      refine iconstV X0.here hexec rfl 1 (hb hbytes d5) (by decide) ?_
      exact Steps.refl _)
    subst hxy
    have ec : cd = cd' := by
      obtain ⟨D, fd, a1, a2, a3⟩ := hx.2.2.1
      obtain ⟨D', fd', b1, b2, b3⟩ := hy.2.2.1
      cases a1.symm.trans b1
      obtain ⟨q1, q2, q3, q4⟩ := a2.1
      obtain ⟨r1, r2, r3, r4⟩ := b2.1
      cases q4.symm.trans r4
      cases a3.symm.trans b3; rfl
    have et : t = t' := by
      obtain ⟨D, fd, a1, a2, a3⟩ := hx.2.1
      obtain ⟨D', fd', b1, b2, b3⟩ := hy.2.1
      cases a1.symm.trans b1
      obtain ⟨q1, q2, q3, q4⟩ := a2.1
      obtain ⟨r1, r2, r3, r4⟩ := b2.1
      cases q4.symm.trans r4
      cases a3.symm.trans b3; rfl
    subst ec et
    have ev : V = V' := by cases hx.2.2.2.1.1.symm.trans hy.2.2.2.1.1; rfl
    subst ev
    have hs : SameT n f k g := (Cod.eqv hx.2.2.2.2.1 hy.2.2.2.2.1 hx.2.2.2.2.2 hy.2.2.2.2.2).mp ⟨rfl, fun _ _ => rfl⟩
    exact ⟨s₁, some (.int 1), _, _, _, X0, rfl, rfl, rfl, (fun h => by cases h), ⟨1, rfl, hh0, Or.inl ⟨rfl, hs⟩⟩, fun fs hl => c2.trans (X0.ireturnOut hexec hret rfl (Or.inr (Or.inl rfl)) (hb hbytes d6) hl)⟩
  · have c2 : Steps p.tables e below (s₁.setTop (entryFrame m #[.ref x, .ref y] 3)) (s₁.setTop (mkF m 8 #[.val (.ref x), .val (.ref y), .unset] [.ref y])) := c1.trans (by
      refine acmpYes X0.here hexec rfl (pc0 := 2) rfl (hb hbytes d2) rfl rfl rfl (by simp [acmp, hxy]) (by decide) rfl ?_
      refine XS.aloadN X0.here hexec rfl (hb hbytes d7) rfl rfl ?_
      exact Steps.refl _)
    obtain ⟨T3, X3, q3, st3⟩ := cinst X0 hexec hown (wk W (.classLink "java/lang/String" 10 "java/lang/String")) (hy.mv X0.warmed.alike hh0).1 (g := (mkF m 8 #[.val (.ref x), .val (.ref y), .unset] [.ref y])) rfl (rest := []) rfl (hb hbytes d8)
    have hh3 := q3.trans hh0
    have c4 : Steps p.tables e below (s₁.setTop (entryFrame m #[.ref x, .ref y] 3)) (T3.setTop (mkF m 15 #[.val (.ref x), .val (.ref y), .unset] [.ref y])) := (c2.trans (st3 _ (Steps.refl _))).trans (by
      refine XS.ifNo X3.here hexec rfl (hb hbytes d11) rfl (i0_eq_f (by decide)) ?_
      refine XS.aloadN X3.here hexec rfl (hb hbytes d14) rfl rfl ?_
      exact Steps.refl _)
    obtain ⟨T5, X5, q5, st5⟩ := cself X3 hexec hown (wk W (.classLink "java/lang/String" 10 "java/lang/String")) (hy.mv X3.warmed.alike hh3).1 (g := (mkF m 15 #[.val (.ref x), .val (.ref y), .unset] [.ref y])) rfl (rest := []) rfl (hb hbytes d15)
    have hh5 := q5.trans hh3
    have c6 : Steps p.tables e below (s₁.setTop (entryFrame m #[.ref x, .ref y] 3)) (T5.setTop (mkF m 19 #[.val (.ref x), .val (.ref y), .val (.ref y)] [])) := (c4.trans (st5 _ (Steps.refl _))).trans (by
      refine XS.astoreN X5.here hexec rfl (hb hbytes d18) rfl rfl rfl ?_
      exact Steps.refl _)
    obtain ⟨T7, X7, q7, st7⟩ := X5.sget hexec hown (wk W (.fieldLink "java/lang/String" 38 "java/lang/String" "COMPACT_STRINGS" "Z")) s1 (fun _ _ h => by rw [hh5]; exact h) (g := (mkF m 19 #[.val (.ref x), .val (.ref y), .val (.ref y)] [])) rfl (hb hbytes d19)
    have hh7 := q7.trans hh5
    have c8 : Steps p.tables e below (s₁.setTop (entryFrame m #[.ref x, .ref y] 3)) (T7.setTop (mkF m 26 #[.val (.ref x), .val (.ref y), .val (.ref y)] [.ref x])) := (c6.trans (st7 _ (Steps.refl _))).trans (by
      refine XS.ifNo X7.here hexec rfl (hb hbytes d22) rfl (i0_eq_f hz) ?_
      refine XS.aloadN X7.here hexec rfl (hb hbytes d25) rfl rfl ?_
      exact Steps.refl _)
    obtain ⟨T9, X9, q9, st9⟩ := X7.hget hexec hown (wk W (.fieldLink "java/lang/String" 15 "java/lang/String" "coder" "B")) (hx.mv X7.warmed.alike hh7).2.2.1 (g := (mkF m 26 #[.val (.ref x), .val (.ref y), .val (.ref y)] [.ref x])) rfl (rest := []) rfl (hb hbytes d26)
    have hh9 := q9.trans hh7
    have c10 : Steps p.tables e below (s₁.setTop (entryFrame m #[.ref x, .ref y] 3)) (T9.setTop (mkF m 30 #[.val (.ref x), .val (.ref y), .val (.ref y)] [.ref y, .int cd])) := (c8.trans (st9 _ (Steps.refl _))).trans (by
      refine XS.aloadN X9.here hexec rfl (hb hbytes d29) rfl rfl ?_
      exact Steps.refl _)
    obtain ⟨T11, X11, q11, st11⟩ := X9.hget hexec hown (wk W (.fieldLink "java/lang/String" 15 "java/lang/String" "coder" "B")) (hy.mv X9.warmed.alike hh9).2.2.1 (g := (mkF m 30 #[.val (.ref x), .val (.ref y), .val (.ref y)] [.ref y, .int cd])) rfl (rest := [.int cd]) rfl (hb hbytes d30)
    have hh11 := q11.trans hh9
    have c12 : Steps p.tables e below (s₁.setTop (entryFrame m #[.ref x, .ref y] 3)) (T11.setTop (mkF m 33 #[.val (.ref x), .val (.ref y), .val (.ref y)] [.int cd', .int cd])) := c10.trans (st11 _ (Steps.refl _))
    by_cases hcd : cd = cd'
    · subst hcd
      have c13 : Steps p.tables e below (s₁.setTop (entryFrame m #[.ref x, .ref y] 3)) (T11.setTop (mkF m 37 #[.val (.ref x), .val (.ref y), .val (.ref y)] [.ref x])) := c12.trans (by
        refine XS.icmpNo X11.here hexec rfl (hb hbytes d33) rfl (ii_ne_f rfl) ?_
        refine XS.aloadN X11.here hexec rfl (hb hbytes d36) rfl rfl ?_
        exact Steps.refl _)
      obtain ⟨T14, X14, q14, st14⟩ := X11.hget hexec hown (wk W (.fieldLink "java/lang/String" 9 "java/lang/String" "value" "[B")) (hx.mv X11.warmed.alike hh11).2.1 (g := (mkF m 37 #[.val (.ref x), .val (.ref y), .val (.ref y)] [.ref x])) rfl (rest := []) rfl (hb hbytes d37)
      have hh14 := q14.trans hh11
      have c15 : Steps p.tables e below (s₁.setTop (entryFrame m #[.ref x, .ref y] 3)) (T14.setTop (mkF m 41 #[.val (.ref x), .val (.ref y), .val (.ref y)] [.ref y, .ref t])) := (c13.trans (st14 _ (Steps.refl _))).trans (by
        refine XS.aloadN X14.here hexec rfl (hb hbytes d40) rfl rfl ?_
        exact Steps.refl _)
      obtain ⟨T16, X16, q16, st16⟩ := X14.hget hexec hown (wk W (.fieldLink "java/lang/String" 9 "java/lang/String" "value" "[B")) (hy.mv X14.warmed.alike hh14).2.1 (g := (mkF m 41 #[.val (.ref x), .val (.ref y), .val (.ref y)] [.ref y, .ref t])) rfl (rest := [.ref t]) rfl (hb hbytes d41)
      have hh16 := q16.trans hh14
      have c17 : Steps p.tables e below (s₁.setTop (entryFrame m #[.ref x, .ref y] 3)) (T16.setTop (mkF m 44 #[.val (.ref x), .val (.ref y), .val (.ref y)] [.ref t', .ref t])) := c15.trans (st16 _ (Steps.refl _))
      obtain ⟨v18, T18, X18, E18, g18⟩ := X16.callS hexec (LEq.law l t V t' V') hown (wks W (staticW "java/lang/String" 541 LEq.yN)) (wk W LEq.tab) (W := 0) (Nat.le_of_ble_eq_true rfl) (Nat.le_of_ble_eq_true rfl) (Nat.le_refl _) (Nat.le_refl _) (g := (mkF m 44 #[.val (.ref x), .val (.ref y), .val (.ref y)] [.ref t', .ref t])) rfl (by rw [hml]; rfl) c17 (argsL := [.ref t, .ref t']) (rest := []) rfl rfl (by show 2 * 0 + 0 ≤ _; decide) (hb hbytes d44) (⟨rfl, hx.2.2.2.1.mv X16.warmed.alike hh16, hx.2.2.2.2.1.ty, hy.2.2.2.1.mv X16.warmed.alike hh16, hy.2.2.2.2.1.ty⟩)
      obtain ⟨v, rfl, q18, hv⟩ := E18
      have iff := Cod.eqv hx.2.2.2.2.1 hy.2.2.2.2.1 hx.2.2.2.2.2 hy.2.2.2.2.2
      rcases hv with ⟨rfl, he⟩ | ⟨rfl, he⟩
      · have c19 : Steps p.tables e below (s₁.setTop (entryFrame m #[.ref x, .ref y] 3)) (T18.setTop (mkF m 55 #[.val (.ref x), .val (.ref y), .val (.ref y)] [.int 1])) := Steps.trans g18 (by
          refine XS.ifNo X18.here hexec rfl (hb hbytes d47) rfl (i0_eq_f (by decide)) ?_
          refine iconstV X18.here hexec rfl 1 (hb hbytes d50) (by decide) ?_
          refine XS.goto X18.here hexec rfl (pc0 := 51) rfl (hb hbytes d51) (by decide) rfl ?_
          exact Steps.refl _)
        exact ⟨T18, some (.int 1), _, _, _, X18, rfl, rfl, rfl, (fun h => by cases h), ⟨1, rfl, q18.trans hh16, Or.inl ⟨rfl, iff.mp he⟩⟩, fun fs hl => c19.trans (X18.ireturnOut hexec hret rfl (Or.inr (Or.inl rfl)) (hb hbytes d55) hl)⟩
      · have c19 : Steps p.tables e below (s₁.setTop (entryFrame m #[.ref x, .ref y] 3)) (T18.setTop (mkF m 55 #[.val (.ref x), .val (.ref y), .val (.ref y)] [.int 0])) := Steps.trans g18 (by
          refine XS.ifYes X18.here hexec rfl (pc0 := 47) rfl (hb hbytes d47) rfl (i0_eq_t rfl) (by decide) rfl ?_
          refine iconstV X18.here hexec rfl 0 (hb hbytes d54) (by decide) ?_
          exact Steps.refl _)
        exact ⟨T18, some (.int 0), _, _, _, X18, rfl, rfl, rfl, (fun h => by cases h), ⟨0, rfl, q18.trans hh16, Or.inr ⟨rfl, fun q => he (iff.mpr q)⟩⟩, fun fs hl => c19.trans (X18.ireturnOut hexec hret rfl (Or.inr (Or.inl rfl)) (hb hbytes d55) hl)⟩
    · have c13 : Steps p.tables e below (s₁.setTop (entryFrame m #[.ref x, .ref y] 3)) (T11.setTop (mkF m 55 #[.val (.ref x), .val (.ref y), .val (.ref y)] [.int 0])) := c12.trans (by
        refine XS.icmpYes X11.here hexec rfl (pc0 := 33) rfl (hb hbytes d33) rfl (ii_ne_t hcd) (by decide) rfl ?_
        refine iconstV X11.here hexec rfl 0 (hb hbytes d54) (by decide) ?_
        exact Steps.refl _)
      exact ⟨T11, some (.int 0), _, _, _, X11, rfl, rfl, rfl, (fun h => by cases h), ⟨0, rfl, hh11, Or.inr ⟨rfl, Cod.dif hx.2.2.2.2.1 hy.2.2.2.2.1 hcd⟩⟩, fun fs hl => c13.trans (X11.ireturnOut hexec hret rfl (Or.inr (Or.inl rfl)) (hb hbytes d55) hl)⟩
theorem pays {l : Launch} {R : Room} {p : Program} {e : Env} {below : List Frame} {s : State} {sargs : Array Value} {len W : Nat} (x t : Addr) (V : Cell) (cd : Int32) (n : Nat) (f : Nat → Int32) (y t' : Addr) (V' : Cell) (cd' : Int32) (k : Nat) (g : Nat → Int32) (z : Int32) (htab : tab.before sargs s = true) (hfr : 2 ≤ R.frames) (hlo : W + 28 ≤ R.locals) :
    Back l R p e below s sargs yN len W (fun A₁ a₁ => A₁.cells + 0 ≤ R.cells ∧ A₁.slots + 0 ≤ R.slots ∧ P x t V cd n f y t' V' cd' k g z a₁ A₁.U) (fun A₁ _ v₁ B₁ => Says01 (SameT n f k g) v₁ A₁.U B₁.U ∧ B₁.locs = A₁.locs ++ [] ∧ B₁.cells = A₁.cells + 0 ∧ B₁.slots = A₁.slots + 0) :=
  (law l x t V cd n f y t' V' cd' k g z).pays htab hfr (by omega)
end SEq
end StrChars
namespace StrChars.Road
open Jvm Sem ClassFile Op Lib Jvm.Stand Jvm.Free Jvm.Free.XT
open Jvm.Lib.Cold (StaticIs)
/-- the words of String.equals(Object) -/
abbrev wordsEq : List Jvm.Cond := [.code SEq.yN SEq.yB 3 (some .boolean), .initialized ST, .classLink ST 10 ST, .fieldLink ST 38 ST "COMPACT_STRINGS" "Z", .fieldLink ST 15 ST "coder" "B", .fieldLink ST 9 ST "value" "[B", .methodLink ST 541 LEq.yN, .static LEq.yN, .code LEq.yN LEq.yB 3 (some .boolean), .initialized "java/lang/StringLatin1"]
theorem tabEq_of {a : Array Value} {s : State} (h : ∀ w ∈ wordsEq, w.before a s = true) : SEq.tab.before a s = true := by
  have hl : LEq.tab.before a s = true := unparts (wk h (.code LEq.yN LEq.yB 3 (some .boolean))) (wks h (.initialized LEq.yN.cls :: LEq.site))
  have q := consq hl h
  exact unparts (wk q (.code SEq.yN SEq.yB 3 (some .boolean))) (wks q (.initialized SEq.yN.cls :: SEq.site))
theorem movedEq {Z s : State} {a0 args : Array Value} (hZ : Z.Warmed39 s.vm) (hw : ∀ d ∈ wordsEq, d.before a0 Z = true) : ∀ d ∈ wordsEq, d.before args s = true := fun d hd => by
  have t : ∀ d ∈ wordsEq, (d.onTables && d.keepsFace) = true := by decide +kernel
  exact RoadKit.mv hZ (hw d hd) (t d hd)
/-- the road's facts of a String, as the laws ask it -/
theorem txt_of {Z U : State} {a0 : Array Value} {kI : Nat} (wi : (Jvm.Cond.instantiable ST kI).before a0 Z = true) (al : Z.vm.Alike U.vm) {x t : Addr} {kb : ClassId} {cs : List Int32} {cd N2 : Int32} {vs : List Value} (E : RoadKit.Exa Z U.heap x ST) (V : RoadKit.Fld Z U.heap x ST "value" "[B" (.ref t)) (C : RoadKit.Fld Z U.heap x ST "coder" "B" (.int cd)) (K : RoadKit.Arv Z U.heap t kb .byte N2 vs (.int 0)) (hc : CodA cs cd N2 vs) (hb : ∀ c ∈ cs, ¬ c < 0 ∧ ¬ (65535 : Int32) < c) (l2 : cs.length ≤ 4000) :
    ∃ A, Txt x t A cd cs.length (fun j => cs.getD j 0) U := by
  obtain ⟨A, K1, K2, K3, K4, K5, K6⟩ := K
  have hcod := hc.cod (by omega) K3 K5
  obtain ⟨D, fV, fC, hB, F1, F2, g1, g2, -, -⟩ := strObj wi al E V C
  exact ⟨A, ⟨_, hB.2.2.1, D, hB.1, rfl, by cases q : D.vm <;> first | rfl | exact absurd q (hB.2.1.2 _)⟩, Has.of hB F1 g1, Has.of hB F2 g2, ⟨K1.1, State.isArrayOf_alike al K1.2.1, K1.2.2, by rcases hcod with ⟨-, q, -⟩ | ⟨-, q, -⟩ <;> omega⟩, hcod, fun j hj => by
    have e : cs.getD j 0 = cs[j] := by simp [List.getD_eq_getElem?_getD, hj]
    show ¬ cs.getD j 0 < 0 ∧ ¬ 65535 < cs.getD j 0
    rw [e]; exact hb _ (List.getElem_mem _)⟩
theorem same_list (cs ds : List Int32) : SameT cs.length (fun j => cs.getD j 0) ds.length (fun j => ds.getD j 0) ↔ cs = ds := by
  constructor
  · rintro ⟨e, q⟩
    refine List.ext_getElem e fun j h1 h2 => ?_
    have := q j h1
    simpa [List.getD_eq_getElem?_getD, h1, h2] using this
  · rintro rfl
    exact ⟨rfl, fun _ _ => rfl⟩
/-- **equals(Object) OF TWO SUCH STRINGS**: 1 just where the chars are the same -/
theorem eqW {p : Program} {l : Launch} {e : Env} {R : Room} {s : State} {args : Array Value} {below : List Frame} {len W : Nat} {Z : State} {a0 : Array Value} {h : Heap} (hZ : Z.Warmed39 s.vm) (hw : ∀ d ∈ wordsEq, d.before a0 Z = true) {kI : Nat} (wi : (Jvm.Cond.instantiable ST kI).before a0 Z = true)
    {x t : Addr} {kb : ClassId} {cs : List Int32} {cd N2 : Int32} {vs : List Value} (E : RoadKit.Exa Z h x ST) (V : RoadKit.Fld Z h x ST "value" "[B" (.ref t)) (C : RoadKit.Fld Z h x ST "coder" "B" (.int cd)) (K : RoadKit.Arv Z h t kb .byte N2 vs (.int 0)) (hc : CodA cs cd N2 vs) (hb : ∀ c ∈ cs, ¬ c < 0 ∧ ¬ (65535 : Int32) < c) (l2 : cs.length ≤ 4000)
    {y t' : Addr} {kb' : ClassId} {ds : List Int32} {cd' N2' : Int32} {vs' : List Value} (E' : RoadKit.Exa Z h y ST) (V' : RoadKit.Fld Z h y ST "value" "[B" (.ref t')) (C' : RoadKit.Fld Z h y ST "coder" "B" (.int cd')) (K' : RoadKit.Arv Z h t' kb' .byte N2' vs' (.int 0)) (hc' : CodA ds cd' N2' vs') (hb' : ∀ c ∈ ds, ¬ c < 0 ∧ ¬ (65535 : Int32) < c) (l2' : ds.length ≤ 4000)
    {z : Int32} (S : RoadKit.Sta Z h ST "COMPACT_STRINGS" "Z" (.int z)) (hz : ¬ z = 0) (hfr : 2 ≤ R.frames) (hlo : W + 28 ≤ R.locals) :
    Back l R p e below s args (⟨"java/lang/String", "equals", "(Ljava/lang/Object;)Z"⟩ : MethodName) len W (fun P a => a = #[.ref x, .ref y] ∧ P.U.heap = h ∧ P.cells + 0 ≤ R.cells ∧ P.slots + 0 ≤ R.slots)
      (fun P _ v B => ∃ L, (((v = some (.int 1) ∧ cs = ds) ∨ (v = some (.int 0) ∧ ¬ cs = ds)) ∧ L = [] ∧ B.U.heap = h) ∧ B.locs = P.locs ++ L ∧ B.cells = P.cells + 0 ∧ B.slots = P.slots + 0) := by
  intro m meth c P g ig mk a X hg hsize hdg hW hn hp'
  obtain ⟨rfl, rfl, r1, r2⟩ := hp'
  have al : Z.vm.Alike P.U.vm := hZ.alike.trans X.warmed.alike
  obtain ⟨A, hx⟩ := txt_of wi al E V C K hc hb l2
  obtain ⟨A', hy⟩ := txt_of wi al E' V' C' K' hc' hb' l2'
  obtain ⟨v, B, X', ⟨⟨w, hv, hh, hq⟩, hl, hk, hs⟩, st⟩ := SEq.pays x t A cd cs.length (fun j => cs.getD j 0) y t' A' cd' ds.length (fun j => ds.getD j 0) z (tabEq_of (movedEq hZ hw)) hfr hlo m meth c P g ig mk _ X hg hsize hdg hW hn ⟨r1, r2, rfl, hx, hy, sta_is al S, hz⟩
  refine ⟨v, B, X', ⟨[], ⟨?_, rfl, hh⟩, hl, hk, hs⟩, st⟩
  rcases hq with ⟨rfl, q⟩ | ⟨rfl, q⟩
  · exact Or.inl ⟨hv, (same_list cs ds).mp q⟩
  · exact Or.inr ⟨hv, fun e => q ((same_list cs ds).mpr e)⟩
end StrChars.Road
namespace StrChars.Road
open Jvm Sem ClassFile Op Lib Jvm.Stand Jvm.Free Jvm.Free.XT
open Jvm.Lib.Cold (StaticIs)
/-- what backV says of its String, as the contracts of this text ask it: cs's low bytes, coder 0 -/
theorem codOf {cs : List Int32} {n : Nat} (hn : cs.length = n) (hb : ∀ c ∈ cs, ¬ 255 < c) : CodA cs 0 (Int32.ofNat n) ((cs.map lo8).map Value.int) := Or.inl ⟨rfl, by rw [hn], by simp [List.map_map, Function.comp_def], hb⟩
end StrChars.Road
end Jvm.Pilot.@@N@@

namespace Jvm.Pilot.@@N@@
open Jvm Jvm.ClassFile Sem Op Lib Jvm.Free Jvm.Stand Jvm.LawKit Jvm.RoadKit Bundle Jvm.Pilot.@@N@@.Jvm.D
section OwnHead
variable {p : Program} {l : Launch} {e : Env} {R : Room} {s : State} {m : MethodId} {args : Array Value} {below : List Frame} {meth : Method} {c : Code} {T T' : State} {locs : List Loc} {cells slots : Nat} {Q : Option Value → Heap → List Loc → Prop} {k n : Nat} {g : JFrame}
/-- from here (the state T, the frame g on top) the call comes to its end, and the end is as Fin says -/
def own_E (p : Program) (e : Env) (below : List Frame) (Fin : Outcome → State → Prop) (T : State) (g : JFrame) : Prop :=
  ∃ s₂ o, Steps p.tables e below (T.setTop g) s₂ ∧ s₂.status = .running ∧ Ended s₂ below o ∧ Fin o s₂
/-- the end of a body that interns nothing: what it returns, the heap and the places written as Q says, within k cells and n slots -/
def own_Fin (s : State) (Q : Option Value → Heap → List Loc → Prop) (k n : Nat) (o : Outcome) (t : State) : Prop := ∃ v L, o = .returned v ∧ Q v t.heap L ∧ FrameEnd s o t L k n
theorem own_start {Fin : Outcome → State → Prop} (h : own_E p e below Fin T g) : ∃ s₂ o, Steps p.tables e below (T.setTop g) s₂ ∧ s₂.status = .running ∧ Ended s₂ below o ∧ Fin o s₂ := h
theorem own_from {Fin : Outcome → State → Prop} (g' : JFrame) (h : ∀ {t}, Steps p.tables e below (T.setTop g') t → Steps p.tables e below (T.setTop g) t) (w : own_E p e below Fin T g') : own_E p e below Fin T g := by
  obtain ⟨s₂, o, h1, r⟩ := w; exact ⟨s₂, o, h h1, r⟩
theorem own_to {Fin : Outcome → State → Prop} (g' : JFrame) (h : ∀ t, Steps p.tables e below (T'.setTop g') t → Steps p.tables e below (T.setTop g) t) (w : own_E p e below Fin T' g') : own_E p e below Fin T g := by
  obtain ⟨s₂, o, h1, r⟩ := w; exact ⟨s₂, o, h _ h1, r⟩
theorem own_via {Fin : Outcome → State → Prop} (g' : JFrame) (h : Steps p.tables e below (T.setTop g) (T'.setTop g')) (w : own_E p e below Fin T' g') : own_E p e below Fin T g := by
  obtain ⟨s₂, o, h1, r⟩ := w; exact ⟨s₂, o, h.trans h1, r⟩
theorem own_end {v : Option Value} {pc : Nat} {Ls : Array Slot} {st : List Value} (X : Stand p l e R s m args below meth c T locs cells slots) (hv : meth.sig.returnType = none → v = none) (hlk : meth.locks = false) (hk : cells ≤ k) (hn : slots ≤ n) (hQ : Q v T.heap locs)
    (hs : ∀ fs, (∀ (f : JFrame) (acts : List Action), f.method = m → f.locked = none → f.entered = [] → (doReturn e (T.setTop f) acts v).1 = T.setFrames fs) → Steps p.tables e below (T.setTop (mkF m pc Ls st)) (T.setFrames fs)) : own_E p e below (own_Fin s Q k n) T (mkF m pc Ls st) := by
  obtain ⟨fs, hr, hrun, hended, hW, hsame⟩ := X.leave (v := v) hv hlk
  exact ⟨_, _, hs fs hr, hrun, hended, _, _, rfl, hQ, ⟨_, rfl⟩, hW, hsame.mono hk hn⟩
theorem own_retN (X : Stand p l e R s m args below meth c T locs cells slots) (hx : p.tables.exec = Jvm.exec) {pc : Nat} {Ls : Array Slot} {z : Int32} {t : FieldType} {rest : List Value} (hret : meth.sig.returnType = some t) (ht : t = .boolean ∨ t = .byte ∨ t = .char ∨ t = .short) (hlk : meth.locks = false)
    (hd : decode c.code pc = .ok (.ireturn, 1)) (hk : cells ≤ k) (hn : slots ≤ n) (hQ : Q (some (.int (nar t z))) T.heap locs) : own_E p e below (own_Fin s Q k n) T (mkF m pc Ls (.int z :: rest)) :=
  own_end X (fun h => by rw [hret] at h; cases h) hlk hk hn hQ fun _ hr => retN X hx hret ht hd hr
theorem own_retI (X : Stand p l e R s m args below meth c T locs cells slots) (hx : p.tables.exec = Jvm.exec) {pc : Nat} {Ls : Array Slot} {z : Int32} {rest : List Value} (hret : meth.sig.returnType = some .int) (hlk : meth.locks = false)
    (hd : decode c.code pc = .ok (.ireturn, 1)) (hk : cells ≤ k) (hn : slots ≤ n) (hQ : Q (some (.int z)) T.heap locs) : own_E p e below (own_Fin s Q k n) T (mkF m pc Ls (.int z :: rest)) :=
  own_end X (fun h => by rw [hret] at h; cases h) hlk hk hn hQ fun _ hr => retOut X hx hret rfl (Or.inl ⟨rfl, Or.inl rfl, _, rfl⟩) hd hr
theorem own_retJ (X : Stand p l e R s m args below meth c T locs cells slots) (hx : p.tables.exec = Jvm.exec) {pc : Nat} {Ls : Array Slot} {z : Int64} {rest : List Value} (hret : meth.sig.returnType = some .long) (hlk : meth.locks = false)
    (hd : decode c.code pc = .ok (.lreturn, 1)) (hk : cells ≤ k) (hn : slots ≤ n) (hQ : Q (some (.long z)) T.heap locs) : own_E p e below (own_Fin s Q k n) T (mkF m pc Ls (.long z :: rest)) :=
  own_end X (fun h => by rw [hret] at h; cases h) hlk hk hn hQ fun _ hr => retOut X hx hret rfl (Or.inr (Or.inl ⟨rfl, rfl, _, rfl⟩)) hd hr
theorem own_retA (X : Stand p l e R s m args below meth c T locs cells slots) (hx : p.tables.exec = Jvm.exec) {pc : Nat} {Ls : Array Slot} {w : Value} {t : FieldType} {rest : List Value} (hret : meth.sig.returnType = some t) (ht : t.isReference = true) (hlk : meth.locks = false)
    (hd : decode c.code pc = .ok (.areturn, 1)) (hw : w.isRef = true) (hk : cells ≤ k) (hn : slots ≤ n) (hQ : Q (some w) T.heap locs) : own_E p e below (own_Fin s Q k n) T (mkF m pc Ls (w :: rest)) :=
  own_end X (fun h => by rw [hret] at h; cases h) hlk hk hn hQ fun _ hr => retOut X hx hret (by cases t <;> first | rfl | cases ht) (Or.inr (Or.inr (Or.inr (Or.inr ⟨rfl, ht, hw⟩)))) hd hr
theorem own_ret0 (X : Stand p l e R s m args below meth c T locs cells slots) (hx : p.tables.exec = Jvm.exec) {pc : Nat} {Ls : Array Slot} (hret : meth.sig.returnType = none) (hlk : meth.locks = false)
    (hd : decode c.code pc = .ok (.return_, 1)) (hk : cells ≤ k) (hn : slots ≤ n) (hQ : Q none T.heap locs) : own_E p e below (own_Fin s Q k n) T (mkF m pc Ls []) :=
  own_end X (fun _ => rfl) hlk hk hn hQ fun _ hr => X.returnOut hx hret hd hr
theorem own_b8 (y : Int32) : y.toInt8.toInt32.toInt8.toInt32 = y.toInt8.toInt32 := by
  have a := c_i2b y
  have b := c_i2b y.toInt8.toInt32
  rw [← Int32.toInt_inj]; omega
theorem own_01 {C : Prop} {d : Int32} (h1 : C → d = (0 : Int32)) (h2 : ¬ C → d = (1 : Int32)) : d = 0 ∨ d = 1 := (Classical.em C).elim (fun q => Or.inl (h1 q)) (fun q => Or.inr (h2 q))
theorem own_irr (x : Int32) : ¬ x < x := Int32.lt_irrefl
end OwnHead
section OwnWords
variable {args : Array Value} {s : State} {t : Term} {C n d : String} {a : Addr}
theorem own_fldI {k : Int32} (ht : t.eval args s none [] s = some (.ref a)) (h : (Jvm.Cond.eq (Term.field t C n d) (Term.int k)).value args s none s [] = some true) : Fld s s.heap a C n d (.int k) := by
  obtain ⟨x, y, e1, e2, -, k2⟩ := cmp_v (Or.inl h)
  have q : y = .int k := Option.some.inj (e2.symm.trans (Term.int_eval k))
  subst q
  obtain ⟨z, rfl⟩ := k2
  have q := gotT (Cond.eq_ints e1 (Term.int_eval k)) h
  subst q
  exact Fld.start ((fld_at ht).symm.trans e1)
theorem own_fldJ {k : Int64} (ht : t.eval args s none [] s = some (.ref a)) (h : (Jvm.Cond.eq (Term.field t C n d) (Term.long k)).value args s none s [] = some true) : Fld s s.heap a C n d (.long k) := by
  obtain ⟨x, y, e1, e2, -, k2⟩ := cmp_v (Or.inl h)
  have q : y = .long k := Option.some.inj (e2.symm.trans (long_at k))
  subst q
  obtain ⟨z, rfl⟩ := k2
  have q := gotT (eq_L e1 (long_at k)) h
  subst q
  exact Fld.start ((fld_at ht).symm.trans e1)
end OwnWords
section OwnWide
variable {p : Program} {l : Launch} {e : Env} {R : Room} {s : State} {m : MethodId} {args : Array Value} {below : List Frame} {meth : Method} {c : Code} {T T' : State} {locs : List Loc} {cells slots : Nat} {Q : Option Value → Heap → List Loc → Prop} {k n : Nat} {g : JFrame} {vm₁ : Vm} {k1 : Nat}
/-- the end of a law that may have interned a String constant -/
def own_FinW (s : State) (Q : Option Value → Heap → List Loc → Prop) (k n : Nat) (o : Outcome) (t : State) : Prop := ∃ v L, o = .returned v ∧ Q v t.heap L ∧ ReturnedEndW s o t L k n
theorem own_endW {v : Option Value} {pc : Nat} {Ls : Array Slot} {st : List Value} (X : Stand p l e R (s.setVm vm₁) m args below meth c T locs cells slots) (hS : s.Since vm₁ k1) (hk1 : k1 ≤ T.heap.size) (hv : meth.sig.returnType = none → v = none) (hlk : meth.locks = false) (hk : cells ≤ k) (hn : slots ≤ n) (hQ : Q v T.heap locs)
    (hs : ∀ fs, (∀ (f : JFrame) (acts : List Action), f.method = m → f.locked = none → f.entered = [] → (doReturn e (T.setTop f) acts v).1 = T.setFrames fs) → Steps p.tables e below (T.setTop (mkF m pc Ls st)) (T.setFrames fs)) : own_E p e below (own_FinW s Q k n) T (mkF m pc Ls st) := by
  obtain ⟨fs, hr, hrun, hended, h1, h2, h3, h4⟩ := X.leaveW hS hk1 (v := v) hv hlk
  exact ⟨_, _, hs fs hr, hrun, hended, _, _, rfl, hQ, h1, h2, h3, h4.mono hk hn⟩
theorem own_retNW (X : Stand p l e R (s.setVm vm₁) m args below meth c T locs cells slots) (hS : s.Since vm₁ k1) (hk1 : k1 ≤ T.heap.size) (hx : p.tables.exec = Jvm.exec) {pc : Nat} {Ls : Array Slot} {z : Int32} {t : FieldType} {rest : List Value} (hret : meth.sig.returnType = some t) (ht : t = .boolean ∨ t = .byte ∨ t = .char ∨ t = .short) (hlk : meth.locks = false)
    (hd : decode c.code pc = .ok (.ireturn, 1)) (hk : cells ≤ k) (hn : slots ≤ n) (hQ : Q (some (.int (nar t z))) T.heap locs) : own_E p e below (own_FinW s Q k n) T (mkF m pc Ls (.int z :: rest)) :=
  own_endW X hS hk1 (fun h => by rw [hret] at h; cases h) hlk hk hn hQ fun _ hr => retN X hx hret ht hd hr
end OwnWide
section OwnCalls
variable {p : Program} {l : Launch} {e : Env} {R : Room} {s : State} {m : MethodId} {args : Array Value} {below : List Frame} {meth : Method} {c : Code} {T : State} {locs : List Loc} {cells slots : Nat}
/-- a static call, handed back with the sums in it -/
theorem own_callS (X : Stand p l e R s m args below meth c T locs cells slots) (hexec : p.tables.exec = Jvm.exec) {own : String} {index : Nat} {y : MethodName} {bytes : ByteArray} {maxL : Nat} {ret : Option FieldType}
    (hown : s.vm.findClass own = some m.cls) (hlink : (Jvm.Cond.methodLink own index y).before args s = true) (hstat : (Jvm.Cond.static y).before args s = true) (hinit : (Jvm.Cond.initialized y.cls).before args s = true)
    (hcode : (Jvm.Cond.code y bytes maxL ret).before args s = true) (hy : y.cls ≠ "java/lang/invoke/MethodHandle" ∧ y.cls ≠ "java/lang/invoke/VarHandle")
    {W : Nat} {as' : Array Value} {h : Heap} {rc rs : Nat} {Q : Option Value → Heap → List Loc → Prop} (hK : Back l R p e below s args y 3 W (fun A a => a = as' ∧ A.U.heap = h ∧ A.cells + rc ≤ R.cells ∧ A.slots + rs ≤ R.slots) (fun A _ v B => ∃ L, Q v B.U.heap L ∧ B.locs = A.locs ++ L ∧ B.cells = A.cells + rc ∧ B.slots = A.slots + rs))
    {g : JFrame} (hg : g.method = m) (hsize : g.locals.size = c.maxLocals) {argsL rest : List Value} (hlen : ∀ sig, parseMethodDescriptor y.desc = some sig → argsL.length = sig.parameters.length)
    (hstack : g.stack = argsL.reverse ++ rest) (hW : 2 * g.monitorRoom + (rest.map fun v => v.category).sum ≤ W) (hdg : decode c.code g.pc = .ok (.invokestatic index, 3))
    (ha : argsL.toArray = as') (eT : T.heap = h) {kc ks : Nat} (hkc : cells + rc = kc) (hks : slots + rs = ks) (hc : kc ≤ R.cells) (hs : ks ≤ R.slots) :
    ∃ (v : Option Value) (T' : State) (Lc : List Loc), Stand p l e R s m args below meth c T' (locs ++ Lc) kc ks ∧ Q v T'.heap Lc ∧ ∀ target, Steps p.tables e below (T'.setTop { g with pc := g.pc + 3, stack := v.toList ++ rest }) target → Steps p.tables e below (T.setTop g) target := by
  subst hkc hks
  obtain ⟨v, vm₁, ⟨T', L', k', n'⟩, -, X', ⟨Lc, hQ, l', y', z'⟩, st⟩ := Jvm.LawKit.callS X hexec hown hlink hstat hinit hcode hy hK hg hsize hlen hstack hW hdg (fun _ _ => ⟨ha, eT, hc, hs⟩)
  dsimp only [Pt.U, Pt.locs, Pt.cells, Pt.slots] at X' l' y' z' st hQ
  subst l' y' z'
  exact ⟨v, T', Lc, X', hQ, st⟩
theorem own_special (X : Stand p l e R s m args below meth c T locs cells slots) (hexec : p.tables.exec = Jvm.exec) {own : String} {index : Nat} {y : MethodName} (hy1 : y.name = "<init>")
    (hown : s.vm.findClass own = some m.cls) (hlink : (Jvm.Cond.methodLink own index y).before args s = true) (hinst : (Jvm.Cond.instanceMethod y).before args s = true)
    {bytes : ByteArray} {maxL : Nat} (hcode : (Jvm.Cond.code y bytes maxL none).before args s = true) (hy : y.cls ≠ "java/lang/invoke/MethodHandle" ∧ y.cls ≠ "java/lang/invoke/VarHandle")
    {W : Nat} {as' : Array Value} {h : Heap} {rc rs : Nat} {Q : Option Value → Heap → List Loc → Prop} (hK : Back l R p e below s args y 3 W (fun A a => a = as' ∧ A.U.heap = h ∧ A.cells + rc ≤ R.cells ∧ A.slots + rs ≤ R.slots) (fun A _ v B => ∃ L, Q v B.U.heap L ∧ B.locs = A.locs ++ L ∧ B.cells = A.cells + rc ∧ B.slots = A.slots + rs))
    {g : JFrame} (hg : g.method = m) (hsize : g.locals.size = c.maxLocals) {a : Addr} {argsL rest : List Value}
    (hlen : ∀ sig, parseMethodDescriptor y.desc = some sig → argsL.length = sig.parameters.length) (hstack : g.stack = argsL.reverse ++ .ref a :: rest) (hW : 2 * g.monitorRoom + (rest.map fun v => v.category).sum ≤ W)
    (hdg : decode c.code g.pc = .ok (.invokespecial index, 3)) (ha : (Value.ref a :: argsL).toArray = as') (eT : T.heap = h) {kc ks : Nat} (hkc : cells + rc = kc) (hks : slots + rs = ks) (hc : kc ≤ R.cells) (hs : ks ≤ R.slots) :
    ∃ (v : Option Value) (T' : State) (Lc : List Loc), Stand p l e R s m args below meth c T' (locs ++ Lc) kc ks ∧ Q v T'.heap Lc ∧ Steps p.tables e below (T.setTop g) (T'.setTop { g with pc := g.pc + 3, stack := v.toList ++ rest }) := by
  subst hkc hks
  obtain ⟨v, vm₁, ⟨T', L', k', n'⟩, -, X', ⟨Lc, hQ, l', y', z'⟩, st⟩ := X.specialBack hexec hy1 hown hlink hinst hcode hy hK hg hsize (Steps.refl _) hlen hstack hW hdg (fun _ _ => ⟨ha, eT, hc, hs⟩)
  dsimp only [Pt.U, Pt.locs, Pt.cells, Pt.slots] at X' l' y' z' st hQ
  subst l' y' z'
  exact ⟨v, T', Lc, X', hQ, st⟩
theorem own_virtual (X : Stand p l e R s m args below meth c T locs cells slots) (hexec : p.tables.exec = Jvm.exec) {own C : String} {index : Nat} {y z : MethodName}
    (hown : s.vm.findClass own = some m.cls) (hlink : (Jvm.Cond.methodLink own index y).before args s = true) (hdecl : (Jvm.Cond.declares y).before args s = true) (hnf : NotFace s y)
    (hsel : (Jvm.Cond.selects C y z).before args s = true) (hinst : (Jvm.Cond.instanceMethod z).before args s = true) (hy : y.cls ≠ "java/lang/invoke/MethodHandle" ∧ y.cls ≠ "java/lang/invoke/VarHandle")
    {W : Nat} {as' : Array Value} {h : Heap} {rc rs : Nat} {Q : Option Value → Heap → List Loc → Prop} (hK : Back l R p e below s args z 3 W (fun A a => a = as' ∧ A.U.heap = h ∧ A.cells + rc ≤ R.cells ∧ A.slots + rs ≤ R.slots) (fun A _ v B => ∃ L, Q v B.U.heap L ∧ B.locs = A.locs ++ L ∧ B.cells = A.cells + rc ∧ B.slots = A.slots + rs))
    {b : Addr} {cB : ClassId} (hcB : s.vm.findClass C = some cB) (hrecv : IsOf cB T b)
    {g : JFrame} (hg : g.method = m) (hsize : g.locals.size = c.maxLocals) {argsL rest : List Value}
    (hlen : ∀ sig, parseMethodDescriptor y.desc = some sig → argsL.length = sig.parameters.length) (hstack : g.stack = argsL.reverse ++ .ref b :: rest) (hW : 2 * g.monitorRoom + (rest.map fun v => v.category).sum ≤ W)
    (hdg : decode c.code g.pc = .ok (.invokevirtual index, 3)) (ha : (Value.ref b :: argsL).toArray = as') (eT : T.heap = h) {kc ks : Nat} (hkc : cells + rc = kc) (hks : slots + rs = ks) (hc : kc ≤ R.cells) (hs : ks ≤ R.slots) :
    ∃ (v : Option Value) (T' : State) (Lc : List Loc), Stand p l e R s m args below meth c T' (locs ++ Lc) kc ks ∧ Q v T'.heap Lc ∧ Steps p.tables e below (T.setTop g) (T'.setTop { g with pc := g.pc + 3, stack := v.toList ++ rest }) := by
  subst hkc hks
  obtain ⟨v, vm₁, ⟨T', L', k', n'⟩, -, X', ⟨Lc, hQ, l', y', z'⟩, st⟩ := X.virtualBack hexec hown hlink hdecl hnf hsel hinst hy hK hcB hrecv hg hsize (Steps.refl _) hlen hstack hW hdg (fun _ _ => ⟨ha, eT, hc, hs⟩)
  dsimp only [Pt.U, Pt.locs, Pt.cells, Pt.slots] at X' l' y' z' st hQ
  subst l' y' z'
  exact ⟨v, T', Lc, X', hQ, st⟩
end OwnCalls
/-- a body's contract: called with A at the heap h0, it returns, and Q says what and how -/
abbrev own_MF (l : Launch) (y : MethodName) (cs : List Jvm.Cond) (R : Room) (A : Array Value) (Z : State) (h0 : Heap) (Q : Option Value → Heap → List Loc → Prop) : Prop :=
  MetFree l y (head1 cs R) (fun aa_ U => aa_ = A ∧ Z.Warmed39 U.vm ∧ U.heap = h0) (fun _ _ _ _ _ => True) (fun _ U o U' => ∃ v L, o = .returned v ∧ Q v U'.heap L ∧ FrameEnd U o U' L R.cells R.slots)
section OwnStep
variable {p : Program} {l : Launch} {e : Env} {R : Room} {s : State} {m : MethodId} {args : Array Value} {below : List Frame} {meth : Method} {c : Code} {T : State} {locs : List Loc} {cells slots : Nat} {Fn : Outcome → State → Prop} {pc : Nat} {L : Array Slot} {st : List Value} {k : Nat} {kn : Fin 4} {x y z : Int32} {a : Value} {i o : Int} {cd : ClassFile.Cond}

theorem own_w {Z : State} {a0 : Array Value} {d : Jvm.Cond} (hw : ∀ d ∈ tables_1, d.before a0 Z = true) (i : Nat) (h : tables_1[i]? = some d) : d.before a0 Z = true := hw _ (List.mem_of_getElem? h)
theorem own_il (q : Nat)  (X : Stand p l e R s m args below meth c T locs cells slots) (hx : p.tables.exec = Jvm.exec) (hd : decode c.code pc = .ok (.iload k, 2)) (hl : L[k]? = some (.val (.int x))) (hq : pc + 2 = q) (w : own_E p e below Fn T (mkF m q L (.int x :: st))) : own_E p e below Fn T (mkF m pc L st) := by
  subst hq; exact own_to (T' := T) (mkF m (pc + 2) L (.int x :: st)) (fun _ j => XS.iload X.here hx rfl hd hl j) w
theorem own_iln (q : Nat)  (X : Stand p l e R s m args below meth c T locs cells slots) (hx : p.tables.exec = Jvm.exec) (hd : decode c.code pc = .ok (.iload_n kn, 1)) (hl : L[kn.val]? = some (.val (.int x))) (hq : pc + 1 = q) (w : own_E p e below Fn T (mkF m q L (.int x :: st))) : own_E p e below Fn T (mkF m pc L st) := by
  subst hq; exact own_to (T' := T) (mkF m (pc + 1) L (.int x :: st)) (fun _ j => XS.iloadN X.here hx rfl hd hl j) w
theorem own_al (q : Nat)  (X : Stand p l e R s m args below meth c T locs cells slots) (hx : p.tables.exec = Jvm.exec) (hd : decode c.code pc = .ok (.aload k, 2)) (hl : L[k]? = some (.val a)) (hv : a.isRef = true) (hq : pc + 2 = q) (w : own_E p e below Fn T (mkF m q L (a :: st))) : own_E p e below Fn T (mkF m pc L st) := by
  subst hq; exact own_to (T' := T) (mkF m (pc + 2) L (a :: st)) (fun _ j => XS.aload X.here hx rfl hd hl hv j) w
theorem own_aln (q : Nat)  (X : Stand p l e R s m args below meth c T locs cells slots) (hx : p.tables.exec = Jvm.exec) (hd : decode c.code pc = .ok (.aload_n kn, 1)) (hl : L[kn.val]? = some (.val a)) (hv : a.isRef = true) (hq : pc + 1 = q) (w : own_E p e below Fn T (mkF m q L (a :: st))) : own_E p e below Fn T (mkF m pc L st) := by
  subst hq; exact own_to (T' := T) (mkF m (pc + 1) L (a :: st)) (fun _ j => XS.aloadN X.here hx rfl hd hl hv j) w
theorem own_ic (q : Nat) (z : Int32) (X : Stand p l e R s m args below meth c T locs cells slots) (hx : p.tables.exec = Jvm.exec) (hd : decode c.code pc = .ok (.iconst i, 1)) (hz : Int32.ofInt i = z) (hq : pc + 1 = q) (w : own_E p e below Fn T (mkF m q L (.int z :: st))) : own_E p e below Fn T (mkF m pc L st) := by
  subst hq; subst hz; exact own_to (T' := T) (mkF m (pc + 1) L (.int (Int32.ofInt i) :: st)) (fun _ j => XS.iconst X.here hx rfl hd j) w
theorem own_bi (q : Nat) (z : Int32) (X : Stand p l e R s m args below meth c T locs cells slots) (hx : p.tables.exec = Jvm.exec) (hd : decode c.code pc = .ok (.bipush i, 2)) (hz : (Int8.ofInt i).toInt32 = z) (hq : pc + 2 = q) (w : own_E p e below Fn T (mkF m q L (.int z :: st))) : own_E p e below Fn T (mkF m pc L st) := by
  subst hq; subst hz; exact own_to (T' := T) (mkF m (pc + 2) L (.int ((Int8.ofInt i).toInt32) :: st)) (fun _ j => XS.bipush X.here hx rfl hd j) w
theorem own_si (q : Nat) (z : Int32) (X : Stand p l e R s m args below meth c T locs cells slots) (hx : p.tables.exec = Jvm.exec) (hd : decode c.code pc = .ok (.sipush i, 3)) (hz : (Int16.ofInt i).toInt32 = z) (hq : pc + 3 = q) (w : own_E p e below Fn T (mkF m q L (.int z :: st))) : own_E p e below Fn T (mkF m pc L st) := by
  subst hq; subst hz; exact own_to (T' := T) (mkF m (pc + 3) L (.int ((Int16.ofInt i).toInt32) :: st)) (fun _ j => XS.sipush X.here hx rfl hd j) w
theorem own_iadd (q : Nat)  (X : Stand p l e R s m args below meth c T locs cells slots) (hx : p.tables.exec = Jvm.exec) (hd : decode c.code pc = .ok (.iadd, 1)) (hz : x + y = z) (hq : pc + 1 = q) (w : own_E p e below Fn T (mkF m q L (.int z :: st))) : own_E p e below Fn T (mkF m pc L (.int y :: .int x :: st)) := by
  subst hq; subst hz; exact own_to (T' := T) (mkF m (pc + 1) L (.int (x + y) :: st)) (fun _ j => XS.iadd X.here hx rfl hd rfl j) w
theorem own_isub (q : Nat)  (X : Stand p l e R s m args below meth c T locs cells slots) (hx : p.tables.exec = Jvm.exec) (hd : decode c.code pc = .ok (.isub, 1)) (hz : x - y = z) (hq : pc + 1 = q) (w : own_E p e below Fn T (mkF m q L (.int z :: st))) : own_E p e below Fn T (mkF m pc L (.int y :: .int x :: st)) := by
  subst hq; subst hz; exact own_to (T' := T) (mkF m (pc + 1) L (.int (x - y) :: st)) (fun _ j => XS.isub X.here hx rfl hd rfl j) w
theorem own_iand (q : Nat)  (X : Stand p l e R s m args below meth c T locs cells slots) (hx : p.tables.exec = Jvm.exec) (hd : decode c.code pc = .ok (.iand, 1)) (hz : x &&& y = z) (hq : pc + 1 = q) (w : own_E p e below Fn T (mkF m q L (.int z :: st))) : own_E p e below Fn T (mkF m pc L (.int y :: .int x :: st)) := by
  subst hq; subst hz; exact own_to (T' := T) (mkF m (pc + 1) L (.int (x &&& y) :: st)) (fun _ j => XS.iand X.here hx rfl hd rfl j) w
theorem own_ior (q : Nat)  (X : Stand p l e R s m args below meth c T locs cells slots) (hx : p.tables.exec = Jvm.exec) (hd : decode c.code pc = .ok (.ior, 1)) (hz : x ||| y = z) (hq : pc + 1 = q) (w : own_E p e below Fn T (mkF m q L (.int z :: st))) : own_E p e below Fn T (mkF m pc L (.int y :: .int x :: st)) := by
  subst hq; subst hz; exact own_to (T' := T) (mkF m (pc + 1) L (.int (x ||| y) :: st)) (fun _ j => XS.ior X.here hx rfl hd rfl j) w
theorem own_ishl (q : Nat)  (X : Stand p l e R s m args below meth c T locs cells slots) (hx : p.tables.exec = Jvm.exec) (hd : decode c.code pc = .ok (.ishl, 1)) (hz : x <<< (y &&& 31) = z) (hq : pc + 1 = q) (w : own_E p e below Fn T (mkF m q L (.int z :: st))) : own_E p e below Fn T (mkF m pc L (.int y :: .int x :: st)) := by
  subst hq; subst hz; exact own_to (T' := T) (mkF m (pc + 1) L (.int (x <<< (y &&& 31)) :: st)) (fun _ j => XS.ishl X.here hx rfl hd rfl j) w
theorem own_ishr (q : Nat)  (X : Stand p l e R s m args below meth c T locs cells slots) (hx : p.tables.exec = Jvm.exec) (hd : decode c.code pc = .ok (.ishr, 1)) (hz : x >>> (y &&& 31) = z) (hq : pc + 1 = q) (w : own_E p e below Fn T (mkF m q L (.int z :: st))) : own_E p e below Fn T (mkF m pc L (.int y :: .int x :: st)) := by
  subst hq; subst hz; exact own_to (T' := T) (mkF m (pc + 1) L (.int (x >>> (y &&& 31)) :: st)) (fun _ j => XS.ishr X.here hx rfl hd rfl j) w
theorem own_iushr (q : Nat)  (X : Stand p l e R s m args below meth c T locs cells slots) (hx : p.tables.exec = Jvm.exec) (hd : decode c.code pc = .ok (.iushr, 1)) (hz : (x.toUInt32 >>> (y &&& 31).toUInt32).toInt32 = z) (hq : pc + 1 = q) (w : own_E p e below Fn T (mkF m q L (.int z :: st))) : own_E p e below Fn T (mkF m pc L (.int y :: .int x :: st)) := by
  subst hq; subst hz; exact own_to (T' := T) (mkF m (pc + 1) L (.int ((x.toUInt32 >>> (y &&& 31).toUInt32).toInt32) :: st)) (fun _ j => XS.iushr X.here hx rfl hd rfl j) w
theorem own_i2b (q : Nat)  (X : Stand p l e R s m args below meth c T locs cells slots) (hx : p.tables.exec = Jvm.exec) (hd : decode c.code pc = .ok (.i2b, 1)) (hz : x.toInt8.toInt32 = z) (hq : pc + 1 = q) (w : own_E p e below Fn T (mkF m q L (.int z :: st))) : own_E p e below Fn T (mkF m pc L (.int x :: st)) := by
  subst hq; subst hz; exact own_to (T' := T) (mkF m (pc + 1) L (.int (x.toInt8.toInt32) :: st)) (fun _ j => XS.i2b X.here hx rfl hd rfl j) w
theorem own_i2c (q : Nat)  (X : Stand p l e R s m args below meth c T locs cells slots) (hx : p.tables.exec = Jvm.exec) (hd : decode c.code pc = .ok (.i2c, 1)) (hz : x.toUInt32.toUInt16.toUInt32.toInt32 = z) (hq : pc + 1 = q) (w : own_E p e below Fn T (mkF m q L (.int z :: st))) : own_E p e below Fn T (mkF m pc L (.int x :: st)) := by
  subst hq; subst hz; exact own_to (T' := T) (mkF m (pc + 1) L (.int (x.toUInt32.toUInt16.toUInt32.toInt32) :: st)) (fun _ j => XS.i2c X.here hx rfl hd rfl j) w
theorem own_dup (q : Nat)  (X : Stand p l e R s m args below meth c T locs cells slots) (hx : p.tables.exec = Jvm.exec) (hd : decode c.code pc = .ok (.dup, 1)) (hv : a.category = 1) (hq : pc + 1 = q) (w : own_E p e below Fn T (mkF m q L (a :: a :: st))) : own_E p e below Fn T (mkF m pc L (a :: st)) := by
  subst hq; exact own_to (T' := T) (mkF m (pc + 1) L (a :: a :: st)) (fun _ j => XS.dup X.here hx rfl hd rfl hv j) w
theorem own_nul (q : Nat)  (X : Stand p l e R s m args below meth c T locs cells slots) (hx : p.tables.exec = Jvm.exec) (hd : decode c.code pc = .ok (.aconst_null, 1))  (hq : pc + 1 = q) (w : own_E p e below Fn T (mkF m q L (.null :: st))) : own_E p e below Fn T (mkF m pc L st) := by
  subst hq; exact own_to (T' := T) (mkF m (pc + 1) L (.null :: st)) (fun _ j => XS.aconstNull X.here hx rfl hd j) w
theorem own_is (q : Nat) (L' : Array Slot) (X : Stand p l e R s m args below meth c T locs cells slots) (hx : p.tables.exec = Jvm.exec) (hd : decode c.code pc = .ok (.istore k, 2)) (hl : storeLocals L k (.int x) = some L') (hq : pc + 2 = q) (w : own_E p e below Fn T (mkF m q L' st)) : own_E p e below Fn T (mkF m pc L (.int x :: st)) := by
  subst hq; exact own_to (T' := T) (mkF m (pc + 2) L' st) (fun _ j => XS.istore X.here hx rfl hd rfl hl j) w
theorem own_isn (q : Nat) (L' : Array Slot) (X : Stand p l e R s m args below meth c T locs cells slots) (hx : p.tables.exec = Jvm.exec) (hd : decode c.code pc = .ok (.istore_n kn, 1)) (hl : storeLocals L kn.val (.int x) = some L') (hq : pc + 1 = q) (w : own_E p e below Fn T (mkF m q L' st)) : own_E p e below Fn T (mkF m pc L (.int x :: st)) := by
  subst hq; exact own_to (T' := T) (mkF m (pc + 1) L' st) (fun _ j => XS.istoreN X.here hx rfl hd rfl hl j) w
theorem own_as (q : Nat) (L' : Array Slot) (X : Stand p l e R s m args below meth c T locs cells slots) (hx : p.tables.exec = Jvm.exec) (hd : decode c.code pc = .ok (.astore k, 2)) (hv : a.isRef = true) (hl : storeLocals L k a = some L') (hq : pc + 2 = q) (w : own_E p e below Fn T (mkF m q L' st)) : own_E p e below Fn T (mkF m pc L (a :: st)) := by
  subst hq; exact own_to (T' := T) (mkF m (pc + 2) L' st) (fun _ j => XS.astore X.here hx rfl hd rfl hv hl j) w
theorem own_asn (q : Nat) (L' : Array Slot) (X : Stand p l e R s m args below meth c T locs cells slots) (hx : p.tables.exec = Jvm.exec) (hd : decode c.code pc = .ok (.astore_n kn, 1)) (hv : a.isRef = true) (hl : storeLocals L kn.val a = some L') (hq : pc + 1 = q) (w : own_E p e below Fn T (mkF m q L' st)) : own_E p e below Fn T (mkF m pc L (a :: st)) := by
  subst hq; exact own_to (T' := T) (mkF m (pc + 1) L' st) (fun _ j => XS.astoreN X.here hx rfl hd rfl hv hl j) w
theorem own_inc (q : Nat) (L' : Array Slot) (X : Stand p l e R s m args below meth c T locs cells slots) (hx : p.tables.exec = Jvm.exec) (hd : decode c.code pc = .ok (.iinc k i, 3)) (hl : L[k]? = some (.val (.int x))) (hl' : storeLocals L k (.int (x + Int32.ofInt i)) = some L') (hq : pc + 3 = q) (w : own_E p e below Fn T (mkF m q L' st)) : own_E p e below Fn T (mkF m pc L st) := by
  subst hq; exact own_to (T' := T) (mkF m (pc + 3) L' st) (fun _ j => XS.iinc X.here hx rfl hd hl hl' j) w
theorem own_ifN (q : Nat)  (X : Stand p l e R s m args below meth c T locs cells slots) (hx : p.tables.exec = Jvm.exec) (hd : decode c.code pc = .ok (.ifCond cd o, 3)) (hc : ifCond.holds cd x = false) (hq : pc + 3 = q) (w : own_E p e below Fn T (mkF m q L st)) : own_E p e below Fn T (mkF m pc L (.int x :: st)) := by
  subst hq; exact own_to (T' := T) (mkF m (pc + 3) L st) (fun _ j => XS.ifNo X.here hx rfl hd rfl hc j) w
theorem own_icN (q : Nat)  (X : Stand p l e R s m args below meth c T locs cells slots) (hx : p.tables.exec = Jvm.exec) (hd : decode c.code pc = .ok (.if_icmp cd o, 3)) (hc : if_icmp.holds cd x y = false) (hq : pc + 3 = q) (w : own_E p e below Fn T (mkF m q L st)) : own_E p e below Fn T (mkF m pc L (.int y :: .int x :: st)) := by
  subst hq; exact own_to (T' := T) (mkF m (pc + 3) L st) (fun _ j => XS.icmpNo X.here hx rfl hd rfl hc j) w
theorem own_go (q : Nat) (X : Stand p l e R s m args below meth c T locs cells slots) (hx : p.tables.exec = Jvm.exec) (hd : decode c.code pc = .ok (.goto o, 3)) (ho : 0 ≤ (pc : Int) + o) (hq : ((pc : Int) + o).toNat = q) (w : own_E p e below Fn T (mkF m q L st)) : own_E p e below Fn T (mkF m pc L st) :=
  own_to (T' := T) (mkF m q L st) (fun _ j => XS.goto X.here hx rfl (pc0 := pc) rfl hd ho hq j) w
theorem own_ifY (q : Nat) (X : Stand p l e R s m args below meth c T locs cells slots) (hx : p.tables.exec = Jvm.exec) (hd : decode c.code pc = .ok (.ifCond cd o, 3)) (hc : ifCond.holds cd x = true) (ho : 0 ≤ (pc : Int) + o) (hq : ((pc : Int) + o).toNat = q) (w : own_E p e below Fn T (mkF m q L st)) : own_E p e below Fn T (mkF m pc L (.int x :: st)) :=
  own_to (T' := T) (mkF m q L st) (fun _ j => XS.ifYes X.here hx rfl (pc0 := pc) rfl hd rfl hc ho hq j) w
theorem own_icY (q : Nat) (X : Stand p l e R s m args below meth c T locs cells slots) (hx : p.tables.exec = Jvm.exec) (hd : decode c.code pc = .ok (.if_icmp cd o, 3)) (hc : if_icmp.holds cd x y = true) (ho : 0 ≤ (pc : Int) + o) (hq : ((pc : Int) + o).toNat = q) (w : own_E p e below Fn T (mkF m q L st)) : own_E p e below Fn T (mkF m pc L (.int y :: .int x :: st)) :=
  own_to (T' := T) (mkF m q L st) (fun _ j => XS.icmpYes X.here hx rfl (pc0 := pc) rfl hd rfl hc ho hq j) w
end OwnStep
section OwnStr
variable {Z : State} {h h' : Heap} {x t a : Addr} {kb : ClassId} {cs : List Int32} {sl : Nat} {v : Value} {ws : List Addr}
/-- a String at x, its bytes at t, that spells cs (each 0 to 255) -/
def own_Str (Z : State) (h : Heap) (x t : Addr) (kb : ClassId) (cs : List Int32) : Prop :=
  Exa Z h x "java/lang/String" ∧ Fld Z h x "java/lang/String" "value" "[B" (.ref t) ∧ Fld Z h x "java/lang/String" "coder" "B" (.int 0) ∧ Arv Z h t kb .byte (Int32.ofNat cs.length) ((cs.map (fun c => c.toInt8.toInt32)).map Value.int) (.int 0) ∧ (∀ c ∈ cs, ¬ c < 0 ∧ ¬ (255 : Int32) < c) ∧ cs.length ≤ 4000
theorem own_Str.lt (S : own_Str Z h x t kb cs) : x < h.size := S.1.lt
theorem own_Str.ltT (S : own_Str Z h x t kb cs) : t < h.size := S.2.2.2.1.lt
theorem own_Str.ext (S : own_Str Z h x t kb cs) (E : Ext h h') : own_Str Z h' x t kb cs := ⟨S.1.ext E, S.2.1.ext E, S.2.2.1.ext E, S.2.2.2.1.ext E, S.2.2.2.2⟩
theorem own_Str.wr (S : own_Str Z h x t kb cs) (W : Wr h h' a sl v) (n1 : x ≠ a) (n2 : t ≠ a) : own_Str Z h' x t kb cs := ⟨S.1.wr W, S.2.1.other W (Or.inl n1), S.2.2.1.other W (Or.inl n1), S.2.2.2.1.other W n2, S.2.2.2.2⟩
theorem own_Str.keep (S : own_Str Z h x t kb cs) (K : Keep h h' ws) (n1 : x ∉ ws) (n2 : t ∉ ws) : own_Str Z h' x t kb cs := ⟨S.1.keep K, S.2.1.keep K n1, S.2.2.1.keep K n1, S.2.2.2.1.keep K n2, S.2.2.2.2⟩
theorem own_up {cs : List Int32} (h : ∀ c ∈ cs, ¬ c < 0 ∧ ¬ (255 : Int32) < c) : ∀ c ∈ cs, ¬ c < 0 ∧ ¬ (65535 : Int32) < c := fun c hc => ⟨(h c hc).1, fun q => (h c hc).2 (by rw [Int32.lt_iff_toInt_lt] at q ⊢; have e1 : (65535 : Int32).toInt = 65535 := rfl; have e2 : (255 : Int32).toInt = 255 := rfl; omega)⟩
/-- a char of 0 to 255 stays what it is when it is stored as a char -/
def own_C8 (c : Int32) : Prop := ¬ c < 0 ∧ ¬ (255 : Int32) < c
theorem own_C8.rng {c : Int32} (h : own_C8 c) : 0 ≤ c.toInt ∧ c.toInt ≤ 255 := by
  have h1 := h.1; have h2 := h.2
  rw [Int32.lt_iff_toInt_lt] at h1 h2
  have e1 : (0 : Int32).toInt = 0 := rfl
  have e2 : (255 : Int32).toInt = 255 := rfl
  omega
theorem own_i2c8 {c : Int32} (h : own_C8 c) : c.toUInt32.toUInt16.toUInt32.toInt32 = c := by
  have q := h.rng
  have r := c_i2c c
  rw [← Int32.toInt_inj]; omega
theorem own_nar8 {c : Int32} (h : own_C8 c) : nar .char c = c := own_i2c8 h
theorem own_mask8 (x : Int32) : own_C8 (x &&& (255 : Int32)) := by
  have e : (x &&& 255).toInt = x.toInt % (2 ^ 8 : Nat) := c_mask x 255 8 (by decide) (by decide)
  refine ⟨fun q => ?_, fun q => ?_⟩ <;> rw [Int32.lt_iff_toInt_lt, e] at q
  · have e1 : (0 : Int32).toInt = 0 := rfl
    omega
  · have e2 : (255 : Int32).toInt = 255 := rfl
    omega
theorem own_ch8 {x c : Int32} (h : (x &&& (255 : Int32)).toUInt32.toUInt16.toUInt32.toInt32 = c) : own_C8 c := by
  rw [own_i2c8 (own_mask8 x)] at h; subst h; exact own_mask8 x
theorem own_if8 {C : Prop} {c a b : Int32} (h1 : C → c = a) (h2 : ¬ C → c = b) (ha : own_C8 a) (hb : own_C8 b) : own_C8 c := by
  by_cases q : C
  · rw [h1 q]; exact ha
  · rw [h2 q]; exact hb
theorem own_all0 : ∀ c ∈ ([] : List Int32), ¬ c < 0 ∧ ¬ (255 : Int32) < c := fun _ q => nomatch q
theorem own_allS {c : Int32} {cs : List Int32} (h : own_C8 c) (r : ∀ c ∈ cs, ¬ c < 0 ∧ ¬ (255 : Int32) < c) : ∀ d ∈ c :: cs, ¬ d < 0 ∧ ¬ (255 : Int32) < d := fun d z => (List.mem_cons.mp z).elim (fun u => u ▸ h) (r d)
end OwnStr
def own_QEq (cs ds : List Int32) (h : Heap) (v : Option Value) (h' : Heap) (L : List Loc) : Prop := ((v = some (.int 1) ∧ cs = ds) ∨ (v = some (.int 0) ∧ ¬ cs = ds)) ∧ L = [] ∧ h' = h
/-- equals of two Strings, by what each spells -/
theorem own_backEq {p : Program} {l : Launch} {e : Env} {R : Room} {s : State} {args : Array Value} {below : List Frame} {len W : Nat} {Z : State} {a0 : Array Value} {h : Heap} (hZ : Z.Warmed39 s.vm) (hw : ∀ d ∈ StrChars.Road.wordsEq, d.before a0 Z = true) {kI : Nat} (wi : (Jvm.Cond.instantiable "java/lang/String" kI).before a0 Z = true)
    {x t : Addr} {kb : ClassId} {cs : List Int32} (A : own_Str Z h x t kb cs) {y t' : Addr} {kb' : ClassId} {ds : List Int32} (B : own_Str Z h y t' kb' ds) {z : Int32} (S : Sta Z h "java/lang/String" "COMPACT_STRINGS" "Z" (.int z)) (hz : ¬ z = 0) (hfr : 2 ≤ R.frames) (hlo : W + 28 ≤ R.locals) :
    Back l R p e below s args (⟨"java/lang/String", "equals", "(Ljava/lang/Object;)Z"⟩ : MethodName) len W (fun P a => a = #[.ref x, .ref y] ∧ P.U.heap = h ∧ P.cells + 0 ≤ R.cells ∧ P.slots + 0 ≤ R.slots)
      (fun P _ v B => ∃ L, own_QEq cs ds h v B.U.heap L ∧ B.locs = P.locs ++ L ∧ B.cells = P.cells + 0 ∧ B.slots = P.slots + 0) := by
  obtain ⟨a1, a2, a3, a4, a5, a6⟩ := A
  obtain ⟨b1, b2, b3, b4, b5, b6⟩ := B
  exact StrChars.Road.eqW hZ hw wi a1 a2 a3 a4 (StrChars.Road.codOf rfl fun c hc => (a5 c hc).2) (own_up a5) a6 b1 b2 b3 b4 (StrChars.Road.codOf rfl fun c hc => (b5 c hc).2) (own_up b5) b6 S hz hfr hlo
section OwnUtf
variable {Z : State} {h h' : Heap} {x t a : Addr} {kb : ClassId} {sl : Nat} {v : Value} {ws : List Addr} {cd N : Int32} {vs : List Value}
/-- a char: 0 to 65535 -/
def own_C16 (c : Int32) : Prop := 0 ≤ c.toInt ∧ c.toInt ≤ 65535
theorem own_i2c16 (y : Int32) : own_C16 y.toUInt32.toUInt16.toUInt32.toInt32 := by
  have q := c_i2c y
  unfold own_C16; omega
theorem own_id16 {c : Int32} (h : own_C16 c) : c.toUInt32.toUInt16.toUInt32.toInt32 = c := by
  have r := c_i2c c
  have q := h.1; have q' := h.2
  rw [← Int32.toInt_inj]; omega
theorem own_nar16 {c : Int32} (h : own_C16 c) : nar .char c = c := own_id16 h
theorem own_C16.nn {c : Int32} (h : own_C16 c) : ¬ c < 0 := fun q => by
  rw [Int32.lt_iff_toInt_lt] at q
  have e : (0 : Int32).toInt = 0 := rfl
  have := h.1; omega
theorem own_hi {c : Int32} (h : own_C16 c) : ((((((c >>> ((0 : Int32) &&& 31)).toInt8.toInt32) &&& (255 : Int32)) <<< ((0 : Int32) &&& 31)) ||| ((((c >>> ((8 : Int32) &&& 31)).toInt8.toInt32) &&& (255 : Int32)) <<< ((8 : Int32) &&& 31))).toUInt32.toUInt16.toUInt32.toInt32) = c := by
  have q1 := h.1; have q2 := h.2
  have a0 := c_ishr c (0 : Int32) 0 (by decide)
  have a8 := c_ishr c (8 : Int32) 8 (by decide)
  have b0 := c_i2b (c >>> ((0 : Int32) &&& 31))
  have b8 := c_i2b (c >>> ((8 : Int32) &&& 31))
  have m0 := c_mask ((c >>> ((0 : Int32) &&& 31)).toInt8.toInt32) 255 8 (by decide) (by decide)
  have m8 := c_mask ((c >>> ((8 : Int32) &&& 31)).toInt8.toInt32) 255 8 (by decide) (by decide)
  have s0 := c_ishl (((c >>> ((0 : Int32) &&& 31)).toInt8.toInt32) &&& (255 : Int32)) (0 : Int32) 0 (by decide)
  have s8 := c_ishl (((c >>> ((8 : Int32) &&& 31)).toInt8.toInt32) &&& (255 : Int32)) (8 : Int32) 8 (by decide)
  generalize ((c >>> ((0 : Int32) &&& 31)).toInt8.toInt32) = u0 at *
  generalize ((c >>> ((8 : Int32) &&& 31)).toInt8.toInt32) = u8 at *
  generalize (u0 &&& (255 : Int32)) = w0 at *
  generalize (u8 &&& (255 : Int32)) = w8 at *
  generalize hx0 : (w0 <<< ((0 : Int32) &&& 31)) = x0 at *
  generalize hx8 : (w8 <<< ((8 : Int32) &&& 31)) = x8 at *
  have r0 := rng32 x0
  have r8 := rng32 x8
  have e0 : x0.toInt = c.toInt % 256 := by omega
  have e8 : x8.toInt = (c.toInt / 256) * 256 := by omega
  have o := c_or' x0 x8 8 (by decide) 256 (by decide) (by omega) (by omega) (by omega)
  have ro := rng32 (x0 ||| x8)
  have i := c_i2c (x0 ||| x8)
  rw [← Int32.toInt_inj]; omega
/-- a String whose bytes lie at t: its coder and its bytes -/
def own_StrG (Z : State) (h : Heap) (x t : Addr) (kb : ClassId) (cd N : Int32) (vs : List Value) : Prop :=
  Exa Z h x "java/lang/String" ∧ Fld Z h x "java/lang/String" "value" "[B" (.ref t) ∧ Fld Z h x "java/lang/String" "coder" "B" (.int cd) ∧ Arv Z h t kb .byte N vs (.int 0)
theorem own_StrG.lt (S : own_StrG Z h x t kb cd N vs) : x < h.size := S.1.lt
theorem own_StrG.ltT (S : own_StrG Z h x t kb cd N vs) : t < h.size := S.2.2.2.lt
theorem own_StrG.ext (S : own_StrG Z h x t kb cd N vs) (E : Ext h h') : own_StrG Z h' x t kb cd N vs := ⟨S.1.ext E, S.2.1.ext E, S.2.2.1.ext E, S.2.2.2.ext E⟩
theorem own_StrG.wr (S : own_StrG Z h x t kb cd N vs) (W : Wr h h' a sl v) (n1 : x ≠ a) (n2 : t ≠ a) : own_StrG Z h' x t kb cd N vs := ⟨S.1.wr W, S.2.1.other W (Or.inl n1), S.2.2.1.other W (Or.inl n1), S.2.2.2.other W n2⟩
theorem own_StrG.keep (S : own_StrG Z h x t kb cd N vs) (K : Keep h h' ws) (n1 : x ∉ ws) (n2 : t ∉ ws) : own_StrG Z h' x t kb cd N vs := ⟨S.1.keep K, S.2.1.keep K n1, S.2.2.1.keep K n1, S.2.2.2.keep K n2⟩
/-- a String of n chars: its bytes are n (coder 0) or twice as many (coder 1) -/
def own_StrL (Z : State) (h : Heap) (x t : Addr) (n n2 : Int32) : Prop := ∃ (kb : ClassId) (cd N : Int32) (vs : List Value), own_StrG Z h x t kb cd N vs ∧ ((cd = 0 ∧ N = n) ∨ (cd = 1 ∧ N = n2))
variable {n n2 : Int32}
theorem own_StrL.lt (S : own_StrL Z h x t n n2) : x < h.size := by obtain ⟨_, _, _, _, g, -⟩ := S; exact g.lt
theorem own_StrL.ltT (S : own_StrL Z h x t n n2) : t < h.size := by obtain ⟨_, _, _, _, g, -⟩ := S; exact g.ltT
theorem own_StrL.exa (S : own_StrL Z h x t n n2) : Exa Z h x "java/lang/String" := by obtain ⟨_, _, _, _, g, -⟩ := S; exact g.1
theorem own_StrL.ext (S : own_StrL Z h x t n n2) (E : Ext h h') : own_StrL Z h' x t n n2 := by obtain ⟨a, b, c, d, g, r⟩ := S; exact ⟨a, b, c, d, g.ext E, r⟩
theorem own_StrL.wr (S : own_StrL Z h x t n n2) (W : Wr h h' a sl v) (n1 : x ≠ a) (m2 : t ≠ a) : own_StrL Z h' x t n n2 := by obtain ⟨a, b, c, d, g, r⟩ := S; exact ⟨a, b, c, d, g.wr W n1 m2, r⟩
theorem own_StrL.keep (S : own_StrL Z h x t n n2) (K : Keep h h' ws) (n1 : x ∉ ws) (m2 : t ∉ ws) : own_StrL Z h' x t n n2 := by obtain ⟨a, b, c, d, g, r⟩ := S; exact ⟨a, b, c, d, g.keep K n1 m2, r⟩
end OwnUtf
section OwnHeld
open Jvm.Free.SB Jvm.Free.SBG
variable {p : Program} {l : Launch} {e : Env} {R : Room} {s : State} {m : MethodId} {args : Array Value} {below : List Frame} {meth : Method} {c : Code} {T T' : State} {locs : List Loc} {cells slots : Nat} {Q : Option Value → Heap → List Loc → Prop} {k n : Nat} {g : JFrame} {vm₁ : Vm} {k1 : Nat} {Z : State} {a0 : Array Value}
/-- the String constant that the walked code may load: the empty text, of String itself -/
abbrev own_EL : List (String × Nat) := [("com/example/ianus/ianus/Token", 52), ("com/example/ianus/ianus/Token", 60), ("com/example/ianus/ianus/TokenDescribePinLaw", 41), ("java/lang/String", 7)]
/-- the end of a body that may intern: the held constants hold on -/
def own_FinH (Z s : State) (Q : Option Value → Heap → List Loc → Prop) (k n : Nat) (o : Outcome) (t : State) : Prop := ∃ v L, o = .returned v ∧ Q v t.heap L ∧ CHr Z own_EL s.vm s.heap t.vm t.heap ∧ ReturnedEndW s o t L k n
theorem own_endH {v : Option Value} {pc : Nat} {Ls : Array Slot} {st : List Value} (X : Stand p l e R (s.setVm vm₁) m args below meth c T locs cells slots) (hS : s.Since vm₁ k1) (hk1 : k1 ≤ T.heap.size) (hZ : Z.Warmed39 vm₁) (hEW : EW Z a0 own_EL) (CH : CHv Z own_EL vm₁ T.heap) (CHR : CHr Z own_EL s.vm s.heap vm₁ T.heap) (hv : meth.sig.returnType = none → v = none) (hlk : meth.locks = false) (hk : cells ≤ k) (hn : slots ≤ n) (hQ : Q v T.heap locs)
    (hs : ∀ fs, (∀ (f : JFrame) (acts : List Action), f.method = m → f.locked = none → f.entered = [] → (doReturn e (T.setTop f) acts v).1 = T.setFrames fs) → Steps p.tables e below (T.setTop (mkF m pc Ls st)) (T.setFrames fs)) : own_E p e below (own_FinH Z s Q k n) T (mkF m pc Ls st) := by
  have q : CHr Z own_EL s.vm s.heap T.vm T.heap := CHR.trans (CHv.at X hZ hEW CH)
  obtain ⟨fs, hr, hrun, hended, h1, h2, h3, h4⟩ := X.leaveW hS hk1 (v := v) hv hlk
  exact ⟨_, _, hs fs hr, hrun, hended, _, _, rfl, hQ, q, h1, h2, h3, h4.mono hk hn⟩
theorem own_retNH (X : Stand p l e R (s.setVm vm₁) m args below meth c T locs cells slots) (hS : s.Since vm₁ k1) (hk1 : k1 ≤ T.heap.size) (hZ : Z.Warmed39 vm₁) (hEW : EW Z a0 own_EL) (CH : CHv Z own_EL vm₁ T.heap) (CHR : CHr Z own_EL s.vm s.heap vm₁ T.heap) (hx : p.tables.exec = Jvm.exec) {pc : Nat} {Ls : Array Slot} {z : Int32} {t : FieldType} {rest : List Value} (hret : meth.sig.returnType = some t) (ht : t = .boolean ∨ t = .byte ∨ t = .char ∨ t = .short) (hlk : meth.locks = false)
    (hd : decode c.code pc = .ok (.ireturn, 1)) (hk : cells ≤ k) (hn : slots ≤ n) (hQ : Q (some (.int (nar t z))) T.heap locs) : own_E p e below (own_FinH Z s Q k n) T (mkF m pc Ls (.int z :: rest)) :=
  own_endH X hS hk1 hZ hEW CH CHR (fun h => by rw [hret] at h; cases h) hlk hk hn hQ fun _ hr => retN X hx hret ht hd hr
theorem own_retAH (X : Stand p l e R (s.setVm vm₁) m args below meth c T locs cells slots) (hS : s.Since vm₁ k1) (hk1 : k1 ≤ T.heap.size) (hZ : Z.Warmed39 vm₁) (hEW : EW Z a0 own_EL) (CH : CHv Z own_EL vm₁ T.heap) (CHR : CHr Z own_EL s.vm s.heap vm₁ T.heap) (hx : p.tables.exec = Jvm.exec) {pc : Nat} {Ls : Array Slot} {w : Value} {t : FieldType} {rest : List Value} (hret : meth.sig.returnType = some t) (ht : t.isReference = true) (hlk : meth.locks = false)
    (hd : decode c.code pc = .ok (.areturn, 1)) (hw : w.isRef = true) (hk : cells ≤ k) (hn : slots ≤ n) (hQ : Q (some w) T.heap locs) : own_E p e below (own_FinH Z s Q k n) T (mkF m pc Ls (w :: rest)) :=
  own_endH X hS hk1 hZ hEW CH CHR (fun h => by rw [hret] at h; cases h) hlk hk hn hQ fun _ hr => retOut X hx hret (by cases t <;> first | rfl | cases ht) (Or.inr (Or.inr (Or.inr (Or.inr ⟨rfl, ht, hw⟩)))) hd hr
theorem own_ret0H (X : Stand p l e R (s.setVm vm₁) m args below meth c T locs cells slots) (hS : s.Since vm₁ k1) (hk1 : k1 ≤ T.heap.size) (hZ : Z.Warmed39 vm₁) (hEW : EW Z a0 own_EL) (CH : CHv Z own_EL vm₁ T.heap) (CHR : CHr Z own_EL s.vm s.heap vm₁ T.heap) (hx : p.tables.exec = Jvm.exec) {pc : Nat} {Ls : Array Slot} (hret : meth.sig.returnType = none) (hlk : meth.locks = false)
    (hd : decode c.code pc = .ok (.return_, 1)) (hk : cells ≤ k) (hn : slots ≤ n) (hQ : Q none T.heap locs) : own_E p e below (own_FinH Z s Q k n) T (mkF m pc Ls []) :=
  own_endH X hS hk1 hZ hEW CH CHR (fun _ => rfl) hlk hk hn hQ fun _ hr => X.returnOut hx hret hd hr
/-- a String whose value is still null is no held constant -/
theorem own_safeN {EL : List (String × Nat)} {vm : Vm} {h : Heap} {x : Addr} (hal : Z.vm.Alike vm) (E : Exa Z h x "java/lang/String") (F : Fld Z h x "java/lang/String" "value" "[B" .null) : Safe Z EL vm h x := fun B => by
  obtain ⟨cell, k, e1, e2, e3, -, -⟩ := E
  obtain ⟨cell', cf, kf, i, f, f1, f2, f3, -, -, -, f7⟩ := F
  cases e1.symm.trans f1
  obtain ⟨p, -, u, a, -, q, -, Fq, rfl | rfl⟩ := B
  · cases (show h[q.sa]? = some q.sC from Fq.ha).symm.trans e1
    obtain ⟨cS', ⟨⟨-, -, -, ⟨c2, k2, i2, g2, -⟩, -, -, -, v2, -⟩, -⟩, -⟩ := Fq
    obtain ⟨k3, g3, -⟩ := State.fieldFound?_setVm (s := Z) hal f2
    have g4 := (show (Wst Z vm h).fieldFound? _ _ _ = _ from g3).symm.trans g2
    simp only [Option.some.injEq, Prod.mk.injEq] at g4
    rw [← g4.2.2.2, f7] at v2
    cases v2
  · cases (show h[q.sd]? = some q.SA from Fq.hd).symm.trans e1
    obtain ⟨cS, -, -, g, -⟩ := Fq
    have g' : Z.vm.findClass "[B" = some q.SA.cls := by rw [← hal.findClass]; exact g
    obtain ⟨k1, q1, q2⟩ := Vm.findClass_spec g'
    obtain ⟨k2, q3, q4⟩ := Vm.findClass_spec e2
    cases q1.symm.trans q3
    have := q2.symm.trans q4
    exact absurd this (by decide)
end OwnHeld
section OwnSb
variable {p : Program} {l : Launch} {e : Env} {R : Room} {s : State} {m : MethodId} {args : Array Value} {below : List Frame} {meth : Method} {c : Code} {T : State} {locs : List Loc} {cells slots : Nat} {Z : State} {a0 : Array Value}
/-- an invokevirtual of a private method, by its contract -/
theorem own_priv (X : Stand p l e R s m args below meth c T locs cells slots) (hexec : p.tables.exec = Jvm.exec) {own C : String} {index : Nat} {y : MethodName} {bytes : ByteArray} {maxL : Nat} {ret : Option FieldType}
    (hown : s.vm.findClass own = some m.cls) (hlink : (Jvm.Cond.methodLink own index y).before args s = true) (hinst : (Jvm.Cond.instanceMethod y).before args s = true) (hsel : (Jvm.Cond.selects C y y).before args s = true) (hpriv : (Jvm.Cond.privateMethod y).before args s = true)
    (hcode : (Jvm.Cond.code y bytes maxL ret).before args s = true) (hy : y.cls ≠ "java/lang/invoke/MethodHandle" ∧ y.cls ≠ "java/lang/invoke/VarHandle")
    {W : Nat} {as' : Array Value} {h : Heap} {rc rs : Nat} {Q : Option Value → Heap → List Loc → Prop} (hK : Back l R p e below s args y 3 W (fun A a => a = as' ∧ A.U.heap = h ∧ A.cells + rc ≤ R.cells ∧ A.slots + rs ≤ R.slots) (fun A _ v B => ∃ L, Q v B.U.heap L ∧ B.locs = A.locs ++ L ∧ B.cells = A.cells + rc ∧ B.slots = A.slots + rs))
    {b : Addr} (hcl : ∃ k : Cell, h[b]? = some k ∧ ∀ q, k.vm ≠ .statics q)
    {g : JFrame} (hg : g.method = m) (hsize : g.locals.size = c.maxLocals) {argsL rest : List Value}
    (hlen : ∀ sig, parseMethodDescriptor y.desc = some sig → argsL.length = sig.parameters.length) (hstack : g.stack = argsL.reverse ++ .ref b :: rest) (hW : 2 * g.monitorRoom + (rest.map fun v => v.category).sum ≤ W)
    (hdg : decode c.code g.pc = .ok (.invokevirtual index, 3)) (ha : (Value.ref b :: argsL).toArray = as') (eT : T.heap = h) {kc ks : Nat} (hkc : cells + rc = kc) (hks : slots + rs = ks) (hc : kc ≤ R.cells) (hs : ks ≤ R.slots) :
    ∃ (v : Option Value) (T' : State) (Lc : List Loc), Stand p l e R s m args below meth c T' (locs ++ Lc) kc ks ∧ Q v T'.heap Lc ∧ Steps p.tables e below (T.setTop g) (T'.setTop { g with pc := g.pc + 3, stack := v.toList ++ rest }) := by
  subst hkc hks
  have hp := Cond.privateMethod_at hpriv
  obtain ⟨c1, r1, m1, -, -, q3, -, kP, hkP, hkPi⟩ := Cond.selects_spec hsel
  have hsel' := selects_self_of_private (findClass_of_methodNamed q3) hkP hkPi hp hinst hy
  obtain ⟨k0, hcell, hobj⟩ := hcl
  obtain ⟨v, vm₁, ⟨T', L', k', n'⟩, -, X', ⟨Lc, hQ, l', y', z'⟩, st⟩ := X.privateBack hexec hown hlink hinst hsel' hp hcode hy hK hg hsize (Steps.refl _) (a := b) (cell := k0) (by rw [eT]; exact hcell) hobj hlen hstack hW hdg (fun _ _ => ⟨ha, eT, hc, hs⟩)
  dsimp only [Pt.U, Pt.locs, Pt.cells, Pt.slots] at X' l' y' z' st hQ
  subst l' y' z'
  exact ⟨v, T', Lc, X', hQ, st⟩
theorem own_notFace {C : String} {y y' : MethodName} (hs : (Jvm.Cond.selects C y' y').before args s = true) (hcc : y'.cls = y.cls) : NotFace s y := fun r0 h0 => by
  obtain ⟨c2, r2, m2, -, -, q3, -, kP, hkP, hkPi⟩ := Cond.selects_spec hs
  have h1 := findClass_of_methodNamed h0
  have h2 := findClass_of_methodNamed q3
  rw [hcc] at h2
  have h3 : m2.cls = r0.cls := Option.some.inj (h2.symm.trans h1)
  exact ⟨kP, h3 ▸ hkP, hkPi⟩
/-- a class that declares a method itself, and is no interface -/
theorem own_sameM {C : String} {y y' : MethodName} (hi : (Jvm.Cond.instanceMethod y).before a0 Z = true) (hs : (Jvm.Cond.selects C y' y').before a0 Z = true) (hcc : y'.cls = y.cls) (hy : y.cls ≠ "java/lang/invoke/MethodHandle" ∧ y.cls ≠ "java/lang/invoke/VarHandle") : (Jvm.Cond.sameMethod y.cls y.cls y.name y.desc).before a0 Z = true := by
  obtain ⟨mk, methM, hnamed, hmethM, -, -⟩ := Cond.instanceMethod_spec hi
  have hfound := State.methodFound?_of_named hnamed hy
  obtain ⟨c1, r1, m1, -, -, q3, -, kP, hkP, hkPi⟩ := Cond.selects_spec hs
  have h1 := findClass_of_methodNamed hnamed
  have h2 := findClass_of_methodNamed q3
  rw [hcc] at h2
  have h3 : m1.cls = mk.cls := Option.some.inj (h2.symm.trans h1)
  rw [h3] at hkP
  have h4 : Z.methodNamed? ⟨y.cls, y.name, y.desc⟩ = some mk := hnamed
  simp only [Jvm.Cond.before, Jvm.Cond.holds, Jvm.Cond.value, h1, hfound, h4, hkP]
  simp [hkPi]
/-- an invokespecial of the superclass's method, by its contract -/
theorem own_super (X : Stand p l e R s m args below meth c T locs cells slots) (hx : p.tables.exec = Jvm.exec) (hZ : Z.Warmed39 s.vm) {own K : String} {index : Nat} {y : MethodName} {bytes : ByteArray} {maxL : Nat} {ret : Option FieldType}
    (hown : s.vm.findClass own = some m.cls) (w1 : (Jvm.Cond.methodLink own index y).before a0 Z = true) (w2 : (Jvm.Cond.sameMethod y.cls y.cls y.name y.desc).before a0 Z = true) (w3 : (Jvm.Cond.instanceMethod y).before a0 Z = true) (w4 : (Jvm.Cond.superclass own y.cls).before a0 Z = true) (hn : y.name ≠ "<init>") (wc : (Jvm.Cond.code y bytes maxL ret).before a0 Z = true)
    {W : Nat} {as' : Array Value} {h : Heap} {rc rs : Nat} {Q : Option Value → Heap → List Loc → Prop} (hK : Back l R p e below s args y 3 W (fun A a => a = as' ∧ A.U.heap = h ∧ A.cells + rc ≤ R.cells ∧ A.slots + rs ≤ R.slots) (fun A _ v B => ∃ L, Q v B.U.heap L ∧ B.locs = A.locs ++ L ∧ B.cells = A.cells + rc ∧ B.slots = A.slots + rs))
    {b : Addr} (F : Ins Z h b K true)
    {g : JFrame} (hg : g.method = m) (hsize : g.locals.size = c.maxLocals) {argsL rest : List Value}
    (hlen : ∀ sig, parseMethodDescriptor y.desc = some sig → argsL.length = sig.parameters.length) (hstack : g.stack = argsL.reverse ++ .ref b :: rest) (hW : 2 * g.monitorRoom + (rest.map fun v => v.category).sum ≤ W)
    (hdg : decode c.code g.pc = .ok (.invokespecial index, 3)) (ha : (Value.ref b :: argsL).toArray = as') (eT : T.heap = h) {kc ks : Nat} (hkc : cells + rc = kc) (hks : slots + rs = ks) (hc : kc ≤ R.cells) (hs : ks ≤ R.slots) :
    ∃ (v : Option Value) (T' : State) (Lc : List Loc), Stand p l e R s m args below meth c T' (locs ++ Lc) kc ks ∧ Q v T'.heap Lc ∧ Steps p.tables e below (T.setTop g) (T'.setTop { g with pc := g.pc + 3, stack := v.toList ++ rest }) := by
  subst hkc hks
  obtain ⟨v, vm₁, ⟨T', L', k', n'⟩, -, X', ⟨Lc, hQ, l', y', z'⟩, st⟩ := superBack X hx hZ hown w1 w2 w3 w4 hn hK eT F hg hsize wc hlen hstack hW hdg (fun _ _ => ⟨ha, eT, hc, hs⟩)
  dsimp only [Pt.U, Pt.locs, Pt.cells, Pt.slots] at X' l' y' z' st hQ
  subst l' y' z'
  exact ⟨v, T', Lc, X', hQ, st⟩
end OwnSb
theorem own_wV : ∀ d ∈ StrChars.Road.words, d ∈ tables_1 := by decide +kernel
theorem own_wEq : ∀ d ∈ StrChars.Road.wordsEq, d ∈ tables_1 := by decide +kernel
def own_c2 (n a b : Int32) : List Int32 := if n = 0 then [] else if n = 1 then [a] else [a, b]
theorem own_c2_0 {a b : Int32} : own_c2 (0 : Int32) a b = [] := by simp +decide [own_c2]
theorem own_c2_1 {a b : Int32} : own_c2 (1 : Int32) a b = [a] := by simp +decide [own_c2]
theorem own_c2_2 {a b : Int32} : own_c2 (2 : Int32) a b = [a, b] := by simp +decide [own_c2]
def own_pf (n a b : Int32) : List Int32 := if n = 0 then [115, 116, 114, 105, 110, 103, 32] else if n = 1 then [115, 116, 114, 105, 110, 103, 32, a] else [115, 116, 114, 105, 110, 103, 32, a, b]
theorem own_pf_0 {a b : Int32} : own_pf (0 : Int32) a b = [115, 116, 114, 105, 110, 103, 32] := by simp +decide [own_pf]
theorem own_pf_1 {a b : Int32} : own_pf (1 : Int32) a b = [115, 116, 114, 105, 110, 103, 32, a] := by simp +decide [own_pf]
theorem own_pf_2 {a b : Int32} : own_pf (2 : Int32) a b = [115, 116, 114, 105, 110, 103, 32, a, b] := by simp +decide [own_pf]
def own_qt (n a b : Int32) : List Int32 := if n = 0 then [34, 34] else if n = 1 then [34, a, 34] else [34, a, b, 34]
theorem own_qt_0 {a b : Int32} : own_qt (0 : Int32) a b = [34, 34] := by simp +decide [own_qt]
theorem own_qt_1 {a b : Int32} : own_qt (1 : Int32) a b = [34, a, 34] := by simp +decide [own_qt]
theorem own_qt_2 {a b : Int32} : own_qt (2 : Int32) a b = [34, a, b, 34] := by simp +decide [own_qt]
theorem own_r5 (x : Int32) {n : Int32} (h : ((x &&& (2147483647 : Int32)) % (5 : Int32)) = n) : n = 0 ∨ n = 1 ∨ n = 2 ∨ n = 3 ∨ n = 4 := by
  subst h
  have e1 : (x &&& 2147483647).toInt = x.toInt % (2 ^ 31 : Nat) := c_mask x 2147483647 31 (by decide) (by decide)
  have e2 := (c_irem (x &&& (2147483647 : Int32)) 5 5 rfl).1 (by rw [e1]; omega)
  rw [← Int32.toInt_inj, ← Int32.toInt_inj, ← Int32.toInt_inj, ← Int32.toInt_inj, ← Int32.toInt_inj]
  show _ = 0 ∨ _ = 1 ∨ _ = 2 ∨ _ = 3 ∨ _ = 4
  first | omega | (rw [e2, e1]; omega)
theorem own_r3 (x : Int32) {n : Int32} (h : ((x &&& (2147483647 : Int32)) % (3 : Int32)) = n) : n = 0 ∨ n = 1 ∨ n = 2 := by
  subst h
  have e1 : (x &&& 2147483647).toInt = x.toInt % (2 ^ 31 : Nat) := c_mask x 2147483647 31 (by decide) (by decide)
  have e2 := (c_irem (x &&& (2147483647 : Int32)) 3 3 rfl).1 (by rw [e1]; omega)
  rw [← Int32.toInt_inj, ← Int32.toInt_inj, ← Int32.toInt_inj]
  show _ = 0 ∨ _ = 1 ∨ _ = 2
  first | omega | (rw [e2, e1]; omega)
theorem own_shr0 (x : Int32) : x >>> ((0 : Int32) &&& 31) = x := by
  have a := c_ishr x (0 : Int32) 0 (by decide)
  rw [← Int32.toInt_inj]
  first | omega | (rw [a]; simp)
theorem own_ht7 : (∀ c ∈ "string ".toList, c.toNat < 256) ∧ "string ".toList.map (fun c => Value.int (Jvm.Lit.byteI c.toNat.toUInt16)) = [(.int ((115 : Int32).toInt8.toInt32)), (.int ((116 : Int32).toInt8.toInt32)), (.int ((114 : Int32).toInt8.toInt32)), (.int ((105 : Int32).toInt8.toInt32)), (.int ((110 : Int32).toInt8.toInt32)), (.int ((103 : Int32).toInt8.toInt32)), (.int ((32 : Int32).toInt8.toInt32))] := by
  refine ⟨?_, ?_⟩
  · first | decide | simp
  · first | rfl | decide +kernel
theorem own_hn7 : 4 * "string ".toList.length ≤ 28 := by first | decide | simp
theorem own_ht15 : (∀ c ∈ "end of document".toList, c.toNat < 256) ∧ "end of document".toList.map (fun c => Value.int (Jvm.Lit.byteI c.toNat.toUInt16)) = [(.int ((101 : Int32).toInt8.toInt32)), (.int ((110 : Int32).toInt8.toInt32)), (.int ((100 : Int32).toInt8.toInt32)), (.int ((32 : Int32).toInt8.toInt32)), (.int ((111 : Int32).toInt8.toInt32)), (.int ((102 : Int32).toInt8.toInt32)), (.int ((32 : Int32).toInt8.toInt32)), (.int ((100 : Int32).toInt8.toInt32)), (.int ((111 : Int32).toInt8.toInt32)), (.int ((99 : Int32).toInt8.toInt32)), (.int ((117 : Int32).toInt8.toInt32)), (.int ((109 : Int32).toInt8.toInt32)), (.int ((101 : Int32).toInt8.toInt32)), (.int ((110 : Int32).toInt8.toInt32)), (.int ((116 : Int32).toInt8.toInt32))] := by
  refine ⟨?_, ?_⟩
  · first | decide | simp
  · first | rfl | decide +kernel
theorem own_hn15 : 4 * "end of document".toList.length ≤ 60 := by first | decide | simp

theorem own_EWof {Z : State} {a0 : Array Value} (hw : ∀ d ∈ tables_1, d.before a0 Z = true) : EW Z a0 own_EL := (EW.cons (text := "end of document") (own_w hw 213 rfl) own_ht15.1 (EW.cons (text := "string ") (own_w hw 208 rfl) own_ht7.1 (EW.cons (text := "end of document") (own_w hw 214 rfl) own_ht15.1 (EW.cons (text := "") (own_w hw 22 rfl) (fun c hc => by cases hc) EW.nil))))
theorem own_wS : ∀ d ∈ Bundle.stringAtoms, d ∈ tables_1 := by decide +kernel
theorem own_d0 : decode jdk_42_method_149_code 0 = .ok (.aload_n 0, 1) := by decide +kernel
theorem own_d1 : decode jdk_42_method_149_code 1 = .ok (.invokespecial 1, 3) := by decide +kernel
theorem own_d2 : decode jdk_42_method_149_code 4 = .ok (.iload_n 3, 1) := by decide +kernel
theorem own_d3 : decode jdk_42_method_149_code 5 = .ok (.ifCond .ne 22, 3) := by decide +kernel
theorem own_d4 : decode jdk_42_method_149_code 8 = .ok (.aload_n 0, 1) := by decide +kernel
theorem own_d5 : decode jdk_42_method_149_code 9 = .ok (.ldc 7, 2) := by decide +kernel
theorem own_d6 : decode jdk_42_method_149_code 11 = .ok (.getfield 9, 3) := by decide +kernel
theorem own_d7 : decode jdk_42_method_149_code 14 = .ok (.putfield 9, 3) := by decide +kernel
theorem own_d8 : decode jdk_42_method_149_code 17 = .ok (.aload_n 0, 1) := by decide +kernel
theorem own_d9 : decode jdk_42_method_149_code 18 = .ok (.ldc 7, 2) := by decide +kernel
theorem own_d10 : decode jdk_42_method_149_code 20 = .ok (.getfield 15, 3) := by decide +kernel
theorem own_d11 : decode jdk_42_method_149_code 23 = .ok (.putfield 15, 3) := by decide +kernel
theorem own_d12 : decode jdk_42_method_149_code 26 = .ok (.return_, 1) := by decide +kernel
theorem own_d13 : decode jdk_42_method_3_code 0 = .ok (.aload_n 0, 1) := by decide +kernel
theorem own_d14 : decode jdk_42_method_3_code 1 = .ok (.aload_n 1, 1) := by decide +kernel
theorem own_d15 : decode jdk_42_method_3_code 2 = .ok (.iconst 0, 1) := by decide +kernel
theorem own_d16 : decode jdk_42_method_3_code 3 = .ok (.aload_n 1, 1) := by decide +kernel
theorem own_d17 : decode jdk_42_method_3_code 4 = .ok (.arraylength, 1) := by decide +kernel
theorem own_d18 : decode jdk_42_method_3_code 5 = .ok (.aconst_null, 1) := by decide +kernel
theorem own_d19 : decode jdk_42_method_3_code 6 = .ok (.invokespecial 27, 3) := by decide +kernel
theorem own_d20 : decode jdk_42_method_3_code 9 = .ok (.return_, 1) := by decide +kernel
theorem own_d21 : decode jdk_42_method_152_code 0 = .ok (.getstatic 38, 3) := by decide +kernel
theorem own_d22 : decode jdk_42_method_152_code 3 = .ok (.ifCond .eq 10, 3) := by decide +kernel
theorem own_d23 : decode jdk_42_method_152_code 6 = .ok (.aload_n 0, 1) := by decide +kernel
theorem own_d24 : decode jdk_42_method_152_code 7 = .ok (.getfield 15, 3) := by decide +kernel
theorem own_d25 : decode jdk_42_method_152_code 10 = .ok (.goto 4, 3) := by decide +kernel
theorem own_d26 : decode jdk_42_method_152_code 14 = .ok (.ireturn, 1) := by decide +kernel
theorem own_d27 : decode method_3_code 0 = .ok (.iload_n 0, 1) := by decide +kernel
theorem own_d28 : decode method_3_code 1 = .ok (.ifCond .ne 14, 3) := by decide +kernel
theorem own_d29 : decode method_3_code 4 = .ok (.new 50, 3) := by decide +kernel
theorem own_d30 : decode method_3_code 7 = .ok (.dup, 1) := by decide +kernel
theorem own_d31 : decode method_3_code 8 = .ok (.iconst 0, 1) := by decide +kernel
theorem own_d32 : decode method_3_code 9 = .ok (.newarray .char, 2) := by decide +kernel
theorem own_d33 : decode method_3_code 11 = .ok (.invokespecial 55, 3) := by decide +kernel
theorem own_d34 : decode method_3_code 14 = .ok (.areturn, 1) := by decide +kernel
theorem own_d35 : decode method_3_code 15 = .ok (.iload_n 0, 1) := by decide +kernel
theorem own_d36 : decode method_3_code 16 = .ok (.iconst 1, 1) := by decide +kernel
theorem own_d37 : decode method_3_code 17 = .ok (.if_icmp .ne 18, 3) := by decide +kernel
theorem own_d38 : decode method_3_code 20 = .ok (.new 50, 3) := by decide +kernel
theorem own_d39 : decode method_3_code 23 = .ok (.dup, 1) := by decide +kernel
theorem own_d40 : decode method_3_code 24 = .ok (.iconst 1, 1) := by decide +kernel
theorem own_d41 : decode method_3_code 25 = .ok (.newarray .char, 2) := by decide +kernel
theorem own_d42 : decode method_3_code 27 = .ok (.dup, 1) := by decide +kernel
theorem own_d43 : decode method_3_code 28 = .ok (.iconst 0, 1) := by decide +kernel
theorem own_d44 : decode method_3_code 29 = .ok (.iload_n 1, 1) := by decide +kernel
theorem own_d45 : decode method_3_code 30 = .ok (.castore, 1) := by decide +kernel
theorem own_d46 : decode method_3_code 31 = .ok (.invokespecial 55, 3) := by decide +kernel
theorem own_d47 : decode method_3_code 34 = .ok (.areturn, 1) := by decide +kernel
theorem own_d48 : decode method_3_code 35 = .ok (.new 50, 3) := by decide +kernel
theorem own_d49 : decode method_3_code 38 = .ok (.dup, 1) := by decide +kernel
theorem own_d50 : decode method_3_code 39 = .ok (.iconst 2, 1) := by decide +kernel
theorem own_d51 : decode method_3_code 40 = .ok (.newarray .char, 2) := by decide +kernel
theorem own_d52 : decode method_3_code 42 = .ok (.dup, 1) := by decide +kernel
theorem own_d53 : decode method_3_code 43 = .ok (.iconst 0, 1) := by decide +kernel
theorem own_d54 : decode method_3_code 44 = .ok (.iload_n 1, 1) := by decide +kernel
theorem own_d55 : decode method_3_code 45 = .ok (.castore, 1) := by decide +kernel
theorem own_d56 : decode method_3_code 46 = .ok (.dup, 1) := by decide +kernel
theorem own_d57 : decode method_3_code 47 = .ok (.iconst 1, 1) := by decide +kernel
theorem own_d58 : decode method_3_code 48 = .ok (.iload_n 2, 1) := by decide +kernel
theorem own_d59 : decode method_3_code 49 = .ok (.castore, 1) := by decide +kernel
theorem own_d60 : decode method_3_code 50 = .ok (.invokespecial 55, 3) := by decide +kernel
theorem own_d61 : decode method_3_code 53 = .ok (.areturn, 1) := by decide +kernel
theorem own_d62 : decode method_4_code 0 = .ok (.iload_n 0, 1) := by decide +kernel
theorem own_d63 : decode method_4_code 1 = .ok (.ifCond .ne 51, 3) := by decide +kernel
theorem own_d64 : decode method_4_code 4 = .ok (.new 50, 3) := by decide +kernel
theorem own_d65 : decode method_4_code 7 = .ok (.dup, 1) := by decide +kernel
theorem own_d66 : decode method_4_code 8 = .ok (.bipush 7, 2) := by decide +kernel
theorem own_d67 : decode method_4_code 10 = .ok (.newarray .char, 2) := by decide +kernel
theorem own_d68 : decode method_4_code 12 = .ok (.dup, 1) := by decide +kernel
theorem own_d69 : decode method_4_code 13 = .ok (.iconst 0, 1) := by decide +kernel
theorem own_d70 : decode method_4_code 14 = .ok (.bipush 115, 2) := by decide +kernel
theorem own_d71 : decode method_4_code 16 = .ok (.castore, 1) := by decide +kernel
theorem own_d72 : decode method_4_code 17 = .ok (.dup, 1) := by decide +kernel
theorem own_d73 : decode method_4_code 18 = .ok (.iconst 1, 1) := by decide +kernel
theorem own_d74 : decode method_4_code 19 = .ok (.bipush 116, 2) := by decide +kernel
theorem own_d75 : decode method_4_code 21 = .ok (.castore, 1) := by decide +kernel
theorem own_d76 : decode method_4_code 22 = .ok (.dup, 1) := by decide +kernel
theorem own_d77 : decode method_4_code 23 = .ok (.iconst 2, 1) := by decide +kernel
theorem own_d78 : decode method_4_code 24 = .ok (.bipush 114, 2) := by decide +kernel
theorem own_d79 : decode method_4_code 26 = .ok (.castore, 1) := by decide +kernel
theorem own_d80 : decode method_4_code 27 = .ok (.dup, 1) := by decide +kernel
theorem own_d81 : decode method_4_code 28 = .ok (.iconst 3, 1) := by decide +kernel
theorem own_d82 : decode method_4_code 29 = .ok (.bipush 105, 2) := by decide +kernel
theorem own_d83 : decode method_4_code 31 = .ok (.castore, 1) := by decide +kernel
theorem own_d84 : decode method_4_code 32 = .ok (.dup, 1) := by decide +kernel
theorem own_d85 : decode method_4_code 33 = .ok (.iconst 4, 1) := by decide +kernel
theorem own_d86 : decode method_4_code 34 = .ok (.bipush 110, 2) := by decide +kernel
theorem own_d87 : decode method_4_code 36 = .ok (.castore, 1) := by decide +kernel
theorem own_d88 : decode method_4_code 37 = .ok (.dup, 1) := by decide +kernel
theorem own_d89 : decode method_4_code 38 = .ok (.iconst 5, 1) := by decide +kernel
theorem own_d90 : decode method_4_code 39 = .ok (.bipush 103, 2) := by decide +kernel
theorem own_d91 : decode method_4_code 41 = .ok (.castore, 1) := by decide +kernel
theorem own_d92 : decode method_4_code 42 = .ok (.dup, 1) := by decide +kernel
theorem own_d93 : decode method_4_code 43 = .ok (.bipush 6, 2) := by decide +kernel
theorem own_d94 : decode method_4_code 45 = .ok (.bipush 32, 2) := by decide +kernel
theorem own_d95 : decode method_4_code 47 = .ok (.castore, 1) := by decide +kernel
theorem own_d96 : decode method_4_code 48 = .ok (.invokespecial 55, 3) := by decide +kernel
theorem own_d97 : decode method_4_code 51 = .ok (.areturn, 1) := by decide +kernel
theorem own_d98 : decode method_4_code 52 = .ok (.iload_n 0, 1) := by decide +kernel
theorem own_d99 : decode method_4_code 53 = .ok (.iconst 1, 1) := by decide +kernel
theorem own_d100 : decode method_4_code 54 = .ok (.if_icmp .ne 56, 3) := by decide +kernel
theorem own_d101 : decode method_4_code 57 = .ok (.new 50, 3) := by decide +kernel
theorem own_d102 : decode method_4_code 60 = .ok (.dup, 1) := by decide +kernel
theorem own_d103 : decode method_4_code 61 = .ok (.bipush 8, 2) := by decide +kernel
theorem own_d104 : decode method_4_code 63 = .ok (.newarray .char, 2) := by decide +kernel
theorem own_d105 : decode method_4_code 65 = .ok (.dup, 1) := by decide +kernel
theorem own_d106 : decode method_4_code 66 = .ok (.iconst 0, 1) := by decide +kernel
theorem own_d107 : decode method_4_code 67 = .ok (.bipush 115, 2) := by decide +kernel
theorem own_d108 : decode method_4_code 69 = .ok (.castore, 1) := by decide +kernel
theorem own_d109 : decode method_4_code 70 = .ok (.dup, 1) := by decide +kernel
theorem own_d110 : decode method_4_code 71 = .ok (.iconst 1, 1) := by decide +kernel
theorem own_d111 : decode method_4_code 72 = .ok (.bipush 116, 2) := by decide +kernel
theorem own_d112 : decode method_4_code 74 = .ok (.castore, 1) := by decide +kernel
theorem own_d113 : decode method_4_code 75 = .ok (.dup, 1) := by decide +kernel
theorem own_d114 : decode method_4_code 76 = .ok (.iconst 2, 1) := by decide +kernel
theorem own_d115 : decode method_4_code 77 = .ok (.bipush 114, 2) := by decide +kernel
theorem own_d116 : decode method_4_code 79 = .ok (.castore, 1) := by decide +kernel
theorem own_d117 : decode method_4_code 80 = .ok (.dup, 1) := by decide +kernel
theorem own_d118 : decode method_4_code 81 = .ok (.iconst 3, 1) := by decide +kernel
theorem own_d119 : decode method_4_code 82 = .ok (.bipush 105, 2) := by decide +kernel
theorem own_d120 : decode method_4_code 84 = .ok (.castore, 1) := by decide +kernel
theorem own_d121 : decode method_4_code 85 = .ok (.dup, 1) := by decide +kernel
theorem own_d122 : decode method_4_code 86 = .ok (.iconst 4, 1) := by decide +kernel
theorem own_d123 : decode method_4_code 87 = .ok (.bipush 110, 2) := by decide +kernel
theorem own_d124 : decode method_4_code 89 = .ok (.castore, 1) := by decide +kernel
theorem own_d125 : decode method_4_code 90 = .ok (.dup, 1) := by decide +kernel
theorem own_d126 : decode method_4_code 91 = .ok (.iconst 5, 1) := by decide +kernel
theorem own_d127 : decode method_4_code 92 = .ok (.bipush 103, 2) := by decide +kernel
theorem own_d128 : decode method_4_code 94 = .ok (.castore, 1) := by decide +kernel
theorem own_d129 : decode method_4_code 95 = .ok (.dup, 1) := by decide +kernel
theorem own_d130 : decode method_4_code 96 = .ok (.bipush 6, 2) := by decide +kernel
theorem own_d131 : decode method_4_code 98 = .ok (.bipush 32, 2) := by decide +kernel
theorem own_d132 : decode method_4_code 100 = .ok (.castore, 1) := by decide +kernel
theorem own_d133 : decode method_4_code 101 = .ok (.dup, 1) := by decide +kernel
theorem own_d134 : decode method_4_code 102 = .ok (.bipush 7, 2) := by decide +kernel
theorem own_d135 : decode method_4_code 104 = .ok (.iload_n 1, 1) := by decide +kernel
theorem own_d136 : decode method_4_code 105 = .ok (.castore, 1) := by decide +kernel
theorem own_d137 : decode method_4_code 106 = .ok (.invokespecial 55, 3) := by decide +kernel
theorem own_d138 : decode method_4_code 109 = .ok (.areturn, 1) := by decide +kernel
theorem own_d139 : decode method_4_code 110 = .ok (.new 50, 3) := by decide +kernel
theorem own_d140 : decode method_4_code 113 = .ok (.dup, 1) := by decide +kernel
theorem own_d141 : decode method_4_code 114 = .ok (.bipush 9, 2) := by decide +kernel
theorem own_d142 : decode method_4_code 116 = .ok (.newarray .char, 2) := by decide +kernel
theorem own_d143 : decode method_4_code 118 = .ok (.dup, 1) := by decide +kernel
theorem own_d144 : decode method_4_code 119 = .ok (.iconst 0, 1) := by decide +kernel
theorem own_d145 : decode method_4_code 120 = .ok (.bipush 115, 2) := by decide +kernel
theorem own_d146 : decode method_4_code 122 = .ok (.castore, 1) := by decide +kernel
theorem own_d147 : decode method_4_code 123 = .ok (.dup, 1) := by decide +kernel
theorem own_d148 : decode method_4_code 124 = .ok (.iconst 1, 1) := by decide +kernel
theorem own_d149 : decode method_4_code 125 = .ok (.bipush 116, 2) := by decide +kernel
theorem own_d150 : decode method_4_code 127 = .ok (.castore, 1) := by decide +kernel
theorem own_d151 : decode method_4_code 128 = .ok (.dup, 1) := by decide +kernel
theorem own_d152 : decode method_4_code 129 = .ok (.iconst 2, 1) := by decide +kernel
theorem own_d153 : decode method_4_code 130 = .ok (.bipush 114, 2) := by decide +kernel
theorem own_d154 : decode method_4_code 132 = .ok (.castore, 1) := by decide +kernel
theorem own_d155 : decode method_4_code 133 = .ok (.dup, 1) := by decide +kernel
theorem own_d156 : decode method_4_code 134 = .ok (.iconst 3, 1) := by decide +kernel
theorem own_d157 : decode method_4_code 135 = .ok (.bipush 105, 2) := by decide +kernel
theorem own_d158 : decode method_4_code 137 = .ok (.castore, 1) := by decide +kernel
theorem own_d159 : decode method_4_code 138 = .ok (.dup, 1) := by decide +kernel
theorem own_d160 : decode method_4_code 139 = .ok (.iconst 4, 1) := by decide +kernel
theorem own_d161 : decode method_4_code 140 = .ok (.bipush 110, 2) := by decide +kernel
theorem own_d162 : decode method_4_code 142 = .ok (.castore, 1) := by decide +kernel
theorem own_d163 : decode method_4_code 143 = .ok (.dup, 1) := by decide +kernel
theorem own_d164 : decode method_4_code 144 = .ok (.iconst 5, 1) := by decide +kernel
theorem own_d165 : decode method_4_code 145 = .ok (.bipush 103, 2) := by decide +kernel
theorem own_d166 : decode method_4_code 147 = .ok (.castore, 1) := by decide +kernel
theorem own_d167 : decode method_4_code 148 = .ok (.dup, 1) := by decide +kernel
theorem own_d168 : decode method_4_code 149 = .ok (.bipush 6, 2) := by decide +kernel
theorem own_d169 : decode method_4_code 151 = .ok (.bipush 32, 2) := by decide +kernel
theorem own_d170 : decode method_4_code 153 = .ok (.castore, 1) := by decide +kernel
theorem own_d171 : decode method_4_code 154 = .ok (.dup, 1) := by decide +kernel
theorem own_d172 : decode method_4_code 155 = .ok (.bipush 7, 2) := by decide +kernel
theorem own_d173 : decode method_4_code 157 = .ok (.iload_n 1, 1) := by decide +kernel
theorem own_d174 : decode method_4_code 158 = .ok (.castore, 1) := by decide +kernel
theorem own_d175 : decode method_4_code 159 = .ok (.dup, 1) := by decide +kernel
theorem own_d176 : decode method_4_code 160 = .ok (.bipush 8, 2) := by decide +kernel
theorem own_d177 : decode method_4_code 162 = .ok (.iload_n 2, 1) := by decide +kernel
theorem own_d178 : decode method_4_code 163 = .ok (.castore, 1) := by decide +kernel
theorem own_d179 : decode method_4_code 164 = .ok (.invokespecial 55, 3) := by decide +kernel
theorem own_d180 : decode method_4_code 167 = .ok (.areturn, 1) := by decide +kernel
theorem own_d181 : decode method_5_code 0 = .ok (.iload_n 0, 1) := by decide +kernel
theorem own_d182 : decode method_5_code 1 = .ok (.ifCond .ne 24, 3) := by decide +kernel
theorem own_d183 : decode method_5_code 4 = .ok (.new 50, 3) := by decide +kernel
theorem own_d184 : decode method_5_code 7 = .ok (.dup, 1) := by decide +kernel
theorem own_d185 : decode method_5_code 8 = .ok (.iconst 2, 1) := by decide +kernel
theorem own_d186 : decode method_5_code 9 = .ok (.newarray .char, 2) := by decide +kernel
theorem own_d187 : decode method_5_code 11 = .ok (.dup, 1) := by decide +kernel
theorem own_d188 : decode method_5_code 12 = .ok (.iconst 0, 1) := by decide +kernel
theorem own_d189 : decode method_5_code 13 = .ok (.bipush 34, 2) := by decide +kernel
theorem own_d190 : decode method_5_code 15 = .ok (.castore, 1) := by decide +kernel
theorem own_d191 : decode method_5_code 16 = .ok (.dup, 1) := by decide +kernel
theorem own_d192 : decode method_5_code 17 = .ok (.iconst 1, 1) := by decide +kernel
theorem own_d193 : decode method_5_code 18 = .ok (.bipush 34, 2) := by decide +kernel
theorem own_d194 : decode method_5_code 20 = .ok (.castore, 1) := by decide +kernel
theorem own_d195 : decode method_5_code 21 = .ok (.invokespecial 55, 3) := by decide +kernel
theorem own_d196 : decode method_5_code 24 = .ok (.areturn, 1) := by decide +kernel
theorem own_d197 : decode method_5_code 25 = .ok (.iload_n 0, 1) := by decide +kernel
theorem own_d198 : decode method_5_code 26 = .ok (.iconst 1, 1) := by decide +kernel
theorem own_d199 : decode method_5_code 27 = .ok (.if_icmp .ne 28, 3) := by decide +kernel
theorem own_d200 : decode method_5_code 30 = .ok (.new 50, 3) := by decide +kernel
theorem own_d201 : decode method_5_code 33 = .ok (.dup, 1) := by decide +kernel
theorem own_d202 : decode method_5_code 34 = .ok (.iconst 3, 1) := by decide +kernel
theorem own_d203 : decode method_5_code 35 = .ok (.newarray .char, 2) := by decide +kernel
theorem own_d204 : decode method_5_code 37 = .ok (.dup, 1) := by decide +kernel
theorem own_d205 : decode method_5_code 38 = .ok (.iconst 0, 1) := by decide +kernel
theorem own_d206 : decode method_5_code 39 = .ok (.bipush 34, 2) := by decide +kernel
theorem own_d207 : decode method_5_code 41 = .ok (.castore, 1) := by decide +kernel
theorem own_d208 : decode method_5_code 42 = .ok (.dup, 1) := by decide +kernel
theorem own_d209 : decode method_5_code 43 = .ok (.iconst 1, 1) := by decide +kernel
theorem own_d210 : decode method_5_code 44 = .ok (.iload_n 1, 1) := by decide +kernel
theorem own_d211 : decode method_5_code 45 = .ok (.castore, 1) := by decide +kernel
theorem own_d212 : decode method_5_code 46 = .ok (.dup, 1) := by decide +kernel
theorem own_d213 : decode method_5_code 47 = .ok (.iconst 2, 1) := by decide +kernel
theorem own_d214 : decode method_5_code 48 = .ok (.bipush 34, 2) := by decide +kernel
theorem own_d215 : decode method_5_code 50 = .ok (.castore, 1) := by decide +kernel
theorem own_d216 : decode method_5_code 51 = .ok (.invokespecial 55, 3) := by decide +kernel
theorem own_d217 : decode method_5_code 54 = .ok (.areturn, 1) := by decide +kernel
theorem own_d218 : decode method_5_code 55 = .ok (.new 50, 3) := by decide +kernel
theorem own_d219 : decode method_5_code 58 = .ok (.dup, 1) := by decide +kernel
theorem own_d220 : decode method_5_code 59 = .ok (.iconst 4, 1) := by decide +kernel
theorem own_d221 : decode method_5_code 60 = .ok (.newarray .char, 2) := by decide +kernel
theorem own_d222 : decode method_5_code 62 = .ok (.dup, 1) := by decide +kernel
theorem own_d223 : decode method_5_code 63 = .ok (.iconst 0, 1) := by decide +kernel
theorem own_d224 : decode method_5_code 64 = .ok (.bipush 34, 2) := by decide +kernel
theorem own_d225 : decode method_5_code 66 = .ok (.castore, 1) := by decide +kernel
theorem own_d226 : decode method_5_code 67 = .ok (.dup, 1) := by decide +kernel
theorem own_d227 : decode method_5_code 68 = .ok (.iconst 1, 1) := by decide +kernel
theorem own_d228 : decode method_5_code 69 = .ok (.iload_n 1, 1) := by decide +kernel
theorem own_d229 : decode method_5_code 70 = .ok (.castore, 1) := by decide +kernel
theorem own_d230 : decode method_5_code 71 = .ok (.dup, 1) := by decide +kernel
theorem own_d231 : decode method_5_code 72 = .ok (.iconst 2, 1) := by decide +kernel
theorem own_d232 : decode method_5_code 73 = .ok (.iload_n 2, 1) := by decide +kernel
theorem own_d233 : decode method_5_code 74 = .ok (.castore, 1) := by decide +kernel
theorem own_d234 : decode method_5_code 75 = .ok (.dup, 1) := by decide +kernel
theorem own_d235 : decode method_5_code 76 = .ok (.iconst 3, 1) := by decide +kernel
theorem own_d236 : decode method_5_code 77 = .ok (.bipush 34, 2) := by decide +kernel
theorem own_d237 : decode method_5_code 79 = .ok (.castore, 1) := by decide +kernel
theorem own_d238 : decode method_5_code 80 = .ok (.invokespecial 55, 3) := by decide +kernel
theorem own_d239 : decode method_5_code 83 = .ok (.areturn, 1) := by decide +kernel
theorem own_d240 : decode prog_18_method_1_code 0 = .ok (.aload_n 0, 1) := by decide +kernel
theorem own_d241 : decode prog_18_method_1_code 1 = .ok (.invokespecial 1, 3) := by decide +kernel
theorem own_d242 : decode prog_18_method_1_code 4 = .ok (.aload_n 0, 1) := by decide +kernel
theorem own_d243 : decode prog_18_method_1_code 5 = .ok (.aload_n 1, 1) := by decide +kernel
theorem own_d244 : decode prog_18_method_1_code 6 = .ok (.putfield 7, 3) := by decide +kernel
theorem own_d245 : decode prog_18_method_1_code 9 = .ok (.aload_n 0, 1) := by decide +kernel
theorem own_d246 : decode prog_18_method_1_code 10 = .ok (.aload_n 2, 1) := by decide +kernel
theorem own_d247 : decode prog_18_method_1_code 11 = .ok (.putfield 13, 3) := by decide +kernel
theorem own_d248 : decode prog_18_method_1_code 14 = .ok (.aload_n 0, 1) := by decide +kernel
theorem own_d249 : decode prog_18_method_1_code 15 = .ok (.aload_n 3, 1) := by decide +kernel
theorem own_d250 : decode prog_18_method_1_code 16 = .ok (.putfield 17, 3) := by decide +kernel
theorem own_d251 : decode prog_18_method_1_code 19 = .ok (.aload_n 0, 1) := by decide +kernel
theorem own_d252 : decode prog_18_method_1_code 20 = .ok (.iload 4, 2) := by decide +kernel
theorem own_d253 : decode prog_18_method_1_code 22 = .ok (.putfield 20, 3) := by decide +kernel
theorem own_d254 : decode prog_18_method_1_code 25 = .ok (.aload_n 0, 1) := by decide +kernel
theorem own_d255 : decode prog_18_method_1_code 26 = .ok (.iload 5, 2) := by decide +kernel
theorem own_d256 : decode prog_18_method_1_code 28 = .ok (.putfield 24, 3) := by decide +kernel
theorem own_d257 : decode prog_18_method_1_code 31 = .ok (.return_, 1) := by decide +kernel
theorem own_d258 : decode jdk_68_method_2_code 0 = .ok (.aload_n 0, 1) := by decide +kernel
theorem own_d259 : decode jdk_68_method_2_code 1 = .ok (.invokespecial 3, 3) := by decide +kernel
theorem own_d260 : decode jdk_68_method_2_code 4 = .ok (.getstatic 18, 3) := by decide +kernel
theorem own_d261 : decode jdk_68_method_2_code 7 = .ok (.ifCond .eq 18, 3) := by decide +kernel
theorem own_d262 : decode jdk_68_method_2_code 10 = .ok (.aload_n 0, 1) := by decide +kernel
theorem own_d263 : decode jdk_68_method_2_code 11 = .ok (.iload_n 1, 1) := by decide +kernel
theorem own_d264 : decode jdk_68_method_2_code 12 = .ok (.newarray .byte, 2) := by decide +kernel
theorem own_d265 : decode jdk_68_method_2_code 14 = .ok (.putfield 15, 3) := by decide +kernel
theorem own_d266 : decode jdk_68_method_2_code 17 = .ok (.aload_n 0, 1) := by decide +kernel
theorem own_d267 : decode jdk_68_method_2_code 18 = .ok (.iconst 0, 1) := by decide +kernel
theorem own_d268 : decode jdk_68_method_2_code 19 = .ok (.putfield 22, 3) := by decide +kernel
theorem own_d269 : decode jdk_68_method_2_code 22 = .ok (.goto 16, 3) := by decide +kernel
theorem own_d270 : decode jdk_68_method_2_code 38 = .ok (.return_, 1) := by decide +kernel
theorem own_d271 : decode jdk_67_method_1_code 0 = .ok (.aload_n 0, 1) := by decide +kernel
theorem own_d272 : decode jdk_67_method_1_code 1 = .ok (.bipush 16, 2) := by decide +kernel
theorem own_d273 : decode jdk_67_method_1_code 3 = .ok (.invokespecial 1, 3) := by decide +kernel
theorem own_d274 : decode jdk_67_method_1_code 6 = .ok (.return_, 1) := by decide +kernel
theorem own_d275 : decode jdk_68_method_9_code 0 = .ok (.aload_n 0, 1) := by decide +kernel
theorem own_d276 : decode jdk_68_method_9_code 1 = .ok (.getfield 15, 3) := by decide +kernel
theorem own_d277 : decode jdk_68_method_9_code 4 = .ok (.arraylength, 1) := by decide +kernel
theorem own_d278 : decode jdk_68_method_9_code 5 = .ok (.aload_n 0, 1) := by decide +kernel
theorem own_d279 : decode jdk_68_method_9_code 6 = .ok (.getfield 22, 3) := by decide +kernel
theorem own_d280 : decode jdk_68_method_9_code 9 = .ok (.ishr, 1) := by decide +kernel
theorem own_d281 : decode jdk_68_method_9_code 10 = .ok (.istore_n 2, 1) := by decide +kernel
theorem own_d282 : decode jdk_68_method_9_code 11 = .ok (.iload_n 1, 1) := by decide +kernel
theorem own_d283 : decode jdk_68_method_9_code 12 = .ok (.iload_n 2, 1) := by decide +kernel
theorem own_d284 : decode jdk_68_method_9_code 13 = .ok (.isub, 1) := by decide +kernel
theorem own_d285 : decode jdk_68_method_9_code 14 = .ok (.ifCond .le 24, 3) := by decide +kernel
theorem own_d286 : decode jdk_68_method_9_code 38 = .ok (.return_, 1) := by decide +kernel
theorem own_d287 : decode jdk_68_method_68_code 0 = .ok (.getstatic 18, 3) := by decide +kernel
theorem own_d288 : decode jdk_68_method_68_code 3 = .ok (.ifCond .eq 14, 3) := by decide +kernel
theorem own_d289 : decode jdk_68_method_68_code 6 = .ok (.aload_n 0, 1) := by decide +kernel
theorem own_d290 : decode jdk_68_method_68_code 7 = .ok (.getfield 22, 3) := by decide +kernel
theorem own_d291 : decode jdk_68_method_68_code 10 = .ok (.ifCond .ne 7, 3) := by decide +kernel
theorem own_d292 : decode jdk_68_method_68_code 13 = .ok (.iconst 1, 1) := by decide +kernel
theorem own_d293 : decode jdk_68_method_68_code 14 = .ok (.goto 4, 3) := by decide +kernel
theorem own_d294 : decode jdk_68_method_68_code 18 = .ok (.ireturn, 1) := by decide +kernel
theorem own_d295 : decode jdk_43_method_3_code 0 = .ok (.iload_n 0, 1) := by decide +kernel
theorem own_d296 : decode jdk_43_method_3_code 1 = .ok (.sipush 255, 3) := by decide +kernel
theorem own_d297 : decode jdk_43_method_3_code 4 = .ok (.if_icmp .gt 7, 3) := by decide +kernel
theorem own_d298 : decode jdk_43_method_3_code 7 = .ok (.iconst 1, 1) := by decide +kernel
theorem own_d299 : decode jdk_43_method_3_code 8 = .ok (.goto 4, 3) := by decide +kernel
theorem own_d300 : decode jdk_43_method_3_code 12 = .ok (.ireturn, 1) := by decide +kernel
theorem own_d301 : decode jdk_68_method_71_code 0 = .ok (.getstatic 18, 3) := by decide +kernel
theorem own_d302 : decode jdk_68_method_71_code 3 = .ok (.ifCond .eq 18, 3) := by decide +kernel
theorem own_d303 : decode jdk_68_method_71_code 6 = .ok (.aload_n 0, 1) := by decide +kernel
theorem own_d304 : decode jdk_68_method_71_code 7 = .ok (.getfield 22, 3) := by decide +kernel
theorem own_d305 : decode jdk_68_method_71_code 10 = .ok (.aload_n 1, 1) := by decide +kernel
theorem own_d306 : decode jdk_68_method_71_code 11 = .ok (.invokevirtual 40, 3) := by decide +kernel
theorem own_d307 : decode jdk_68_method_71_code 14 = .ok (.if_icmp .eq 7, 3) := by decide +kernel
theorem own_d308 : decode jdk_68_method_71_code 21 = .ok (.return_, 1) := by decide +kernel
theorem own_d309 : decode jdk_68_method_64_code 0 = .ok (.aload_n 0, 1) := by decide +kernel
theorem own_d310 : decode jdk_68_method_64_code 1 = .ok (.getfield 15, 3) := by decide +kernel
theorem own_d311 : decode jdk_68_method_64_code 4 = .ok (.areturn, 1) := by decide +kernel
theorem own_d312 : decode jdk_68_method_6_code 0 = .ok (.aload_n 0, 1) := by decide +kernel
theorem own_d313 : decode jdk_68_method_6_code 1 = .ok (.getfield 79, 3) := by decide +kernel
theorem own_d314 : decode jdk_68_method_6_code 4 = .ok (.ireturn, 1) := by decide +kernel
theorem own_d315 : decode jdk_67_method_93_code 0 = .ok (.aload_n 0, 1) := by decide +kernel
theorem own_d316 : decode jdk_67_method_93_code 1 = .ok (.invokespecial 343, 3) := by decide +kernel
theorem own_d317 : decode jdk_67_method_93_code 4 = .ok (.ireturn, 1) := by decide +kernel
theorem own_d318 : decode jdk_42_method_147_code 0 = .ok (.aload_n 0, 1) := by decide +kernel
theorem own_d319 : decode jdk_42_method_147_code 1 = .ok (.invokevirtual 335, 3) := by decide +kernel
theorem own_d320 : decode jdk_42_method_147_code 4 = .ok (.iload_n 3, 1) := by decide +kernel
theorem own_d321 : decode jdk_42_method_147_code 5 = .ok (.if_icmp .ne 23, 3) := by decide +kernel
theorem own_d322 : decode jdk_42_method_147_code 8 = .ok (.aload_n 0, 1) := by decide +kernel
theorem own_d323 : decode jdk_42_method_147_code 9 = .ok (.getfield 9, 3) := by decide +kernel
theorem own_d324 : decode jdk_42_method_147_code 12 = .ok (.iconst 0, 1) := by decide +kernel
theorem own_d325 : decode jdk_42_method_147_code 13 = .ok (.aload_n 1, 1) := by decide +kernel
theorem own_d326 : decode jdk_42_method_147_code 14 = .ok (.iload_n 2, 1) := by decide +kernel
theorem own_d327 : decode jdk_42_method_147_code 15 = .ok (.iload_n 3, 1) := by decide +kernel
theorem own_d328 : decode jdk_42_method_147_code 16 = .ok (.ishl, 1) := by decide +kernel
theorem own_d329 : decode jdk_42_method_147_code 17 = .ok (.aload_n 0, 1) := by decide +kernel
theorem own_d330 : decode jdk_42_method_147_code 18 = .ok (.getfield 9, 3) := by decide +kernel
theorem own_d331 : decode jdk_42_method_147_code 21 = .ok (.arraylength, 1) := by decide +kernel
theorem own_d332 : decode jdk_42_method_147_code 22 = .ok (.invokestatic 212, 3) := by decide +kernel
theorem own_d333 : decode jdk_42_method_147_code 25 = .ok (.goto 18, 3) := by decide +kernel
theorem own_d334 : decode jdk_42_method_147_code 43 = .ok (.return_, 1) := by decide +kernel
theorem own_d335 : decode jdk_42_method_54_code 0 = .ok (.aload_n 0, 1) := by decide +kernel
theorem own_d336 : decode jdk_42_method_54_code 1 = .ok (.getfield 9, 3) := by decide +kernel
theorem own_d337 : decode jdk_42_method_54_code 4 = .ok (.arraylength, 1) := by decide +kernel
theorem own_d338 : decode jdk_42_method_54_code 5 = .ok (.aload_n 0, 1) := by decide +kernel
theorem own_d339 : decode jdk_42_method_54_code 6 = .ok (.invokevirtual 335, 3) := by decide +kernel
theorem own_d340 : decode jdk_42_method_54_code 9 = .ok (.ishr, 1) := by decide +kernel
theorem own_d341 : decode jdk_42_method_54_code 10 = .ok (.ireturn, 1) := by decide +kernel
theorem own_d342 : decode jdk_68_method_73_code 0 = .ok (.aload_n 0, 1) := by decide +kernel
theorem own_d343 : decode jdk_68_method_73_code 1 = .ok (.aload_n 2, 1) := by decide +kernel
theorem own_d344 : decode jdk_68_method_73_code 2 = .ok (.invokevirtual 397, 3) := by decide +kernel
theorem own_d345 : decode jdk_68_method_73_code 5 = .ok (.aload_n 2, 1) := by decide +kernel
theorem own_d346 : decode jdk_68_method_73_code 6 = .ok (.aload_n 0, 1) := by decide +kernel
theorem own_d347 : decode jdk_68_method_73_code 7 = .ok (.getfield 15, 3) := by decide +kernel
theorem own_d348 : decode jdk_68_method_73_code 10 = .ok (.iload_n 1, 1) := by decide +kernel
theorem own_d349 : decode jdk_68_method_73_code 11 = .ok (.aload_n 0, 1) := by decide +kernel
theorem own_d350 : decode jdk_68_method_73_code 12 = .ok (.getfield 22, 3) := by decide +kernel
theorem own_d351 : decode jdk_68_method_73_code 15 = .ok (.invokevirtual 399, 3) := by decide +kernel
theorem own_d352 : decode jdk_68_method_73_code 18 = .ok (.return_, 1) := by decide +kernel
theorem own_d353 : decode jdk_68_method_22_code 0 = .ok (.aload_n 1, 1) := by decide +kernel
theorem own_d354 : decode jdk_68_method_22_code 1 = .ok (.ifnonnull 8, 3) := by decide +kernel
theorem own_d355 : decode jdk_68_method_22_code 9 = .ok (.aload_n 1, 1) := by decide +kernel
theorem own_d356 : decode jdk_68_method_22_code 10 = .ok (.invokevirtual 32, 3) := by decide +kernel
theorem own_d357 : decode jdk_68_method_22_code 13 = .ok (.istore_n 2, 1) := by decide +kernel
theorem own_d358 : decode jdk_68_method_22_code 14 = .ok (.aload_n 0, 1) := by decide +kernel
theorem own_d359 : decode jdk_68_method_22_code 15 = .ok (.aload_n 0, 1) := by decide +kernel
theorem own_d360 : decode jdk_68_method_22_code 16 = .ok (.getfield 79, 3) := by decide +kernel
theorem own_d361 : decode jdk_68_method_22_code 19 = .ok (.iload_n 2, 1) := by decide +kernel
theorem own_d362 : decode jdk_68_method_22_code 20 = .ok (.iadd, 1) := by decide +kernel
theorem own_d363 : decode jdk_68_method_22_code 21 = .ok (.invokevirtual 100, 3) := by decide +kernel
theorem own_d364 : decode jdk_68_method_22_code 24 = .ok (.aload_n 0, 1) := by decide +kernel
theorem own_d365 : decode jdk_68_method_22_code 25 = .ok (.aload_n 0, 1) := by decide +kernel
theorem own_d366 : decode jdk_68_method_22_code 26 = .ok (.getfield 79, 3) := by decide +kernel
theorem own_d367 : decode jdk_68_method_22_code 29 = .ok (.aload_n 1, 1) := by decide +kernel
theorem own_d368 : decode jdk_68_method_22_code 30 = .ok (.invokevirtual 208, 3) := by decide +kernel
theorem own_d369 : decode jdk_68_method_22_code 33 = .ok (.aload_n 0, 1) := by decide +kernel
theorem own_d370 : decode jdk_68_method_22_code 34 = .ok (.dup, 1) := by decide +kernel
theorem own_d371 : decode jdk_68_method_22_code 35 = .ok (.getfield 79, 3) := by decide +kernel
theorem own_d372 : decode jdk_68_method_22_code 38 = .ok (.iload_n 2, 1) := by decide +kernel
theorem own_d373 : decode jdk_68_method_22_code 39 = .ok (.iadd, 1) := by decide +kernel
theorem own_d374 : decode jdk_68_method_22_code 40 = .ok (.putfield 79, 3) := by decide +kernel
theorem own_d375 : decode jdk_68_method_22_code 43 = .ok (.aload_n 0, 1) := by decide +kernel
theorem own_d376 : decode jdk_68_method_22_code 44 = .ok (.areturn, 1) := by decide +kernel
theorem own_d377 : decode jdk_67_method_7_code 0 = .ok (.aload_n 0, 1) := by decide +kernel
theorem own_d378 : decode jdk_67_method_7_code 1 = .ok (.aload_n 1, 1) := by decide +kernel
theorem own_d379 : decode jdk_67_method_7_code 2 = .ok (.invokespecial 29, 3) := by decide +kernel
theorem own_d380 : decode jdk_67_method_7_code 5 = .ok (.pop, 1) := by decide +kernel
theorem own_d381 : decode jdk_67_method_7_code 6 = .ok (.aload_n 0, 1) := by decide +kernel
theorem own_d382 : decode jdk_67_method_7_code 7 = .ok (.areturn, 1) := by decide +kernel
theorem own_d383 : decode jdk_68_method_31_code 0 = .ok (.aload_n 0, 1) := by decide +kernel
theorem own_d384 : decode jdk_68_method_31_code 1 = .ok (.aload_n 0, 1) := by decide +kernel
theorem own_d385 : decode jdk_68_method_31_code 2 = .ok (.getfield 79, 3) := by decide +kernel
theorem own_d386 : decode jdk_68_method_31_code 5 = .ok (.iconst 1, 1) := by decide +kernel
theorem own_d387 : decode jdk_68_method_31_code 6 = .ok (.iadd, 1) := by decide +kernel
theorem own_d388 : decode jdk_68_method_31_code 7 = .ok (.invokevirtual 100, 3) := by decide +kernel
theorem own_d389 : decode jdk_68_method_31_code 10 = .ok (.aload_n 0, 1) := by decide +kernel
theorem own_d390 : decode jdk_68_method_31_code 11 = .ok (.invokevirtual 83, 3) := by decide +kernel
theorem own_d391 : decode jdk_68_method_31_code 14 = .ok (.ifCond .eq 31, 3) := by decide +kernel
theorem own_d392 : decode jdk_68_method_31_code 17 = .ok (.iload_n 1, 1) := by decide +kernel
theorem own_d393 : decode jdk_68_method_31_code 18 = .ok (.invokestatic 191, 3) := by decide +kernel
theorem own_d394 : decode jdk_68_method_31_code 21 = .ok (.ifCond .eq 24, 3) := by decide +kernel
theorem own_d395 : decode jdk_68_method_31_code 24 = .ok (.aload_n 0, 1) := by decide +kernel
theorem own_d396 : decode jdk_68_method_31_code 25 = .ok (.getfield 15, 3) := by decide +kernel
theorem own_d397 : decode jdk_68_method_31_code 28 = .ok (.aload_n 0, 1) := by decide +kernel
theorem own_d398 : decode jdk_68_method_31_code 29 = .ok (.dup, 1) := by decide +kernel
theorem own_d399 : decode jdk_68_method_31_code 30 = .ok (.getfield 79, 3) := by decide +kernel
theorem own_d400 : decode jdk_68_method_31_code 33 = .ok (.dup_x1, 1) := by decide +kernel
theorem own_d401 : decode jdk_68_method_31_code 34 = .ok (.iconst 1, 1) := by decide +kernel
theorem own_d402 : decode jdk_68_method_31_code 35 = .ok (.iadd, 1) := by decide +kernel
theorem own_d403 : decode jdk_68_method_31_code 36 = .ok (.putfield 79, 3) := by decide +kernel
theorem own_d404 : decode jdk_68_method_31_code 39 = .ok (.iload_n 1, 1) := by decide +kernel
theorem own_d405 : decode jdk_68_method_31_code 40 = .ok (.i2b, 1) := by decide +kernel
theorem own_d406 : decode jdk_68_method_31_code 41 = .ok (.bastore, 1) := by decide +kernel
theorem own_d407 : decode jdk_68_method_31_code 42 = .ok (.goto 33, 3) := by decide +kernel
theorem own_d408 : decode jdk_68_method_31_code 75 = .ok (.aload_n 0, 1) := by decide +kernel
theorem own_d409 : decode jdk_68_method_31_code 76 = .ok (.areturn, 1) := by decide +kernel
theorem own_d410 : decode jdk_67_method_14_code 0 = .ok (.aload_n 0, 1) := by decide +kernel
theorem own_d411 : decode jdk_67_method_14_code 1 = .ok (.iload_n 1, 1) := by decide +kernel
theorem own_d412 : decode jdk_67_method_14_code 2 = .ok (.invokespecial 50, 3) := by decide +kernel
theorem own_d413 : decode jdk_67_method_14_code 5 = .ok (.pop, 1) := by decide +kernel
theorem own_d414 : decode jdk_67_method_14_code 6 = .ok (.aload_n 0, 1) := by decide +kernel
theorem own_d415 : decode jdk_67_method_14_code 7 = .ok (.areturn, 1) := by decide +kernel
theorem own_d416 : decode jdk_65_method_131_code 0 = .ok (.iload_n 1, 1) := by decide +kernel
theorem own_d417 : decode jdk_65_method_131_code 1 = .ok (.iload_n 0, 1) := by decide +kernel
theorem own_d418 : decode jdk_65_method_131_code 2 = .ok (.if_icmp .ge 35, 3) := by decide +kernel
theorem own_d419 : decode jdk_65_method_131_code 37 = .ok (.return_, 1) := by decide +kernel
theorem own_d420 : decode jdk_29_method_69_code 0 = .ok (.iload_n 0, 1) := by decide +kernel
theorem own_d421 : decode jdk_29_method_69_code 1 = .ok (.iload_n 1, 1) := by decide +kernel
theorem own_d422 : decode jdk_29_method_69_code 2 = .ok (.if_icmp .gt 7, 3) := by decide +kernel
theorem own_d423 : decode jdk_29_method_69_code 9 = .ok (.iload_n 1, 1) := by decide +kernel
theorem own_d424 : decode jdk_29_method_69_code 10 = .ok (.ireturn, 1) := by decide +kernel
theorem own_d425 : decode jdk_65_method_133_code 0 = .ok (.iload_n 1, 1) := by decide +kernel
theorem own_d426 : decode jdk_65_method_133_code 1 = .ok (.iload_n 2, 1) := by decide +kernel
theorem own_d427 : decode jdk_65_method_133_code 2 = .ok (.invokestatic 343, 3) := by decide +kernel
theorem own_d428 : decode jdk_65_method_133_code 5 = .ok (.iload_n 2, 1) := by decide +kernel
theorem own_d429 : decode jdk_65_method_133_code 6 = .ok (.iload_n 1, 1) := by decide +kernel
theorem own_d430 : decode jdk_65_method_133_code 7 = .ok (.isub, 1) := by decide +kernel
theorem own_d431 : decode jdk_65_method_133_code 8 = .ok (.istore_n 3, 1) := by decide +kernel
theorem own_d432 : decode jdk_65_method_133_code 9 = .ok (.iload_n 3, 1) := by decide +kernel
theorem own_d433 : decode jdk_65_method_133_code 10 = .ok (.newarray .byte, 2) := by decide +kernel
theorem own_d434 : decode jdk_65_method_133_code 12 = .ok (.astore 4, 2) := by decide +kernel
theorem own_d435 : decode jdk_65_method_133_code 14 = .ok (.aload_n 0, 1) := by decide +kernel
theorem own_d436 : decode jdk_65_method_133_code 15 = .ok (.iload_n 1, 1) := by decide +kernel
theorem own_d437 : decode jdk_65_method_133_code 16 = .ok (.aload 4, 2) := by decide +kernel
theorem own_d438 : decode jdk_65_method_133_code 18 = .ok (.iconst 0, 1) := by decide +kernel
theorem own_d439 : decode jdk_65_method_133_code 19 = .ok (.aload_n 0, 1) := by decide +kernel
theorem own_d440 : decode jdk_65_method_133_code 20 = .ok (.arraylength, 1) := by decide +kernel
theorem own_d441 : decode jdk_65_method_133_code 21 = .ok (.iload_n 1, 1) := by decide +kernel
theorem own_d442 : decode jdk_65_method_133_code 22 = .ok (.isub, 1) := by decide +kernel
theorem own_d443 : decode jdk_65_method_133_code 23 = .ok (.iload_n 3, 1) := by decide +kernel
theorem own_d444 : decode jdk_65_method_133_code 24 = .ok (.invokestatic 304, 3) := by decide +kernel
theorem own_d445 : decode jdk_65_method_133_code 27 = .ok (.invokestatic 150, 3) := by decide +kernel
theorem own_d446 : decode jdk_65_method_133_code 30 = .ok (.aload 4, 2) := by decide +kernel
theorem own_d447 : decode jdk_65_method_133_code 32 = .ok (.areturn, 1) := by decide +kernel
theorem own_d448 : decode jdk_65_method_132_code 0 = .ok (.iload_n 1, 1) := by decide +kernel
theorem own_d449 : decode jdk_65_method_132_code 1 = .ok (.ifCond .ne 9, 3) := by decide +kernel
theorem own_d450 : decode jdk_65_method_132_code 4 = .ok (.iload_n 2, 1) := by decide +kernel
theorem own_d451 : decode jdk_65_method_132_code 5 = .ok (.aload_n 0, 1) := by decide +kernel
theorem own_d452 : decode jdk_65_method_132_code 6 = .ok (.arraylength, 1) := by decide +kernel
theorem own_d453 : decode jdk_65_method_132_code 7 = .ok (.if_icmp .eq 10, 3) := by decide +kernel
theorem own_d454 : decode jdk_65_method_132_code 10 = .ok (.aload_n 0, 1) := by decide +kernel
theorem own_d455 : decode jdk_65_method_132_code 11 = .ok (.iload_n 1, 1) := by decide +kernel
theorem own_d456 : decode jdk_65_method_132_code 12 = .ok (.iload_n 2, 1) := by decide +kernel
theorem own_d457 : decode jdk_65_method_132_code 13 = .ok (.invokestatic 339, 3) := by decide +kernel
theorem own_d458 : decode jdk_65_method_132_code 16 = .ok (.areturn, 1) := by decide +kernel
theorem own_d459 : decode jdk_42_method_150_code 0 = .ok (.aload_n 0, 1) := by decide +kernel
theorem own_d460 : decode jdk_42_method_150_code 1 = .ok (.invokespecial 1, 3) := by decide +kernel
theorem own_d461 : decode jdk_42_method_150_code 4 = .ok (.aload_n 1, 1) := by decide +kernel
theorem own_d462 : decode jdk_42_method_150_code 5 = .ok (.invokevirtual 552, 3) := by decide +kernel
theorem own_d463 : decode jdk_42_method_150_code 8 = .ok (.astore_n 3, 1) := by decide +kernel
theorem own_d464 : decode jdk_42_method_150_code 9 = .ok (.aload_n 1, 1) := by decide +kernel
theorem own_d465 : decode jdk_42_method_150_code 10 = .ok (.invokevirtual 549, 3) := by decide +kernel
theorem own_d466 : decode jdk_42_method_150_code 13 = .ok (.istore 4, 2) := by decide +kernel
theorem own_d467 : decode jdk_42_method_150_code 15 = .ok (.aload_n 1, 1) := by decide +kernel
theorem own_d468 : decode jdk_42_method_150_code 16 = .ok (.invokevirtual 1047, 3) := by decide +kernel
theorem own_d469 : decode jdk_42_method_150_code 19 = .ok (.ifCond .eq 22, 3) := by decide +kernel
theorem own_d470 : decode jdk_42_method_150_code 22 = .ok (.aload_n 0, 1) := by decide +kernel
theorem own_d471 : decode jdk_42_method_150_code 23 = .ok (.iconst 0, 1) := by decide +kernel
theorem own_d472 : decode jdk_42_method_150_code 24 = .ok (.putfield 15, 3) := by decide +kernel
theorem own_d473 : decode jdk_42_method_150_code 27 = .ok (.aload_n 0, 1) := by decide +kernel
theorem own_d474 : decode jdk_42_method_150_code 28 = .ok (.aload_n 3, 1) := by decide +kernel
theorem own_d475 : decode jdk_42_method_150_code 29 = .ok (.iconst 0, 1) := by decide +kernel
theorem own_d476 : decode jdk_42_method_150_code 30 = .ok (.iload 4, 2) := by decide +kernel
theorem own_d477 : decode jdk_42_method_150_code 32 = .ok (.invokestatic 54, 3) := by decide +kernel
theorem own_d478 : decode jdk_42_method_150_code 35 = .ok (.putfield 9, 3) := by decide +kernel
theorem own_d479 : decode jdk_42_method_150_code 38 = .ok (.goto 59, 3) := by decide +kernel
theorem own_d480 : decode jdk_42_method_150_code 97 = .ok (.return_, 1) := by decide +kernel
theorem own_d481 : decode jdk_42_method_53_code 0 = .ok (.aload_n 0, 1) := by decide +kernel
theorem own_d482 : decode jdk_42_method_53_code 1 = .ok (.aload_n 1, 1) := by decide +kernel
theorem own_d483 : decode jdk_42_method_53_code 2 = .ok (.aconst_null, 1) := by decide +kernel
theorem own_d484 : decode jdk_42_method_53_code 3 = .ok (.invokespecial 489, 3) := by decide +kernel
theorem own_d485 : decode jdk_42_method_53_code 6 = .ok (.return_, 1) := by decide +kernel
theorem own_d486 : decode jdk_67_method_42_code 0 = .ok (.new 18, 3) := by decide +kernel
theorem own_d487 : decode jdk_67_method_42_code 3 = .ok (.dup, 1) := by decide +kernel
theorem own_d488 : decode jdk_67_method_42_code 4 = .ok (.aload_n 0, 1) := by decide +kernel
theorem own_d489 : decode jdk_67_method_42_code 5 = .ok (.invokespecial 137, 3) := by decide +kernel
theorem own_d490 : decode jdk_67_method_42_code 8 = .ok (.areturn, 1) := by decide +kernel
theorem own_d491 : decode prog_18_method_9_code 0 = .ok (.aload_n 0, 1) := by decide +kernel
theorem own_d492 : decode prog_18_method_9_code 1 = .ok (.getfield 7, 3) := by decide +kernel
theorem own_d493 : decode prog_18_method_9_code 4 = .ok (.getstatic 49, 3) := by decide +kernel
theorem own_d494 : decode prog_18_method_9_code 7 = .ok (.if_acmp .ne 9, 3) := by decide +kernel
theorem own_d495 : decode prog_18_method_9_code 10 = .ok (.ldc 52, 2) := by decide +kernel
theorem own_d496 : decode prog_18_method_9_code 12 = .ok (.astore_n 1, 1) := by decide +kernel
theorem own_d497 : decode prog_18_method_9_code 13 = .ok (.goto 67, 3) := by decide +kernel
theorem own_d498 : decode prog_18_method_9_code 80 = .ok (.aload_n 1, 1) := by decide +kernel
theorem own_d499 : decode prog_18_method_9_code 81 = .ok (.areturn, 1) := by decide +kernel
theorem own_d500 : decode prog_18_method_9_code 16 = .ok (.aload_n 0, 1) := by decide +kernel
theorem own_d501 : decode prog_18_method_9_code 17 = .ok (.getfield 7, 3) := by decide +kernel
theorem own_d502 : decode prog_18_method_9_code 20 = .ok (.getstatic 54, 3) := by decide +kernel
theorem own_d503 : decode prog_18_method_9_code 23 = .ok (.if_acmp .ne 29, 3) := by decide +kernel
theorem own_d504 : decode prog_18_method_9_code 26 = .ok (.new 57, 3) := by decide +kernel
theorem own_d505 : decode prog_18_method_9_code 29 = .ok (.dup, 1) := by decide +kernel
theorem own_d506 : decode prog_18_method_9_code 30 = .ok (.invokespecial 59, 3) := by decide +kernel
theorem own_d507 : decode prog_18_method_9_code 33 = .ok (.ldc 60, 2) := by decide +kernel
theorem own_d508 : decode prog_18_method_9_code 35 = .ok (.invokevirtual 62, 3) := by decide +kernel
theorem own_d509 : decode prog_18_method_9_code 38 = .ok (.aload_n 0, 1) := by decide +kernel
theorem own_d510 : decode prog_18_method_9_code 39 = .ok (.getfield 13, 3) := by decide +kernel
theorem own_d511 : decode prog_18_method_9_code 42 = .ok (.invokevirtual 62, 3) := by decide +kernel
theorem own_d512 : decode prog_18_method_9_code 45 = .ok (.invokevirtual 66, 3) := by decide +kernel
theorem own_d513 : decode prog_18_method_9_code 48 = .ok (.astore_n 1, 1) := by decide +kernel
theorem own_d514 : decode prog_18_method_9_code 49 = .ok (.goto 31, 3) := by decide +kernel
theorem own_d515 : decode prog_18_method_9_code 52 = .ok (.new 57, 3) := by decide +kernel
theorem own_d516 : decode prog_18_method_9_code 55 = .ok (.dup, 1) := by decide +kernel
theorem own_d517 : decode prog_18_method_9_code 56 = .ok (.invokespecial 59, 3) := by decide +kernel
theorem own_d518 : decode prog_18_method_9_code 59 = .ok (.bipush 34, 2) := by decide +kernel
theorem own_d519 : decode prog_18_method_9_code 61 = .ok (.invokevirtual 70, 3) := by decide +kernel
theorem own_d520 : decode prog_18_method_9_code 64 = .ok (.aload_n 0, 1) := by decide +kernel
theorem own_d521 : decode prog_18_method_9_code 65 = .ok (.getfield 13, 3) := by decide +kernel
theorem own_d522 : decode prog_18_method_9_code 68 = .ok (.invokevirtual 62, 3) := by decide +kernel
theorem own_d523 : decode prog_18_method_9_code 71 = .ok (.bipush 34, 2) := by decide +kernel
theorem own_d524 : decode prog_18_method_9_code 73 = .ok (.invokevirtual 70, 3) := by decide +kernel
theorem own_d525 : decode prog_18_method_9_code 76 = .ok (.invokevirtual 66, 3) := by decide +kernel
theorem own_d526 : decode prog_18_method_9_code 79 = .ok (.astore_n 1, 1) := by decide +kernel
theorem own_pd0 : parseMethodDescriptor "([CIILjava/lang/Void;)V" = some ⟨[(.array .char), .int, .int, (.object "java/lang/Void")], none⟩ := by decide +kernel
theorem own_pd1 : parseMethodDescriptor "([C)V" = some ⟨[(.array .char)], none⟩ := by decide +kernel
theorem own_pd2 : parseMethodDescriptor "(I)V" = some ⟨[.int], none⟩ := by decide +kernel
theorem own_pd3 : parseMethodDescriptor "()B" = some ⟨[], some .byte⟩ := by decide +kernel
theorem own_pd4 : parseMethodDescriptor "()I" = some ⟨[], some .int⟩ := by decide +kernel
theorem own_pd5 : parseMethodDescriptor "(Ljava/lang/String;)V" = some ⟨[(.object "java/lang/String")], none⟩ := by decide +kernel
theorem own_pd6 : parseMethodDescriptor "([BIB)V" = some ⟨[(.array .byte), .int, .byte], none⟩ := by decide +kernel
theorem own_pd7 : parseMethodDescriptor "(ILjava/lang/String;)V" = some ⟨[.int, (.object "java/lang/String")], none⟩ := by decide +kernel
theorem own_pd8 : parseMethodDescriptor "(Ljava/lang/String;)Ljava/lang/AbstractStringBuilder;" = some ⟨[(.object "java/lang/String")], some (.object "java/lang/AbstractStringBuilder")⟩ := by decide +kernel
theorem own_pd9 : parseMethodDescriptor "()Z" = some ⟨[], some .boolean⟩ := by decide +kernel
theorem own_pd10 : parseMethodDescriptor "(C)Z" = some ⟨[.char], some .boolean⟩ := by decide +kernel
theorem own_pd11 : parseMethodDescriptor "(C)Ljava/lang/AbstractStringBuilder;" = some ⟨[.char], some (.object "java/lang/AbstractStringBuilder")⟩ := by decide +kernel
theorem own_pd12 : parseMethodDescriptor "(II)V" = some ⟨[.int, .int], none⟩ := by decide +kernel
theorem own_pd13 : parseMethodDescriptor "(II)I" = some ⟨[.int, .int], some .int⟩ := by decide +kernel
theorem own_pd14 : parseMethodDescriptor "([BII)[B" = some ⟨[(.array .byte), .int, .int], some (.array .byte)⟩ := by decide +kernel
theorem own_pd15 : parseMethodDescriptor "()[B" = some ⟨[], some (.array .byte)⟩ := by decide +kernel
theorem own_pd16 : parseMethodDescriptor "(Ljava/lang/AbstractStringBuilder;Ljava/lang/Void;)V" = some ⟨[(.object "java/lang/AbstractStringBuilder"), (.object "java/lang/Void")], none⟩ := by decide +kernel
theorem own_pd17 : parseMethodDescriptor "(Ljava/lang/StringBuilder;)V" = some ⟨[(.object "java/lang/StringBuilder")], none⟩ := by decide +kernel
theorem own_pd18 : parseMethodDescriptor "()V" = some ⟨[], none⟩ := by decide +kernel
theorem own_pd19 : parseMethodDescriptor "(Ljava/lang/String;)Ljava/lang/StringBuilder;" = some ⟨[(.object "java/lang/String")], some (.object "java/lang/StringBuilder")⟩ := by decide +kernel
theorem own_pd20 : parseMethodDescriptor "()Ljava/lang/String;" = some ⟨[], some (.object "java/lang/String")⟩ := by decide +kernel
theorem own_pd21 : parseMethodDescriptor "(C)Ljava/lang/StringBuilder;" = some ⟨[.char], some (.object "java/lang/StringBuilder")⟩ := by decide +kernel
theorem own_pd22 : parseMethodDescriptor "(ICC)Ljava/lang/String;" = some ⟨[.int, .char, .char], some (.object "java/lang/String")⟩ := by decide +kernel
theorem own_pd23 : parseMethodDescriptor "(Lcom/example/ianus/ianus/Token$Kind;Ljava/lang/String;Ljava/lang/String;II)V" = some ⟨[(.object "com/example/ianus/ianus/Token$Kind"), (.object "java/lang/String"), (.object "java/lang/String"), .int, .int], none⟩ := by decide +kernel
theorem own_pd24 : parseMethodDescriptor "(Ljava/lang/Object;)Z" = some ⟨[(.object "java/lang/Object")], some .boolean⟩ := by decide +kernel
theorem own_pn0 : plainName "java/lang/String" = true := by first | (simp [plainName, overriddenIn]; done) | decide +kernel
theorem own_pn1 : plainName "com/example/ianus/ianus/TokenDescribePinLaw" = true := by first | (simp [plainName, overriddenIn]; done) | decide +kernel
theorem own_pn2 : plainName "com/example/ianus/ianus/Token" = true := by first | (simp [plainName, overriddenIn]; done) | decide +kernel
theorem own_pn3 : plainName "java/lang/AbstractStringBuilder" = true := by first | (simp [plainName, overriddenIn]; done) | decide +kernel
theorem own_pn4 : plainName "java/lang/StringBuilder" = true := by first | (simp [plainName, overriddenIn]; done) | decide +kernel
theorem own_pn5 : plainName "java/lang/StringLatin1" = true := by first | (simp [plainName, overriddenIn]; done) | decide +kernel
theorem own_pn6 : plainName "java/util/Arrays" = true := by first | (simp [plainName, overriddenIn]; done) | decide +kernel
theorem own_ef_I4_0 (m : MethodId) (x0 : Addr) (x1 : Addr) (x2 : Int32) (x3 : Int32) : entryFrame m #[(.ref x0), (.ref x1), (.int x2), (.int x3), .null] 6 = mkF m 0 #[.val (.ref x0), .val (.ref x1), .val (.int x2), .val (.int x3), .val .null, .unset] [] := by first | (simp [entryFrame, mkF, argsToLocals, Value.category]; done) | rfl
theorem own_ef_I1_0 (m : MethodId) (x0 : Addr) (x1 : Addr) : entryFrame m #[(.ref x0), (.ref x1)] 2 = mkF m 0 #[.val (.ref x0), .val (.ref x1)] [] := by first | (simp [entryFrame, mkF, argsToLocals, Value.category]; done) | rfl
theorem own_ef_CD_0 (m : MethodId) (x0 : Addr) : entryFrame m #[(.ref x0)] 1 = mkF m 0 #[.val (.ref x0)] [] := by first | (simp [entryFrame, mkF, argsToLocals, Value.category]; done) | rfl
theorem own_ef_CD_1 (m : MethodId) (x0 : Addr) : entryFrame m #[(.ref x0)] 1 = mkF m 0 #[.val (.ref x0)] [] := by first | (simp [entryFrame, mkF, argsToLocals, Value.category]; done) | rfl
theorem own_ef_MK (m : MethodId) (x0 : Int32) (x1 : Int32) (x2 : Int32) : entryFrame m #[(.int x0), (.int x1), (.int x2)] 3 = mkF m 0 #[.val (.int x0), .val (.int x1), .val (.int x2)] [] := by first | (simp [entryFrame, mkF, argsToLocals, Value.category]; done) | rfl
theorem own_ef_PF (m : MethodId) (x0 : Int32) (x1 : Int32) (x2 : Int32) : entryFrame m #[(.int x0), (.int x1), (.int x2)] 3 = mkF m 0 #[.val (.int x0), .val (.int x1), .val (.int x2)] [] := by first | (simp [entryFrame, mkF, argsToLocals, Value.category]; done) | rfl
theorem own_ef_QT (m : MethodId) (x0 : Int32) (x1 : Int32) (x2 : Int32) : entryFrame m #[(.int x0), (.int x1), (.int x2)] 3 = mkF m 0 #[.val (.int x0), .val (.int x1), .val (.int x2)] [] := by first | (simp [entryFrame, mkF, argsToLocals, Value.category]; done) | rfl
theorem own_ef_CT (m : MethodId) (x0 : Addr) (x1 : Addr) (x2 : Addr) (x3 : Addr) (x4 : Int32) (x5 : Int32) : entryFrame m #[(.ref x0), (.ref x1), (.ref x2), (.ref x3), (.int x4), (.int x5)] 6 = mkF m 0 #[.val (.ref x0), .val (.ref x1), .val (.ref x2), .val (.ref x3), .val (.int x4), .val (.int x5)] [] := by first | (simp [entryFrame, mkF, argsToLocals, Value.category]; done) | rfl
theorem own_ef_AI (m : MethodId) (x0 : Addr) (x1 : Int32) : entryFrame m #[(.ref x0), (.int x1)] 2 = mkF m 0 #[.val (.ref x0), .val (.int x1)] [] := by first | (simp [entryFrame, mkF, argsToLocals, Value.category]; done) | rfl
theorem own_ef_SI (m : MethodId) (x0 : Addr) : entryFrame m #[(.ref x0)] 1 = mkF m 0 #[.val (.ref x0)] [] := by first | (simp [entryFrame, mkF, argsToLocals, Value.category]; done) | rfl
theorem own_ef_EC (m : MethodId) (x0 : Addr) (x1 : Int32) : entryFrame m #[(.ref x0), (.int x1)] 3 = mkF m 0 #[.val (.ref x0), .val (.int x1), .unset] [] := by first | (simp [entryFrame, mkF, argsToLocals, Value.category]; done) | rfl
theorem own_ef_A1 (m : MethodId) (x0 : Addr) : entryFrame m #[(.ref x0)] 1 = mkF m 0 #[.val (.ref x0)] [] := by first | (simp [entryFrame, mkF, argsToLocals, Value.category]; done) | rfl
theorem own_ef_CE (m : MethodId) (x0 : Int32) : entryFrame m #[(.int x0)] 1 = mkF m 0 #[.val (.int x0)] [] := by first | (simp [entryFrame, mkF, argsToLocals, Value.category]; done) | rfl
theorem own_ef_IF (m : MethodId) (x0 : Addr) (x1 : Addr) : entryFrame m #[(.ref x0), (.ref x1)] 2 = mkF m 0 #[.val (.ref x0), .val (.ref x1)] [] := by first | (simp [entryFrame, mkF, argsToLocals, Value.category]; done) | rfl
theorem own_ef_GV (m : MethodId) (x0 : Addr) : entryFrame m #[(.ref x0)] 1 = mkF m 0 #[.val (.ref x0)] [] := by first | (simp [entryFrame, mkF, argsToLocals, Value.category]; done) | rfl
theorem own_ef_LA (m : MethodId) (x0 : Addr) : entryFrame m #[(.ref x0)] 1 = mkF m 0 #[.val (.ref x0)] [] := by first | (simp [entryFrame, mkF, argsToLocals, Value.category]; done) | rfl
theorem own_ef_LB (m : MethodId) (x0 : Addr) : entryFrame m #[(.ref x0)] 1 = mkF m 0 #[.val (.ref x0)] [] := by first | (simp [entryFrame, mkF, argsToLocals, Value.category]; done) | rfl
theorem own_ef_GB_0_7 (m : MethodId) (x0 : Addr) (x1 : Addr) (x2 : Int32) (x3 : Int32) : entryFrame m #[(.ref x0), (.ref x1), (.int x2), (.int x3)] 4 = mkF m 0 #[.val (.ref x0), .val (.ref x1), .val (.int x2), .val (.int x3)] [] := by first | (simp [entryFrame, mkF, argsToLocals, Value.category]; done) | rfl
theorem own_ef_GB_7_0 (m : MethodId) (x0 : Addr) (x1 : Addr) (x2 : Int32) (x3 : Int32) : entryFrame m #[(.ref x0), (.ref x1), (.int x2), (.int x3)] 4 = mkF m 0 #[.val (.ref x0), .val (.ref x1), .val (.int x2), .val (.int x3)] [] := by first | (simp [entryFrame, mkF, argsToLocals, Value.category]; done) | rfl
theorem own_ef_GB_7_1 (m : MethodId) (x0 : Addr) (x1 : Addr) (x2 : Int32) (x3 : Int32) : entryFrame m #[(.ref x0), (.ref x1), (.int x2), (.int x3)] 4 = mkF m 0 #[.val (.ref x0), .val (.ref x1), .val (.int x2), .val (.int x3)] [] := by first | (simp [entryFrame, mkF, argsToLocals, Value.category]; done) | rfl
theorem own_ef_GB_7_2 (m : MethodId) (x0 : Addr) (x1 : Addr) (x2 : Int32) (x3 : Int32) : entryFrame m #[(.ref x0), (.ref x1), (.int x2), (.int x3)] 4 = mkF m 0 #[.val (.ref x0), .val (.ref x1), .val (.int x2), .val (.int x3)] [] := by first | (simp [entryFrame, mkF, argsToLocals, Value.category]; done) | rfl
theorem own_ef_GB_1_0 (m : MethodId) (x0 : Addr) (x1 : Addr) (x2 : Int32) (x3 : Int32) : entryFrame m #[(.ref x0), (.ref x1), (.int x2), (.int x3)] 4 = mkF m 0 #[.val (.ref x0), .val (.ref x1), .val (.int x2), .val (.int x3)] [] := by first | (simp [entryFrame, mkF, argsToLocals, Value.category]; done) | rfl
theorem own_ef_GB_1_1 (m : MethodId) (x0 : Addr) (x1 : Addr) (x2 : Int32) (x3 : Int32) : entryFrame m #[(.ref x0), (.ref x1), (.int x2), (.int x3)] 4 = mkF m 0 #[.val (.ref x0), .val (.ref x1), .val (.int x2), .val (.int x3)] [] := by first | (simp [entryFrame, mkF, argsToLocals, Value.category]; done) | rfl
theorem own_ef_GB_1_2 (m : MethodId) (x0 : Addr) (x1 : Addr) (x2 : Int32) (x3 : Int32) : entryFrame m #[(.ref x0), (.ref x1), (.int x2), (.int x3)] 4 = mkF m 0 #[.val (.ref x0), .val (.ref x1), .val (.int x2), .val (.int x3)] [] := by first | (simp [entryFrame, mkF, argsToLocals, Value.category]; done) | rfl
theorem own_ef_LX (m : MethodId) (x0 : Addr) : entryFrame m #[(.ref x0)] 1 = mkF m 0 #[.val (.ref x0)] [] := by first | (simp [entryFrame, mkF, argsToLocals, Value.category]; done) | rfl
theorem own_ef_PS (m : MethodId) (x0 : Addr) (x1 : Int32) (x2 : Addr) : entryFrame m #[(.ref x0), (.int x1), (.ref x2)] 3 = mkF m 0 #[.val (.ref x0), .val (.int x1), .val (.ref x2)] [] := by first | (simp [entryFrame, mkF, argsToLocals, Value.category]; done) | rfl
theorem own_ef_AS (m : MethodId) (x0 : Addr) (x1 : Addr) : entryFrame m #[(.ref x0), (.ref x1)] 3 = mkF m 0 #[.val (.ref x0), .val (.ref x1), .unset] [] := by first | (simp [entryFrame, mkF, argsToLocals, Value.category]; done) | rfl
theorem own_ef_SS (m : MethodId) (x0 : Addr) (x1 : Addr) : entryFrame m #[(.ref x0), (.ref x1)] 2 = mkF m 0 #[.val (.ref x0), .val (.ref x1)] [] := by first | (simp [entryFrame, mkF, argsToLocals, Value.category]; done) | rfl
theorem own_ef_AC_0 (m : MethodId) (x0 : Addr) (x1 : Int32) : entryFrame m #[(.ref x0), (.int x1)] 2 = mkF m 0 #[.val (.ref x0), .val (.int x1)] [] := by first | (simp [entryFrame, mkF, argsToLocals, Value.category]; done) | rfl
theorem own_ef_AC_1 (m : MethodId) (x0 : Addr) (x1 : Int32) : entryFrame m #[(.ref x0), (.int x1)] 2 = mkF m 0 #[.val (.ref x0), .val (.int x1)] [] := by first | (simp [entryFrame, mkF, argsToLocals, Value.category]; done) | rfl
theorem own_ef_AC_2 (m : MethodId) (x0 : Addr) (x1 : Int32) : entryFrame m #[(.ref x0), (.int x1)] 2 = mkF m 0 #[.val (.ref x0), .val (.int x1)] [] := by first | (simp [entryFrame, mkF, argsToLocals, Value.category]; done) | rfl
theorem own_ef_AC_3 (m : MethodId) (x0 : Addr) (x1 : Int32) : entryFrame m #[(.ref x0), (.int x1)] 2 = mkF m 0 #[.val (.ref x0), .val (.int x1)] [] := by first | (simp [entryFrame, mkF, argsToLocals, Value.category]; done) | rfl
theorem own_ef_SC (m : MethodId) (x0 : Addr) (x1 : Int32) : entryFrame m #[(.ref x0), (.int x1)] 2 = mkF m 0 #[.val (.ref x0), .val (.int x1)] [] := by first | (simp [entryFrame, mkF, argsToLocals, Value.category]; done) | rfl
theorem own_ef_CL (m : MethodId) (x0 : Int32) (x1 : Int32) : entryFrame m #[(.int x0), (.int x1)] 2 = mkF m 0 #[.val (.int x0), .val (.int x1)] [] := by first | (simp [entryFrame, mkF, argsToLocals, Value.category]; done) | rfl
theorem own_ef_MN (m : MethodId) (x0 : Int32) (x1 : Int32) : entryFrame m #[(.int x0), (.int x1)] 2 = mkF m 0 #[.val (.int x0), .val (.int x1)] [] := by first | (simp [entryFrame, mkF, argsToLocals, Value.category]; done) | rfl
theorem own_ef_CB_7 (m : MethodId) (x0 : Addr) (x1 : Int32) (x2 : Int32) : entryFrame m #[(.ref x0), (.int x1), (.int x2)] 5 = mkF m 0 #[.val (.ref x0), .val (.int x1), .val (.int x2), .unset, .unset] [] := by first | (simp [entryFrame, mkF, argsToLocals, Value.category]; done) | rfl
theorem own_ef_CB_8 (m : MethodId) (x0 : Addr) (x1 : Int32) (x2 : Int32) : entryFrame m #[(.ref x0), (.int x1), (.int x2)] 5 = mkF m 0 #[.val (.ref x0), .val (.int x1), .val (.int x2), .unset, .unset] [] := by first | (simp [entryFrame, mkF, argsToLocals, Value.category]; done) | rfl
theorem own_ef_CB_9 (m : MethodId) (x0 : Addr) (x1 : Int32) (x2 : Int32) : entryFrame m #[(.ref x0), (.int x1), (.int x2)] 5 = mkF m 0 #[.val (.ref x0), .val (.int x1), .val (.int x2), .unset, .unset] [] := by first | (simp [entryFrame, mkF, argsToLocals, Value.category]; done) | rfl
theorem own_ef_CB_2 (m : MethodId) (x0 : Addr) (x1 : Int32) (x2 : Int32) : entryFrame m #[(.ref x0), (.int x1), (.int x2)] 5 = mkF m 0 #[.val (.ref x0), .val (.int x1), .val (.int x2), .unset, .unset] [] := by first | (simp [entryFrame, mkF, argsToLocals, Value.category]; done) | rfl
theorem own_ef_CB_3 (m : MethodId) (x0 : Addr) (x1 : Int32) (x2 : Int32) : entryFrame m #[(.ref x0), (.int x1), (.int x2)] 5 = mkF m 0 #[.val (.ref x0), .val (.int x1), .val (.int x2), .unset, .unset] [] := by first | (simp [entryFrame, mkF, argsToLocals, Value.category]; done) | rfl
theorem own_ef_CB_4 (m : MethodId) (x0 : Addr) (x1 : Int32) (x2 : Int32) : entryFrame m #[(.ref x0), (.int x1), (.int x2)] 5 = mkF m 0 #[.val (.ref x0), .val (.int x1), .val (.int x2), .unset, .unset] [] := by first | (simp [entryFrame, mkF, argsToLocals, Value.category]; done) | rfl
theorem own_ef_CR (m : MethodId) (x0 : Addr) (x1 : Int32) (x2 : Int32) : entryFrame m #[(.ref x0), (.int x1), (.int x2)] 3 = mkF m 0 #[.val (.ref x0), .val (.int x1), .val (.int x2)] [] := by first | (simp [entryFrame, mkF, argsToLocals, Value.category]; done) | rfl
theorem own_ef_J2 (m : MethodId) (x0 : Addr) (x1 : Addr) : entryFrame m #[(.ref x0), (.ref x1), .null] 5 = mkF m 0 #[.val (.ref x0), .val (.ref x1), .val .null, .unset, .unset] [] := by first | (simp [entryFrame, mkF, argsToLocals, Value.category]; done) | rfl
theorem own_ef_J1 (m : MethodId) (x0 : Addr) (x1 : Addr) : entryFrame m #[(.ref x0), (.ref x1)] 2 = mkF m 0 #[.val (.ref x0), .val (.ref x1)] [] := by first | (simp [entryFrame, mkF, argsToLocals, Value.category]; done) | rfl
theorem own_ef_TS (m : MethodId) (x0 : Addr) : entryFrame m #[(.ref x0)] 1 = mkF m 0 #[.val (.ref x0)] [] := by first | (simp [entryFrame, mkF, argsToLocals, Value.category]; done) | rfl
theorem own_ef_DE (m : MethodId) (x0 : Addr) : entryFrame m #[(.ref x0)] 2 = mkF m 0 #[.val (.ref x0), .unset] [] := by first | (simp [entryFrame, mkF, argsToLocals, Value.category]; done) | rfl
theorem own_ef_DS (m : MethodId) (x0 : Addr) : entryFrame m #[(.ref x0)] 2 = mkF m 0 #[.val (.ref x0), .unset] [] := by first | (simp [entryFrame, mkF, argsToLocals, Value.category]; done) | rfl
theorem own_ef_DQ (m : MethodId) (x0 : Addr) : entryFrame m #[(.ref x0)] 2 = mkF m 0 #[.val (.ref x0), .unset] [] := by first | (simp [entryFrame, mkF, argsToLocals, Value.category]; done) | rfl
theorem own_ef_0 (m : MethodId) (x0 : Int32) (x1 : Int32) (x2 : Int32) (x3 : Int32) (x4 : Int32) : entryFrame m #[(.int x0), (.int x1), (.int x2), (.int x3), (.int x4)] maxLocals = mkF m 0 #[.val (.int x0), .val (.int x1), .val (.int x2), .val (.int x3), .val (.int x4), .unset, .unset, .unset, .unset, .unset, .unset, .unset, .unset, .unset, .unset, .unset, .unset] [] := by first | (simp [entryFrame, mkF, argsToLocals, Value.category, maxLocals]; done) | rfl
def own_QI4_0 (Z : State) (sx a : Addr) (h0 : Heap) (n0 : Nat) (v : Option Value) (h : Heap) (L : List Loc) : Prop := v = none ∧ Fr n0 L ∧ Keep h0 h [sx] ∧ ∃ (t : Addr) (kb : ClassId), own_Str Z h sx t kb []
set_option maxRecDepth 65536 in
set_option maxHeartbeats 40000000 in
theorem own_rmI4_0 (l : Launch) (Z : State) (a0 : Array Value) (hw : ∀ d ∈ tables_1, d.before a0 Z = true) (ws : List Jvm.Cond) (sx a : Addr) (h0 : Heap) (n0 : Nat) (Z0 : n0 ≤ h0.size) (OL : Old Z n0 h0) (ge_sx : n0 ≤ sx) (E_sx : Exa Z h0 sx "java/lang/String") (F_value_sx : Fld Z h0 sx "java/lang/String" "value" "[B" .null) (F_coder_sx : Fld Z h0 sx "java/lang/String" "coder" "B" (.int (0 : Int32))) :
    MetFree l (⟨"java/lang/String", "<init>", "([CIILjava/lang/Void;)V"⟩ : MethodName) (head1 (Jvm.Cond.code (⟨"java/lang/String", "<init>", "([CIILjava/lang/Void;)V"⟩ : MethodName) jdk_42_method_149_code 6 none :: ws) ({ frames := 1, cells := 4, slots := 8, locals := 12 } : Room)) (fun aa_ U => aa_ = #[(.ref sx), (.ref a), (.int (0 : Int32)), (.int (0 : Int32)), .null] ∧ Z.Warmed39 U.vm ∧ U.heap = h0 ∧ CHv Z own_EL U.vm h0) (fun _ _ _ _ _ => True) (fun _ U o U' => ∃ v L, o = .returned v ∧ own_QI4_0 Z sx a h0 n0 v U'.heap L ∧ CHr Z own_EL U.vm U.heap U'.vm U'.heap ∧ ReturnedEndW U o U' L ({ frames := 1, cells := 4, slots := 8, locals := 12 } : Room).cells ({ frames := 1, cells := 4, slots := 8, locals := 12 } : Room).slots) := by
  refine MetFree.of_bodySF (plainFor_of_name own_pn0) hisR ?_
  intro p e s m args below meth c s₁ Bd hml0 hP hK
  obtain ⟨rfl, hZ, hh, CH⟩ := hP
  have hx := Bd.exec
  have hby := Bd.bytes
  have hlk : meth.locks = false := BodyLoose.notSynchronized Bd
  have hml : c.maxLocals = 6 := hml0
  have hown : s.vm.findClass "java/lang/String" = some m.cls := findClass_of_methodNamed Bd.named
  have hnm := (name_of_methodNamed Bd.named Bd.method).1
  have X0 : Stand p l e ({ frames := 1, cells := 4, slots := 8, locals := 12 } : Room) s m #[(.ref sx), (.ref a), (.int (0 : Int32)), (.int (0 : Int32)), .null] below meth c s₁ [] 0 0 := Stand.of_body Bd
  have e0 : s₁.heap = h0 := by rw [← hh, Bd.state]; rfl
  have N0 := Fr.nil n0
  have KP : Keep h0 h0 [sx] := Keep.refl _ _
  have hS : s.Since s.vm 0 := (State.WarmedH.refl s).since 0
  have hk1 : 0 ≤ h0.size := Nat.zero_le _
  have CHR : CHr Z own_EL s.vm h0 s.vm h0 := CHr.refl CH
  have hEW : EW Z a0 own_EL := own_EWof hw
  have hwsS : ∀ d ∈ Bundle.stringAtoms, d.before a0 Z = true := fun d hd => hw d (own_wS d hd)
  refine own_start (Fin := (own_FinH Z s (own_QI4_0 Z sx a h0 n0) ({ frames := 1, cells := 4, slots := 8, locals := 12 } : Room).cells ({ frames := 1, cells := 4, slots := 8, locals := 12 } : Room).slots)) (own_from (mkF m 0 #[rv sx, rv a, iv 0, iv 0, .val .null, .unset] []) (castTop (own_ef_I4_0 m sx a (0 : Int32) (0 : Int32))) ?_)
  have SF_sx := own_safeN (EL := own_EL) (vm := s.vm) hZ.alike E_sx F_value_sx
  refine own_aln 1 X0 hx (hb hby own_d0) rfl rfl rfl ?_
  obtain ⟨T1, X1, e1, st1⟩ := initO X0 hx hZ hown (own_w hw 19 rfl) (own_w hw 20 rfl) (own_w hw 21 rfl) e0 (g := (mkF m 1 #[rv sx, rv a, iv 0, iv 0, .val .null, .unset] [(.ref sx)])) rfl (by rw [hml]; rfl) rfl (hb hby own_d1) (by decide) (W := 0) (by show 2 * 0 + _ ≤ _; exact Nat.le_of_eq rfl) (by decide)
  refine own_to (mkF m 4 #[rv sx, rv a, iv 0, iv 0, .val .null, .unset] []) st1 ?_
  refine own_iln 5 X1 hx (hb hby own_d2) rfl rfl ?_
  refine own_ifN 8 X1 hx (hb hby own_d3) ((if0 _ _).trans (teq (by decide : (0 : Int32) = (0 : Int32))).2) rfl ?_
  refine own_aln 9 X1 hx (hb hby own_d4) rfl rfl rfl ?_
  have lts_sx := E_sx.lt
  obtain ⟨la1, T2, h2, k1, lb1, lk1, X2, e2, E2, hS, hk2, hZ, hown, E_la1, F_coder_la1, F_value_la1, V_lb1, -, -, CR2, -, sfe2, st2⟩ := ldcCH (s := s) (vm0 := s.vm) X1 hx hZ hown (own_w hw 22 rfl) hwsS e1 hS hk1 hEW (List.mem_of_getElem? (i := 3) rfl) CH (vs := []) (z := (0 : Int32)) ⟨fun c hc => (by cases hc), rfl⟩ (by decide) rfl (g := (mkF m 9 #[rv sx, rv a, iv 0, iv 0, .val .null, .unset] [(.ref sx)])) rfl (hb hby own_d5) (n := 0) (by decide) (by decide) (by decide) (by decide)
  have OL := OL.ext E2
  have KP := KP.ext E2
  have E_sx := E_sx.ext E2
  have F_value_sx := F_value_sx.ext E2
  have F_coder_sx := F_coder_sx.ext E2
  have hk1 := hk2
  have SF_sx := CR2.safe lts_sx SF_sx
  have ne_sx_la1 := (sfe2 sx SF_sx).1
  have ne_sx_lb1 := (sfe2 sx SF_sx).2
  have CHR := CHR.trans CR2
  have CH := CR2.1
  refine own_to (mkF m 11 #[rv sx, rv a, iv 0, iv 0, .val .null, .unset] [(.ref la1), (.ref sx)]) st2 ?_
  obtain ⟨T3, X3, e3, st3⟩ := getF X2 hx hZ hown (host := "") (Or.inl (own_w hw 28 rfl)) Via.refl e2 F_value_la1 (g := (mkF m 11 #[rv sx, rv a, iv 0, iv 0, .val .null, .unset] [(.ref la1), (.ref sx)])) rfl rfl (hb hby own_d6)
  refine own_to (mkF m 14 #[rv sx, rv a, iv 0, iv 0, .val .null, .unset] [(.ref lb1), (.ref sx)]) st3 ?_
  obtain ⟨T4, h4, X4, e4, W4, st4⟩ := putF X3 hx hZ hown (host := "") (Or.inl (own_w hw 28 rfl)) Via.refl e3 F_value_sx E_sx (Or.inr ⟨(own_w hw 24 rfl), rfl, hnm⟩) (own_w hw 9 rfl) (ty := (.array .byte)) (by decide) rfl rfl (g := (mkF m 14 #[rv sx, rv a, iv 0, iv 0, .val .null, .unset] [(.ref lb1), (.ref sx)])) rfl rfl (hb hby own_d7)
  refine own_to (mkF m 17 #[rv sx, rv a, iv 0, iv 0, .val .null, .unset] []) st4 ?_
  have N4 := Fr.snoc X4 N0 ge_sx
  have tmp4 : Fld Z h4 sx "java/lang/String" "value" "[B" (.ref lb1) := F_value_sx.same W4
  have SFa : Safe Z own_EL T2.vm h2 sx := SF_sx
  have SF_sx := Safe.wr W4 SFa CH SF_sx
  have CHR := CHR.trans (CHr.wr W4 SFa CH)
  have CH := CH.wr W4 SFa
  have OL := OL.wr W4 ge_sx
  have KP := KP.wr W4 (Or.inl (List.mem_of_getElem? (i := 0) rfl))
  have hk1 := Nat.le_trans hk1 (Keep.of_wr W4).1
  have E_sx := E_sx.wr W4
  have F_coder_sx := F_coder_sx.other W4 (Or.inr (slot_ne (Or.inr (own_w hw 25 rfl)) (Or.inr (own_w hw 24 rfl)) (by decide) (t := .byte) (t' := (.array .byte)) (by decide) (by decide)))
  have E_la1 := E_la1.wr W4
  have F_coder_la1 := F_coder_la1.other W4 (Or.inl (Ne.symm ne_sx_la1))
  have F_value_la1 := F_value_la1.other W4 (Or.inl (Ne.symm ne_sx_la1))
  have V_lb1 := V_lb1.other W4 (Ne.symm ne_sx_lb1)
  have F_value_sx := tmp4
  refine own_aln 18 X4 hx (hb hby own_d8) rfl rfl rfl ?_
  have lts_sx := E_sx.lt
  obtain ⟨la2, T5, h5, k1, lb2, lk2, X5, e5, E5, hS, hk2, hZ, hown, E_la2, F_coder_la2, F_value_la2, V_lb2, -, -, CR5, -, sfe5, st5⟩ := ldcCH (s := s) (vm0 := T2.vm) X4 hx hZ hown (own_w hw 22 rfl) hwsS e4 hS hk1 hEW (List.mem_of_getElem? (i := 3) rfl) CH (vs := []) (z := (0 : Int32)) ⟨fun c hc => (by cases hc), rfl⟩ (by decide) rfl (g := (mkF m 18 #[rv sx, rv a, iv 0, iv 0, .val .null, .unset] [(.ref sx)])) rfl (hb hby own_d9) (n := 0) (by decide) (by decide) (by decide) (by decide)
  have OL := OL.ext E5
  have KP := KP.ext E5
  have E_sx := E_sx.ext E5
  have F_value_sx := F_value_sx.ext E5
  have F_coder_sx := F_coder_sx.ext E5
  have V_lb1 := V_lb1.ext E5
  have hk1 := hk2
  have SF_sx := CR5.safe lts_sx SF_sx
  have ne_sx_la2 := (sfe5 sx SF_sx).1
  have ne_sx_lb2 := (sfe5 sx SF_sx).2
  have CHR := CHR.trans CR5
  have CH := CR5.1
  refine own_to (mkF m 20 #[rv sx, rv a, iv 0, iv 0, .val .null, .unset] [(.ref la2), (.ref sx)]) st5 ?_
  obtain ⟨T6, X6, e6, st6⟩ := getF X5 hx hZ hown (host := "") (Or.inl (own_w hw 29 rfl)) Via.refl e5 F_coder_la2 (g := (mkF m 20 #[rv sx, rv a, iv 0, iv 0, .val .null, .unset] [(.ref la2), (.ref sx)])) rfl rfl (hb hby own_d10)
  refine own_to (mkF m 23 #[rv sx, rv a, iv 0, iv 0, .val .null, .unset] [(.int (0 : Int32)), (.ref sx)]) st6 ?_
  obtain ⟨T7, h7, X7, e7, W7, st7⟩ := putFN X6 hx hZ hown (own_w hw 29 rfl) Via.refl e6 F_coder_sx E_sx (Or.inr ⟨(own_w hw 25 rfl), rfl, hnm⟩) (own_w hw 9 rfl) (ty := .byte) (v' := (.int (0 : Int32))) (by decide) rfl rfl (g := (mkF m 23 #[rv sx, rv a, iv 0, iv 0, .val .null, .unset] [(.int (0 : Int32)), (.ref sx)])) rfl rfl (hb hby own_d11)
  refine own_to (mkF m 26 #[rv sx, rv a, iv 0, iv 0, .val .null, .unset] []) st7 ?_
  have N7 := Fr.snoc X7 N4 ge_sx
  have tmp7 : Fld Z h7 sx "java/lang/String" "coder" "B" (.int (0 : Int32)) := F_coder_sx.same W7
  have SFa : Safe Z own_EL T5.vm h5 sx := SF_sx
  have SF_sx := Safe.wr W7 SFa CH SF_sx
  have CHR := CHR.trans (CHr.wr W7 SFa CH)
  have CH := CH.wr W7 SFa
  have OL := OL.wr W7 ge_sx
  have KP := KP.wr W7 (Or.inl (List.mem_of_getElem? (i := 0) rfl))
  have hk1 := Nat.le_trans hk1 (Keep.of_wr W7).1
  have E_sx := E_sx.wr W7
  have F_value_sx := F_value_sx.other W7 (Or.inr (slot_ne (Or.inr (own_w hw 24 rfl)) (Or.inr (own_w hw 25 rfl)) (by decide) (t := (.array .byte)) (t' := .byte) (by decide) (by decide)))
  have V_lb1 := V_lb1.other W7 (Ne.symm ne_sx_lb1)
  have E_la2 := E_la2.wr W7
  have F_coder_la2 := F_coder_la2.other W7 (Or.inl (Ne.symm ne_sx_la2))
  have F_value_la2 := F_value_la2.other W7 (Or.inl (Ne.symm ne_sx_la2))
  have V_lb2 := V_lb2.other W7 (Ne.symm ne_sx_lb2)
  have F_coder_sx := tmp7
  exact own_ret0H (s := s) (vm₁ := T5.vm) X7 hS (by rw [e7]; exact hk1) hZ hEW (by rw [e7]; exact CH) (by rw [hh, e7]; exact CHR) hx Bd.returns hlk (hb hby own_d12) (by decide) (by decide) (by rw [e7]; exact ⟨rfl, N7, KP, lb1, lk1, E_sx, F_value_sx, F_coder_sx, V_lb1, own_all0, Nat.zero_le _⟩)
def own_QI1_0 (Z : State) (sx a : Addr) (ka : ClassId) (h0 : Heap) (n0 : Nat) (v : Option Value) (h : Heap) (L : List Loc) : Prop := v = none ∧ Fr n0 L ∧ Keep h0 h [sx] ∧ ∃ (t : Addr) (kb : ClassId), own_Str Z h sx t kb []
set_option maxRecDepth 65536 in
set_option maxHeartbeats 40000000 in
theorem own_rmI1_0 (l : Launch) (Z : State) (a0 : Array Value) (hw : ∀ d ∈ tables_1, d.before a0 Z = true) (ws : List Jvm.Cond) (sx a : Addr) (ka : ClassId) (h0 : Heap) (n0 : Nat) (Z0 : n0 ≤ h0.size) (OL : Old Z n0 h0) (ge_sx : n0 ≤ sx) (E_sx : Exa Z h0 sx "java/lang/String") (F_value_sx : Fld Z h0 sx "java/lang/String" "value" "[B" .null) (F_coder_sx : Fld Z h0 sx "java/lang/String" "coder" "B" (.int (0 : Int32))) (Va : Arv Z h0 a ka .char (0 : Int32) [] (.int (0 : Int32))) :
    MetFree l (⟨"java/lang/String", "<init>", "([C)V"⟩ : MethodName) (head1 (Jvm.Cond.code (⟨"java/lang/String", "<init>", "([C)V"⟩ : MethodName) jdk_42_method_3_code 2 none :: ws) ({ frames := 2, cells := 4, slots := 8, locals := 29 } : Room)) (fun aa_ U => aa_ = #[(.ref sx), (.ref a)] ∧ Z.Warmed39 U.vm ∧ U.heap = h0 ∧ CHv Z own_EL U.vm h0) (fun _ _ _ _ _ => True) (fun _ U o U' => ∃ v L, o = .returned v ∧ own_QI1_0 Z sx a ka h0 n0 v U'.heap L ∧ CHr Z own_EL U.vm U.heap U'.vm U'.heap ∧ ReturnedEndW U o U' L ({ frames := 2, cells := 4, slots := 8, locals := 29 } : Room).cells ({ frames := 2, cells := 4, slots := 8, locals := 29 } : Room).slots) := by
  refine MetFree.of_bodySF (plainFor_of_name own_pn0) hisR ?_
  intro p e s m args below meth c s₁ Bd hml0 hP hK
  obtain ⟨rfl, hZ, hh, CH⟩ := hP
  have hx := Bd.exec
  have hby := Bd.bytes
  have hlk : meth.locks = false := BodyLoose.notSynchronized Bd
  have hml : c.maxLocals = 2 := hml0
  have hown : s.vm.findClass "java/lang/String" = some m.cls := findClass_of_methodNamed Bd.named
  have hnm := (name_of_methodNamed Bd.named Bd.method).1
  have X0 : Stand p l e ({ frames := 2, cells := 4, slots := 8, locals := 29 } : Room) s m #[(.ref sx), (.ref a)] below meth c s₁ [] 0 0 := Stand.of_body Bd
  have e0 : s₁.heap = h0 := by rw [← hh, Bd.state]; rfl
  have N0 := Fr.nil n0
  have KP : Keep h0 h0 [sx] := Keep.refl _ _
  have hS : s.Since s.vm 0 := (State.WarmedH.refl s).since 0
  have hk1 : 0 ≤ h0.size := Nat.zero_le _
  have CHR : CHr Z own_EL s.vm h0 s.vm h0 := CHr.refl CH
  have hEW : EW Z a0 own_EL := own_EWof hw
  have hwsS : ∀ d ∈ Bundle.stringAtoms, d.before a0 Z = true := fun d hd => hw d (own_wS d hd)
  refine own_start (Fin := (own_FinH Z s (own_QI1_0 Z sx a ka h0 n0) ({ frames := 2, cells := 4, slots := 8, locals := 29 } : Room).cells ({ frames := 2, cells := 4, slots := 8, locals := 29 } : Room).slots)) (own_from (mkF m 0 #[rv sx, rv a] []) (castTop (own_ef_I1_0 m sx a)) ?_)
  refine own_aln 1 X0 hx (hb hby own_d13) rfl rfl rfl ?_
  refine own_aln 2 X0 hx (hb hby own_d14) rfl rfl rfl ?_
  refine own_ic 3 0 X0 hx (hb hby own_d15) rfl rfl ?_
  refine own_aln 4 X0 hx (hb hby own_d16) rfl rfl rfl ?_
  obtain ⟨cl8, Ar8, -, S8, M8, -, -⟩ := id Va
  refine own_to (mkF m 5 #[rv sx, rv a] [(.int (0 : Int32)), (.int (0 : Int32)), (.ref a), (.ref sx)]) (by have q := X0.arraylength hx (by rw [e0]; exact Ar8.1) (State.isArrayOf_alike hZ.alike Ar8.2.1) (g := (mkF m 4 #[rv sx, rv a] [(.ref a), (.int (0 : Int32)), (.ref a), (.ref sx)])) rfl rfl (hb hby own_d17); rw [len_of S8 M8] at q; exact q) ?_
  refine own_nul 6 X0 hx (hb hby own_d18) rfl ?_
  obtain ⟨_, _, ⟨T9, L9, k9, n9⟩, -, X9, hS9, gr9, ⟨Lc9, hQ9, l9, y9, z9, CR9⟩, st9⟩ := Stand.specialBackS (s := s.setVm s.vm) X0 hx (y := (⟨"java/lang/String", "<init>", "([CIILjava/lang/Void;)V"⟩ : MethodName)) rfl hown (mvT hZ (own_w hw 15 rfl)) (mvT hZ (own_w hw 16 rfl)) (mvT hZ (own_w hw 18 rfl)) (by decide) (backOfSH (s := s) (vm0 := s.vm) (W := 0) (own_rmI4_0 l Z a0 hw [] sx a h0 n0 (Nat.le_trans Z0 KP.1) OL ge_sx E_sx F_value_sx F_coder_sx) hZ (own_w hw 18 rfl) (own_w hw 10 rfl) (by decide) (by decide) hEW CH) (g := (mkF m 6 #[rv sx, rv a] [.null, (.int (0 : Int32)), (.int (0 : Int32)), (.ref a), (.ref sx)])) rfl (by rw [hml]; rfl) (Steps.refl _) (a := sx) (argsL := [(.ref a), (.int (0 : Int32)), (.int (0 : Int32)), .null]) (rest := []) (lenOf own_pd0 rfl) rfl (by show 2 * 0 + _ ≤ _; exact Nat.le_of_eq rfl) (hb hby own_d19) (fun _ _ => ⟨rfl, e0, (by decide : 0 + 4 ≤ _), (by decide : 0 + 8 ≤ _)⟩)
  dsimp only [Pt.U, Pt.locs, Pt.cells, Pt.slots] at X9 hS9 gr9 l9 y9 z9 CR9 st9 hQ9
  subst l9 y9 z9
  obtain ⟨rfl, N9q, K9, hrest9⟩ := hQ9
  have N9 := Fr.app N0 N9q
  obtain ⟨X9, hS, hZ, hown⟩ := rebS hS (hk1 : _ ≤ (h0).size) X9 hS9 (by rw [e0] at gr9; exact gr9) hZ hown
  have OL := OL.keep K9 (allS ge_sx all0)
  have KP := KP.trans K9 (allS (Or.inl (List.mem_of_getElem? (i := 0) rfl)) all0)
  have hk1 : T9.heap.size ≤ T9.heap.size := Nat.le_refl _
  have CHR := CHR.trans CR9
  have CH := CR9.1
  have X9 : Stand p l e ({ frames := 2, cells := 4, slots := 8, locals := 29 } : Room) (s.setVm T9.vm) m #[(.ref sx), (.ref a)] below meth c T9 _ 4 8 := X9
  refine own_via (mkF m 9 #[rv sx, rv a] []) st9 ?_
  exact own_ret0H (s := s) (vm₁ := T9.vm) X9 hS (by exact hk1) hZ hEW (by exact CH) (by rw [hh]; exact CHR) hx Bd.returns hlk (hb hby own_d20) (by decide) (by decide) (by exact ⟨rfl, N9, KP, hrest9⟩)
def own_QCD_0 (Z : State) (G1 : Int32) (sx : Addr) (h0 : Heap) (n0 : Nat) (v : Option Value) (h : Heap) (L : List Loc) : Prop := v = some (.int (0 : Int32)) ∧ Fr n0 L ∧ h = h0
set_option maxRecDepth 65536 in
set_option maxHeartbeats 40000000 in
theorem own_rmCD_0 (l : Launch) (Z : State) (a0 : Array Value) (hw : ∀ d ∈ tables_1, d.before a0 Z = true) (ws : List Jvm.Cond) (G1 : Int32) (sx : Addr) (h0 : Heap) (n0 : Nat) (Z0 : n0 ≤ h0.size) (OL : Old Z n0 h0) (Fc : Fld Z h0 sx "java/lang/String" "coder" "B" (.int (0 : Int32))) (O2 : Sta Z Z.heap "java/lang/String" "COMPACT_STRINGS" "Z" (.int G1)) (P5 : ¬ (G1 = (0 : Int32))) :
    own_MF l (⟨"java/lang/String", "coder", "()B"⟩ : MethodName) (Jvm.Cond.code (⟨"java/lang/String", "coder", "()B"⟩ : MethodName) jdk_42_method_152_code 1 (some .byte) :: ws) ({ frames := 0, cells := 0, slots := 0, locals := 0 } : Room) #[(.ref sx)] Z h0 (own_QCD_0 Z G1 sx h0 n0) := by
  refine MetFree.of_bodySF (plainFor_of_name own_pn0) hisR ?_
  intro p e s m args below meth c s₁ Bd hml0 hP hK
  obtain ⟨rfl, hZ, hh⟩ := hP
  have hx := Bd.exec
  have hby := Bd.bytes
  have hlk : meth.locks = false := BodyLoose.notSynchronized Bd
  have hml : c.maxLocals = 1 := hml0
  have hown : s.vm.findClass "java/lang/String" = some m.cls := findClass_of_methodNamed Bd.named
  have hnm := (name_of_methodNamed Bd.named Bd.method).1
  have X0 : Stand p l e ({ frames := 0, cells := 0, slots := 0, locals := 0 } : Room) s m #[(.ref sx)] below meth c s₁ [] 0 0 := Stand.of_body Bd
  have e0 : s₁.heap = h0 := by rw [← hh, Bd.state]; rfl
  have N0 := Fr.nil n0
  have KP : Keep h0 h0 [] := Keep.refl _ _
  refine own_start (Fin := (own_Fin s (own_QCD_0 Z G1 sx h0 n0) ({ frames := 0, cells := 0, slots := 0, locals := 0 } : Room).cells ({ frames := 0, cells := 0, slots := 0, locals := 0 } : Room).slots)) (own_from (mkF m 0 #[rv sx] []) (castTop (own_ef_CD_0 m sx)) ?_)
  obtain ⟨T10, X10, e10, st10⟩ := getS2 X0 hx hZ hown (host := "") (Or.inl (own_w hw 119 rfl)) Via.refl e0 (O2.ext OL.2) (g := (mkF m 0 #[rv sx] [])) rfl (hb hby own_d21)
  refine own_to (mkF m 3 #[rv sx] [(.int G1)]) st10 ?_
  refine own_ifN 6 X10 hx (hb hby own_d22) ((if0 _ _).trans (feq P5).1) rfl ?_
  refine own_aln 7 X10 hx (hb hby own_d23) rfl rfl rfl ?_
  obtain ⟨T11, X11, e11, st11⟩ := getF X10 hx hZ hown (host := "") (Or.inl (own_w hw 29 rfl)) Via.refl e10 Fc (g := (mkF m 7 #[rv sx] [(.ref sx)])) rfl rfl (hb hby own_d24)
  refine own_to (mkF m 10 #[rv sx] [(.int (0 : Int32))]) st11 ?_
  refine own_go 14 X11 hx (hb hby own_d25) (by decide) (by decide) ?_
  exact own_retN X11 hx (t := .byte) Bd.returns (by simp) hlk (hb hby own_d26) (by decide) (by decide) (by rw [e11]; exact ⟨rfl, N0, rfl⟩)
def own_QCD_1 (Z : State) (G1 : Int32) (sx : Addr) (h0 : Heap) (n0 : Nat) (v : Option Value) (h : Heap) (L : List Loc) : Prop := v = some (.int (1 : Int32)) ∧ Fr n0 L ∧ h = h0
set_option maxRecDepth 65536 in
set_option maxHeartbeats 40000000 in
theorem own_rmCD_1 (l : Launch) (Z : State) (a0 : Array Value) (hw : ∀ d ∈ tables_1, d.before a0 Z = true) (ws : List Jvm.Cond) (G1 : Int32) (sx : Addr) (h0 : Heap) (n0 : Nat) (Z0 : n0 ≤ h0.size) (OL : Old Z n0 h0) (Fc : Fld Z h0 sx "java/lang/String" "coder" "B" (.int (1 : Int32))) (O2 : Sta Z Z.heap "java/lang/String" "COMPACT_STRINGS" "Z" (.int G1)) (P5 : ¬ (G1 = (0 : Int32))) :
    own_MF l (⟨"java/lang/String", "coder", "()B"⟩ : MethodName) (Jvm.Cond.code (⟨"java/lang/String", "coder", "()B"⟩ : MethodName) jdk_42_method_152_code 1 (some .byte) :: ws) ({ frames := 0, cells := 0, slots := 0, locals := 0 } : Room) #[(.ref sx)] Z h0 (own_QCD_1 Z G1 sx h0 n0) := by
  refine MetFree.of_bodySF (plainFor_of_name own_pn0) hisR ?_
  intro p e s m args below meth c s₁ Bd hml0 hP hK
  obtain ⟨rfl, hZ, hh⟩ := hP
  have hx := Bd.exec
  have hby := Bd.bytes
  have hlk : meth.locks = false := BodyLoose.notSynchronized Bd
  have hml : c.maxLocals = 1 := hml0
  have hown : s.vm.findClass "java/lang/String" = some m.cls := findClass_of_methodNamed Bd.named
  have hnm := (name_of_methodNamed Bd.named Bd.method).1
  have X0 : Stand p l e ({ frames := 0, cells := 0, slots := 0, locals := 0 } : Room) s m #[(.ref sx)] below meth c s₁ [] 0 0 := Stand.of_body Bd
  have e0 : s₁.heap = h0 := by rw [← hh, Bd.state]; rfl
  have N0 := Fr.nil n0
  have KP : Keep h0 h0 [] := Keep.refl _ _
  refine own_start (Fin := (own_Fin s (own_QCD_1 Z G1 sx h0 n0) ({ frames := 0, cells := 0, slots := 0, locals := 0 } : Room).cells ({ frames := 0, cells := 0, slots := 0, locals := 0 } : Room).slots)) (own_from (mkF m 0 #[rv sx] []) (castTop (own_ef_CD_1 m sx)) ?_)
  obtain ⟨T12, X12, e12, st12⟩ := getS2 X0 hx hZ hown (host := "") (Or.inl (own_w hw 119 rfl)) Via.refl e0 (O2.ext OL.2) (g := (mkF m 0 #[rv sx] [])) rfl (hb hby own_d21)
  refine own_to (mkF m 3 #[rv sx] [(.int G1)]) st12 ?_
  refine own_ifN 6 X12 hx (hb hby own_d22) ((if0 _ _).trans (feq P5).1) rfl ?_
  refine own_aln 7 X12 hx (hb hby own_d23) rfl rfl rfl ?_
  obtain ⟨T13, X13, e13, st13⟩ := getF X12 hx hZ hown (host := "") (Or.inl (own_w hw 29 rfl)) Via.refl e12 Fc (g := (mkF m 7 #[rv sx] [(.ref sx)])) rfl rfl (hb hby own_d24)
  refine own_to (mkF m 10 #[rv sx] [(.int (1 : Int32))]) st13 ?_
  refine own_go 14 X13 hx (hb hby own_d25) (by decide) (by decide) ?_
  exact own_retN X13 hx (t := .byte) Bd.returns (by simp) hlk (hb hby own_d26) (by decide) (by decide) (by rw [e13]; exact ⟨rfl, N0, rfl⟩)
def own_QMK (Z : State) (len x0 x1 G1 : Int32) (h0 : Heap) (n0 : Nat) (v : Option Value) (h : Heap) (L : List Loc) : Prop := ∃ (sx t : Addr) (kb : ClassId), v = some (.ref sx) ∧ Fr n0 L ∧ Keep h0 h [] ∧ own_Str Z h sx t kb (own_c2 len x0 x1)
set_option maxRecDepth 65536 in
set_option maxHeartbeats 40000000 in
theorem own_rmMK (l : Launch) (Z : State) (a0 : Array Value) (hw : ∀ d ∈ tables_1, d.before a0 Z = true) (ws : List Jvm.Cond) (len x0 x1 G1 : Int32) (h0 : Heap) (n0 : Nat) (Z0 : n0 ≤ h0.size) (OL : Old Z n0 h0) (hlen : len = 0 ∨ len = 1 ∨ len = 2) (c8_x0 : own_C8 x0) (c8_x1 : own_C8 x1) (O2 : Sta Z Z.heap "java/lang/String" "COMPACT_STRINGS" "Z" (.int G1)) (P5 : ¬ (G1 = (0 : Int32))) :
    MetFree l (⟨"com/example/ianus/ianus/TokenDescribePinLaw", "make", "(ICC)Ljava/lang/String;"⟩ : MethodName) (head1 (Jvm.Cond.code (⟨"com/example/ianus/ianus/TokenDescribePinLaw", "make", "(ICC)Ljava/lang/String;"⟩ : MethodName) method_3_code 3 (some (.object "java/lang/String")) :: ws) ({ frames := 4, cells := 6, slots := 12, locals := 66 } : Room)) (fun aa_ U => aa_ = #[(.int len), (.int x0), (.int x1)] ∧ Z.Warmed39 U.vm ∧ U.heap = h0 ∧ CHv Z own_EL U.vm h0) (fun _ _ _ _ _ => True) (fun _ U o U' => ∃ v L, o = .returned v ∧ own_QMK Z len x0 x1 G1 h0 n0 v U'.heap L ∧ CHr Z own_EL U.vm U.heap U'.vm U'.heap ∧ ReturnedEndW U o U' L ({ frames := 4, cells := 6, slots := 12, locals := 66 } : Room).cells ({ frames := 4, cells := 6, slots := 12, locals := 66 } : Room).slots) := by
  refine MetFree.of_bodySF (plainFor_of_name own_pn1) hisR ?_
  intro p e s m args below meth c s₁ Bd hml0 hP hK
  obtain ⟨rfl, hZ, hh, CH⟩ := hP
  have hx := Bd.exec
  have hby := Bd.bytes
  have hlk : meth.locks = false := BodyLoose.notSynchronized Bd
  have hml : c.maxLocals = 3 := hml0
  have hown : s.vm.findClass "com/example/ianus/ianus/TokenDescribePinLaw" = some m.cls := findClass_of_methodNamed Bd.named
  have hnm := (name_of_methodNamed Bd.named Bd.method).1
  have X0 : Stand p l e ({ frames := 4, cells := 6, slots := 12, locals := 66 } : Room) s m #[(.int len), (.int x0), (.int x1)] below meth c s₁ [] 0 0 := Stand.of_body Bd
  have e0 : s₁.heap = h0 := by rw [← hh, Bd.state]; rfl
  have N0 := Fr.nil n0
  have KP : Keep h0 h0 [] := Keep.refl _ _
  have hS : s.Since s.vm 0 := (State.WarmedH.refl s).since 0
  have hk1 : 0 ≤ h0.size := Nat.zero_le _
  have CHR : CHr Z own_EL s.vm h0 s.vm h0 := CHr.refl CH
  have hEW : EW Z a0 own_EL := own_EWof hw
  have hwsS : ∀ d ∈ Bundle.stringAtoms, d.before a0 Z = true := fun d hd => hw d (own_wS d hd)
  refine own_start (Fin := (own_FinH Z s (own_QMK Z len x0 x1 G1 h0 n0) ({ frames := 4, cells := 6, slots := 12, locals := 66 } : Room).cells ({ frames := 4, cells := 6, slots := 12, locals := 66 } : Room).slots)) (own_from (mkF m 0 #[iv len, iv x0, iv x1] []) (castTop (own_ef_MK m len x0 x1)) ?_)
  have hwsV : ∀ d ∈ StrChars.Road.words, d.before a0 Z = true := fun d hd => hw d (own_wV d hd)
  rcases hlen with q | q | q
  · subst q
    refine own_iln 1 X0 hx (hb hby own_d27) rfl rfl ?_
    refine own_ifN 4 X0 hx (hb hby own_d28) ((if0 _ _).trans (teq (by decide : (0 : Int32) = (0 : Int32))).2) rfl ?_
    obtain ⟨T14, h14, X14, e14, E14, A14, D14, -, st14⟩ := newO X0 hx hZ hown (own_w hw 8 rfl) (own_w hw 9 rfl) (own_w hw 10 rfl) e0 (g := (mkF m 4 #[iv 0, iv x0, iv x1] [])) rfl (hb hby own_d29) (by decide) (by decide)
    obtain ⟨b14, g14⟩ : ∃ z, z = h0.size := ⟨_, rfl⟩
    rw [← g14] at A14 D14 st14
    have sz_b14 : h0.size ≤ b14 := Nat.le_trans KP.1 (Nat.le_of_eq g14.symm)
    have ge_b14 : n0 ≤ b14 := Nat.le_trans Z0 sz_b14
    have CHR := CHR.trans (CHr.ext E14 CH)
    have CH := CH.ext E14
    have OL := OL.ext E14
    have KP := KP.ext E14
    have hk1 := Nat.le_trans hk1 E14.1
    have E_b14 : Exa Z h14 b14 "java/lang/String" := A14
    have F_value_b14 : Fld Z h14 b14 "java/lang/String" "value" "[B" .null := D14 (Or.inr (own_w hw 24 rfl)) (ty := (.array .byte)) (by decide)
    have F_coder_b14 : Fld Z h14 b14 "java/lang/String" "coder" "B" (.int (0 : Int32)) := D14 (Or.inr (own_w hw 25 rfl)) (ty := .byte) (by decide)
    refine own_to (mkF m 7 #[iv 0, iv x0, iv x1] [(.ref b14)]) st14 ?_
    refine own_dup 8 X14 hx (hb hby own_d30) rfl rfl ?_
    refine own_ic 9 0 X14 hx (hb hby own_d31) rfl rfl ?_
    obtain ⟨T15, h15, k15, X15, e15, E15, A15, B15, st15⟩ := newPE X14 hx hZ (own_w hw 11 rfl) e14 (g := (mkF m 9 #[iv 0, iv x0, iv x1] [(.int (0 : Int32)), (.ref b14), (.ref b14)])) rfl (hb hby own_d32) rfl (by decide) (cap := 0) (by decide) (by decide) (by decide) (by decide) (ad := "[C") (by decide)
    obtain ⟨b15, g15⟩ : ∃ z, z = h14.size := ⟨_, rfl⟩
    rw [← g15] at A15 B15 st15
    have sz_b15 : h0.size ≤ b15 := Nat.le_trans KP.1 (Nat.le_of_eq g15.symm)
    have ge_b15 : n0 ≤ b15 := Nat.le_trans Z0 sz_b15
    have ne_b14_b15 : b14 ≠ b15 := Nat.ne_of_lt (Nat.lt_of_lt_of_le E_b14.lt (Nat.le_of_eq g15.symm))
    have CHR := CHR.trans (CHr.ext E15 CH)
    have CH := CH.ext E15
    have OL := OL.ext E15
    have KP := KP.ext E15
    have hk1 := Nat.le_trans hk1 E15.1
    have E_b14 := E_b14.ext E15
    have F_value_b14 := F_value_b14.ext E15
    have F_coder_b14 := F_coder_b14.ext E15
    have V_b15 : Arv Z h15 b15 k15 .char (0 : Int32) [] (.int (0 : Int32)) := Arv.new A15 (by decide)
    refine own_to (mkF m 11 #[iv 0, iv x0, iv x1] [(.ref b15), (.ref b14), (.ref b14)]) st15 ?_
    obtain ⟨_, _, ⟨T16, L16, k16, n16⟩, -, X16, hS16, gr16, ⟨Lc16, hQ16, l16, y16, z16, CR16⟩, st16⟩ := Stand.specialBackS (s := s.setVm s.vm) X15 hx (y := (⟨"java/lang/String", "<init>", "([C)V"⟩ : MethodName)) rfl hown (mvT hZ (own_w hw 12 rfl)) (mvT hZ (own_w hw 13 rfl)) (mvT hZ (own_w hw 14 rfl)) (by decide) (backOfSH (s := s) (vm0 := s.vm) (W := 1) (own_rmI1_0 l Z a0 hw [] b14 b15 k15 h15 n0 (Nat.le_trans Z0 KP.1) OL ge_b14 E_b14 F_value_b14 F_coder_b14 V_b15) hZ (own_w hw 14 rfl) (own_w hw 10 rfl) (by decide) (by decide) hEW CH) (g := (mkF m 11 #[iv 0, iv x0, iv x1] [(.ref b15), (.ref b14), (.ref b14)])) rfl (by rw [hml]; rfl) (Steps.refl _) (a := b14) (argsL := [(.ref b15)]) (rest := [(.ref b14)]) (lenOf own_pd1 rfl) rfl (by show 2 * 0 + _ ≤ _; exact Nat.le_of_eq rfl) (hb hby own_d33) (fun _ _ => ⟨rfl, e15, (by decide : 2 + 4 ≤ _), (by decide : 4 + 8 ≤ _)⟩)
    dsimp only [Pt.U, Pt.locs, Pt.cells, Pt.slots] at X16 hS16 gr16 l16 y16 z16 CR16 st16 hQ16
    subst l16 y16 z16
    obtain ⟨rfl, N16q, K16, t_nm, kb_nm, S_nm⟩ := hQ16
    have N16 := Fr.app N0 N16q
    obtain ⟨X16, hS, hZ, hown⟩ := rebS hS (hk1 : _ ≤ (h15).size) X16 hS16 (by rw [e15] at gr16; exact gr16) hZ hown
    have OL := OL.keep K16 (allS ge_b14 all0)
    have KP := KP.trans K16 (allS (Or.inr sz_b14) all0)
    have E_b14 := E_b14.keep K16
    have V_b15 := V_b15.keep K16 (ninS (Ne.symm ne_b14_b15) nin0)
    have hk1 : T16.heap.size ≤ T16.heap.size := Nat.le_refl _
    have CHR := CHR.trans CR16
    have CH := CR16.1
    have X16 : Stand p l e ({ frames := 4, cells := 6, slots := 12, locals := 66 } : Room) (s.setVm T16.vm) m #[(.int (0 : Int32)), (.int x0), (.int x1)] below meth c T16 _ 6 12 := X16
    refine own_via (mkF m 14 #[iv 0, iv x0, iv x1] [(.ref b14)]) st16 ?_
    exact own_retAH (s := s) (vm₁ := T16.vm) X16 hS (by exact hk1) hZ hEW (by exact CH) (by rw [hh]; exact CHR) hx Bd.returns rfl hlk (hb hby own_d34) rfl (by decide) (by decide) (by exact ⟨b14, t_nm, kb_nm, rfl, N16, KP, by rw [own_c2_0]; exact S_nm⟩)
  · subst q
    refine own_iln 1 X0 hx (hb hby own_d27) rfl rfl ?_
    refine own_ifY 15 X0 hx (hb hby own_d28) ((if0 _ _).trans (feq (by decide : ¬ ((1 : Int32) = (0 : Int32)))).2) (by decide) (by decide) ?_
    refine own_iln 16 X0 hx (hb hby own_d35) rfl rfl ?_
    refine own_ic 17 1 X0 hx (hb hby own_d36) rfl rfl ?_
    refine own_icN 20 X0 hx (hb hby own_d37) (teq (by decide : (1 : Int32) = (1 : Int32))).2 rfl ?_
    obtain ⟨T17, h17, X17, e17, E17, A17, D17, -, st17⟩ := newO X0 hx hZ hown (own_w hw 8 rfl) (own_w hw 9 rfl) (own_w hw 10 rfl) e0 (g := (mkF m 20 #[iv 1, iv x0, iv x1] [])) rfl (hb hby own_d38) (by decide) (by decide)
    obtain ⟨b17, g17⟩ : ∃ z, z = h0.size := ⟨_, rfl⟩
    rw [← g17] at A17 D17 st17
    have sz_b17 : h0.size ≤ b17 := Nat.le_trans KP.1 (Nat.le_of_eq g17.symm)
    have ge_b17 : n0 ≤ b17 := Nat.le_trans Z0 sz_b17
    have CHR := CHR.trans (CHr.ext E17 CH)
    have CH := CH.ext E17
    have OL := OL.ext E17
    have KP := KP.ext E17
    have hk1 := Nat.le_trans hk1 E17.1
    have E_b17 : Exa Z h17 b17 "java/lang/String" := A17
    have F_value_b17 : Fld Z h17 b17 "java/lang/String" "value" "[B" .null := D17 (Or.inr (own_w hw 24 rfl)) (ty := (.array .byte)) (by decide)
    have F_coder_b17 : Fld Z h17 b17 "java/lang/String" "coder" "B" (.int (0 : Int32)) := D17 (Or.inr (own_w hw 25 rfl)) (ty := .byte) (by decide)
    refine own_to (mkF m 23 #[iv 1, iv x0, iv x1] [(.ref b17)]) st17 ?_
    refine own_dup 24 X17 hx (hb hby own_d39) rfl rfl ?_
    refine own_ic 25 1 X17 hx (hb hby own_d40) rfl rfl ?_
    obtain ⟨T18, h18, k18, X18, e18, E18, A18, B18, st18⟩ := newPE X17 hx hZ (own_w hw 11 rfl) e17 (g := (mkF m 25 #[iv 1, iv x0, iv x1] [(.int (1 : Int32)), (.ref b17), (.ref b17)])) rfl (hb hby own_d41) rfl (by decide) (cap := 1) (by decide) (by decide) (by decide) (by decide) (ad := "[C") (by decide)
    obtain ⟨b18, g18⟩ : ∃ z, z = h17.size := ⟨_, rfl⟩
    rw [← g18] at A18 B18 st18
    have sz_b18 : h0.size ≤ b18 := Nat.le_trans KP.1 (Nat.le_of_eq g18.symm)
    have ge_b18 : n0 ≤ b18 := Nat.le_trans Z0 sz_b18
    have ne_b17_b18 : b17 ≠ b18 := Nat.ne_of_lt (Nat.lt_of_lt_of_le E_b17.lt (Nat.le_of_eq g18.symm))
    have CHR := CHR.trans (CHr.ext E18 CH)
    have CH := CH.ext E18
    have OL := OL.ext E18
    have KP := KP.ext E18
    have hk1 := Nat.le_trans hk1 E18.1
    have E_b17 := E_b17.ext E18
    have F_value_b17 := F_value_b17.ext E18
    have F_coder_b17 := F_coder_b17.ext E18
    have V_b18 : Arv Z h18 b18 k18 .char (1 : Int32) [(.int (0 : Int32))] (.int (0 : Int32)) := (Arv.new A18 (by decide)).pad (pad_rep [] (.int (0 : Int32)) 1)
    refine own_to (mkF m 27 #[iv 1, iv x0, iv x1] [(.ref b18), (.ref b17), (.ref b17)]) st18 ?_
    refine own_dup 28 X18 hx (hb hby own_d42) rfl rfl ?_
    refine own_ic 29 0 X18 hx (hb hby own_d43) rfl rfl ?_
    refine own_iln 30 X18 hx (hb hby own_d44) rfl rfl ?_
    obtain ⟨cl19, Ar19, q19, S19, M19, H19, G19⟩ := id V_b18
    obtain ⟨T19, h19, X19, e19, W19, st19⟩ := stC X18 hx hZ e18 Ar19 (j := (0 : Int32)) (inb_of S19 ⟨by decide, by decide⟩) (g := (mkF m 30 #[iv 1, iv x0, iv x1] [(.int x0), (.int (0 : Int32)), (.ref b18), (.ref b18), (.ref b17), (.ref b17)])) rfl rfl (hb hby own_d45)
    refine own_to (mkF m 31 #[iv 1, iv x0, iv x1] [(.ref b18), (.ref b17), (.ref b17)]) st19 ?_
    have N19 := Fr.snoc X19 N0 ge_b18
    have tmp19 : Arv Z h19 b18 k18 .char (1 : Int32) [(.int (nar .char x0))] (.int (0 : Int32)) := Arv.set Ar19 q19 S19 M19 H19 G19 (fits_nar_char _) W19 0 rfl (Nat.le_of_ble_eq_true rfl)
    rw [own_nar8 c8_x0] at tmp19
    have SFa : Safe Z own_EL s.vm h18 b18 := (Safe.arv hZ.alike V_b18 (by decide))
    have CHR := CHR.trans (CHr.wr W19 SFa CH)
    have CH := CH.wr W19 SFa
    have OL := OL.wr W19 ge_b18
    have KP := KP.wr W19 (Or.inr sz_b18)
    have hk1 := Nat.le_trans hk1 (Keep.of_wr W19).1
    have E_b17 := E_b17.wr W19
    have F_value_b17 := F_value_b17.other W19 (Or.inl ne_b17_b18)
    have F_coder_b17 := F_coder_b17.other W19 (Or.inl ne_b17_b18)
    have V_b18 := tmp19
    have hp20 : ∀ c ∈ ([x0] : List Int32), ¬ c < 0 ∧ ¬ (255 : Int32) < c := (own_allS c8_x0 own_all0)
    have KP0 := KP
    have lt0_b17 := E_b17.lt
    have lt0_b18 := V_b18.lt
    obtain ⟨_, T21, Lc21, X21, hQ21, st21⟩ := own_special X19 hx (y := (⟨"java/lang/String", "<init>", "([C)V"⟩ : MethodName)) rfl hown (mvT hZ (own_w hw 12 rfl)) (mvT hZ (own_w hw 13 rfl)) (mvT hZ (own_w hw 14 rfl)) (by decide) (StrChars.Road.backV (W := 1) hZ hwsV (kI := 4) (own_w hw 9 rfl) (cs := ([x0] : List Int32)) (bs := (([x0] : List Int32)).map (fun c => c.toInt8.toInt32)) (n := 1) ge_b17 (Nat.le_trans Z0 KP.1) E_b17 F_value_b17 F_coder_b17 V_b18 (O2.ext OL.2) P5 rfl rfl (by decide) (by decide) hp20 rfl (by decide) (by decide)) (g := (mkF m 31 #[iv 1, iv x0, iv x1] [(.ref b18), (.ref b17), (.ref b17)])) rfl (by rw [hml]; rfl) (a := b17) (argsL := [(.ref b18)]) (rest := [(.ref b17)]) (lenOf own_pd1 rfl) rfl (by show 2 * 0 + _ ≤ _; exact Nat.le_of_eq rfl) (hb hby own_d46) rfl e19 (kc := 3) (ks := 6) rfl rfl (by decide) (by decide)
    obtain ⟨rfl, N21q, K21, Ex21, Cx21, t_nm, kb_nm, ge_t_nm, sz0_t_nm, ne_t_nm_b17, Vx21, Kx21⟩ := hQ21
    have N21 := Fr.app N19 N21q
    have SFk : ∀ x ∈ [b17], Safe Z own_EL s.vm h19 x := (sfS (own_safeN hZ.alike E_b17 F_value_b17) sf0)
    have CHR := CHR.trans (CHr.keep K21 SFk CH)
    have CH := CH.keep K21 SFk
    have OL := OL.keep K21 (allS ge_b17 all0)
    have KP := KP.trans K21 (allS (Or.inr sz_b17) all0)
    have hk1 := Nat.le_trans hk1 K21.1
    have E_b17 := E_b17.keep K21
    have V_b18 := V_b18.keep K21 (ninS (Ne.symm ne_b17_b18) nin0)
    refine own_via (mkF m 34 #[iv 1, iv x0, iv x1] [(.ref b17)]) st21 ?_
    have sz_t_nm : h0.size ≤ t_nm := Nat.le_trans KP0.1 sz0_t_nm
    have ne_b18_t_nm : b18 ≠ t_nm := Nat.ne_of_lt (Nat.lt_of_lt_of_le lt0_b18 sz0_t_nm)
    have S_nm : own_Str Z T21.heap b17 t_nm kb_nm ([x0] : List Int32) := ⟨Ex21, Vx21, Cx21, Kx21, hp20, Nat.le_of_ble_eq_true rfl⟩
    exact own_retAH (s := s) (vm₁ := s.vm) X21 hS (by exact hk1) hZ hEW (by exact CH) (by rw [hh]; exact CHR) hx Bd.returns rfl hlk (hb hby own_d47) rfl (by decide) (by decide) (by exact ⟨b17, t_nm, kb_nm, rfl, N21, KP, by rw [own_c2_1]; exact S_nm⟩)
  · subst q
    refine own_iln 1 X0 hx (hb hby own_d27) rfl rfl ?_
    refine own_ifY 15 X0 hx (hb hby own_d28) ((if0 _ _).trans (feq (by decide : ¬ ((2 : Int32) = (0 : Int32)))).2) (by decide) (by decide) ?_
    refine own_iln 16 X0 hx (hb hby own_d35) rfl rfl ?_
    refine own_ic 17 1 X0 hx (hb hby own_d36) rfl rfl ?_
    refine own_icY 35 X0 hx (hb hby own_d37) (feq (by decide : ¬ ((2 : Int32) = (1 : Int32)))).2 (by decide) (by decide) ?_
    obtain ⟨T22, h22, X22, e22, E22, A22, D22, -, st22⟩ := newO X0 hx hZ hown (own_w hw 8 rfl) (own_w hw 9 rfl) (own_w hw 10 rfl) e0 (g := (mkF m 35 #[iv 2, iv x0, iv x1] [])) rfl (hb hby own_d48) (by decide) (by decide)
    obtain ⟨b22, g22⟩ : ∃ z, z = h0.size := ⟨_, rfl⟩
    rw [← g22] at A22 D22 st22
    have sz_b22 : h0.size ≤ b22 := Nat.le_trans KP.1 (Nat.le_of_eq g22.symm)
    have ge_b22 : n0 ≤ b22 := Nat.le_trans Z0 sz_b22
    have CHR := CHR.trans (CHr.ext E22 CH)
    have CH := CH.ext E22
    have OL := OL.ext E22
    have KP := KP.ext E22
    have hk1 := Nat.le_trans hk1 E22.1
    have E_b22 : Exa Z h22 b22 "java/lang/String" := A22
    have F_value_b22 : Fld Z h22 b22 "java/lang/String" "value" "[B" .null := D22 (Or.inr (own_w hw 24 rfl)) (ty := (.array .byte)) (by decide)
    have F_coder_b22 : Fld Z h22 b22 "java/lang/String" "coder" "B" (.int (0 : Int32)) := D22 (Or.inr (own_w hw 25 rfl)) (ty := .byte) (by decide)
    refine own_to (mkF m 38 #[iv 2, iv x0, iv x1] [(.ref b22)]) st22 ?_
    refine own_dup 39 X22 hx (hb hby own_d49) rfl rfl ?_
    refine own_ic 40 2 X22 hx (hb hby own_d50) rfl rfl ?_
    obtain ⟨T23, h23, k23, X23, e23, E23, A23, B23, st23⟩ := newPE X22 hx hZ (own_w hw 11 rfl) e22 (g := (mkF m 40 #[iv 2, iv x0, iv x1] [(.int (2 : Int32)), (.ref b22), (.ref b22)])) rfl (hb hby own_d51) rfl (by decide) (cap := 2) (by decide) (by decide) (by decide) (by decide) (ad := "[C") (by decide)
    obtain ⟨b23, g23⟩ : ∃ z, z = h22.size := ⟨_, rfl⟩
    rw [← g23] at A23 B23 st23
    have sz_b23 : h0.size ≤ b23 := Nat.le_trans KP.1 (Nat.le_of_eq g23.symm)
    have ge_b23 : n0 ≤ b23 := Nat.le_trans Z0 sz_b23
    have ne_b22_b23 : b22 ≠ b23 := Nat.ne_of_lt (Nat.lt_of_lt_of_le E_b22.lt (Nat.le_of_eq g23.symm))
    have CHR := CHR.trans (CHr.ext E23 CH)
    have CH := CH.ext E23
    have OL := OL.ext E23
    have KP := KP.ext E23
    have hk1 := Nat.le_trans hk1 E23.1
    have E_b22 := E_b22.ext E23
    have F_value_b22 := F_value_b22.ext E23
    have F_coder_b22 := F_coder_b22.ext E23
    have V_b23 : Arv Z h23 b23 k23 .char (2 : Int32) [(.int (0 : Int32)), (.int (0 : Int32))] (.int (0 : Int32)) := (Arv.new A23 (by decide)).pad (pad_rep [] (.int (0 : Int32)) 2)
    refine own_to (mkF m 42 #[iv 2, iv x0, iv x1] [(.ref b23), (.ref b22), (.ref b22)]) st23 ?_
    refine own_dup 43 X23 hx (hb hby own_d52) rfl rfl ?_
    refine own_ic 44 0 X23 hx (hb hby own_d53) rfl rfl ?_
    refine own_iln 45 X23 hx (hb hby own_d54) rfl rfl ?_
    obtain ⟨cl24, Ar24, q24, S24, M24, H24, G24⟩ := id V_b23
    obtain ⟨T24, h24, X24, e24, W24, st24⟩ := stC X23 hx hZ e23 Ar24 (j := (0 : Int32)) (inb_of S24 ⟨by decide, by decide⟩) (g := (mkF m 45 #[iv 2, iv x0, iv x1] [(.int x0), (.int (0 : Int32)), (.ref b23), (.ref b23), (.ref b22), (.ref b22)])) rfl rfl (hb hby own_d55)
    refine own_to (mkF m 46 #[iv 2, iv x0, iv x1] [(.ref b23), (.ref b22), (.ref b22)]) st24 ?_
    have N24 := Fr.snoc X24 N0 ge_b23
    have tmp24 : Arv Z h24 b23 k23 .char (2 : Int32) [(.int (nar .char x0)), (.int (0 : Int32))] (.int (0 : Int32)) := Arv.set Ar24 q24 S24 M24 H24 G24 (fits_nar_char _) W24 0 rfl (Nat.le_of_ble_eq_true rfl)
    rw [own_nar8 c8_x0] at tmp24
    have SFa : Safe Z own_EL s.vm h23 b23 := (Safe.arv hZ.alike V_b23 (by decide))
    have CHR := CHR.trans (CHr.wr W24 SFa CH)
    have CH := CH.wr W24 SFa
    have OL := OL.wr W24 ge_b23
    have KP := KP.wr W24 (Or.inr sz_b23)
    have hk1 := Nat.le_trans hk1 (Keep.of_wr W24).1
    have E_b22 := E_b22.wr W24
    have F_value_b22 := F_value_b22.other W24 (Or.inl ne_b22_b23)
    have F_coder_b22 := F_coder_b22.other W24 (Or.inl ne_b22_b23)
    have V_b23 := tmp24
    refine own_dup 47 X24 hx (hb hby own_d56) rfl rfl ?_
    refine own_ic 48 1 X24 hx (hb hby own_d57) rfl rfl ?_
    refine own_iln 49 X24 hx (hb hby own_d58) rfl rfl ?_
    obtain ⟨cl25, Ar25, q25, S25, M25, H25, G25⟩ := id V_b23
    obtain ⟨T25, h25, X25, e25, W25, st25⟩ := stC X24 hx hZ e24 Ar25 (j := (1 : Int32)) (inb_of S25 ⟨by decide, by decide⟩) (g := (mkF m 49 #[iv 2, iv x0, iv x1] [(.int x1), (.int (1 : Int32)), (.ref b23), (.ref b23), (.ref b22), (.ref b22)])) rfl rfl (hb hby own_d59)
    refine own_to (mkF m 50 #[iv 2, iv x0, iv x1] [(.ref b23), (.ref b22), (.ref b22)]) st25 ?_
    have N25 := Fr.snoc X25 N24 ge_b23
    have tmp25 : Arv Z h25 b23 k23 .char (2 : Int32) [(.int x0), (.int (nar .char x1))] (.int (0 : Int32)) := Arv.set Ar25 q25 S25 M25 H25 G25 (fits_nar_char _) W25 1 rfl (Nat.le_of_ble_eq_true rfl)
    rw [own_nar8 c8_x1] at tmp25
    have SFa : Safe Z own_EL s.vm h24 b23 := (Safe.arv hZ.alike V_b23 (by decide))
    have CHR := CHR.trans (CHr.wr W25 SFa CH)
    have CH := CH.wr W25 SFa
    have OL := OL.wr W25 ge_b23
    have KP := KP.wr W25 (Or.inr sz_b23)
    have hk1 := Nat.le_trans hk1 (Keep.of_wr W25).1
    have E_b22 := E_b22.wr W25
    have F_value_b22 := F_value_b22.other W25 (Or.inl ne_b22_b23)
    have F_coder_b22 := F_coder_b22.other W25 (Or.inl ne_b22_b23)
    have V_b23 := tmp25
    have hp26 : ∀ c ∈ ([x0, x1] : List Int32), ¬ c < 0 ∧ ¬ (255 : Int32) < c := (own_allS c8_x0 (own_allS c8_x1 own_all0))
    have KP0 := KP
    have lt0_b22 := E_b22.lt
    have lt0_b23 := V_b23.lt
    obtain ⟨_, T27, Lc27, X27, hQ27, st27⟩ := own_special X25 hx (y := (⟨"java/lang/String", "<init>", "([C)V"⟩ : MethodName)) rfl hown (mvT hZ (own_w hw 12 rfl)) (mvT hZ (own_w hw 13 rfl)) (mvT hZ (own_w hw 14 rfl)) (by decide) (StrChars.Road.backV (W := 1) hZ hwsV (kI := 4) (own_w hw 9 rfl) (cs := ([x0, x1] : List Int32)) (bs := (([x0, x1] : List Int32)).map (fun c => c.toInt8.toInt32)) (n := 2) ge_b22 (Nat.le_trans Z0 KP.1) E_b22 F_value_b22 F_coder_b22 V_b23 (O2.ext OL.2) P5 rfl rfl (by decide) (by decide) hp26 rfl (by decide) (by decide)) (g := (mkF m 50 #[iv 2, iv x0, iv x1] [(.ref b23), (.ref b22), (.ref b22)])) rfl (by rw [hml]; rfl) (a := b22) (argsL := [(.ref b23)]) (rest := [(.ref b22)]) (lenOf own_pd1 rfl) rfl (by show 2 * 0 + _ ≤ _; exact Nat.le_of_eq rfl) (hb hby own_d60) rfl e25 (kc := 3) (ks := 8) rfl rfl (by decide) (by decide)
    obtain ⟨rfl, N27q, K27, Ex27, Cx27, t_nm, kb_nm, ge_t_nm, sz0_t_nm, ne_t_nm_b22, Vx27, Kx27⟩ := hQ27
    have N27 := Fr.app N25 N27q
    have SFk : ∀ x ∈ [b22], Safe Z own_EL s.vm h25 x := (sfS (own_safeN hZ.alike E_b22 F_value_b22) sf0)
    have CHR := CHR.trans (CHr.keep K27 SFk CH)
    have CH := CH.keep K27 SFk
    have OL := OL.keep K27 (allS ge_b22 all0)
    have KP := KP.trans K27 (allS (Or.inr sz_b22) all0)
    have hk1 := Nat.le_trans hk1 K27.1
    have E_b22 := E_b22.keep K27
    have V_b23 := V_b23.keep K27 (ninS (Ne.symm ne_b22_b23) nin0)
    refine own_via (mkF m 53 #[iv 2, iv x0, iv x1] [(.ref b22)]) st27 ?_
    have sz_t_nm : h0.size ≤ t_nm := Nat.le_trans KP0.1 sz0_t_nm
    have ne_b23_t_nm : b23 ≠ t_nm := Nat.ne_of_lt (Nat.lt_of_lt_of_le lt0_b23 sz0_t_nm)
    have S_nm : own_Str Z T27.heap b22 t_nm kb_nm ([x0, x1] : List Int32) := ⟨Ex27, Vx27, Cx27, Kx27, hp26, Nat.le_of_ble_eq_true rfl⟩
    exact own_retAH (s := s) (vm₁ := s.vm) X27 hS (by exact hk1) hZ hEW (by exact CH) (by rw [hh]; exact CHR) hx Bd.returns rfl hlk (hb hby own_d61) rfl (by decide) (by decide) (by exact ⟨b22, t_nm, kb_nm, rfl, N27, KP, by rw [own_c2_2]; exact S_nm⟩)
def own_QPF (Z : State) (len x0 x1 G1 : Int32) (h0 : Heap) (n0 : Nat) (v : Option Value) (h : Heap) (L : List Loc) : Prop := ∃ (sx t : Addr) (kb : ClassId), v = some (.ref sx) ∧ Fr n0 L ∧ Keep h0 h [] ∧ own_Str Z h sx t kb (own_pf len x0 x1)
set_option maxRecDepth 65536 in
set_option maxHeartbeats 40000000 in
theorem own_rmPF (l : Launch) (Z : State) (a0 : Array Value) (hw : ∀ d ∈ tables_1, d.before a0 Z = true) (ws : List Jvm.Cond) (len x0 x1 G1 : Int32) (h0 : Heap) (n0 : Nat) (Z0 : n0 ≤ h0.size) (OL : Old Z n0 h0) (hlen : len = 0 ∨ len = 1 ∨ len = 2) (c8_x0 : own_C8 x0) (c8_x1 : own_C8 x1) (O2 : Sta Z Z.heap "java/lang/String" "COMPACT_STRINGS" "Z" (.int G1)) (P5 : ¬ (G1 = (0 : Int32))) :
    own_MF l (⟨"com/example/ianus/ianus/TokenDescribePinLaw", "prefixed", "(ICC)Ljava/lang/String;"⟩ : MethodName) (Jvm.Cond.code (⟨"com/example/ianus/ianus/TokenDescribePinLaw", "prefixed", "(ICC)Ljava/lang/String;"⟩ : MethodName) method_4_code 3 (some (.object "java/lang/String")) :: ws) ({ frames := 4, cells := 4, slots := 30, locals := 66 } : Room) #[(.int len), (.int x0), (.int x1)] Z h0 (own_QPF Z len x0 x1 G1 h0 n0) := by
  refine MetFree.of_bodySF (plainFor_of_name own_pn1) hisR ?_
  intro p e s m args below meth c s₁ Bd hml0 hP hK
  obtain ⟨rfl, hZ, hh⟩ := hP
  have hx := Bd.exec
  have hby := Bd.bytes
  have hlk : meth.locks = false := BodyLoose.notSynchronized Bd
  have hml : c.maxLocals = 3 := hml0
  have hown : s.vm.findClass "com/example/ianus/ianus/TokenDescribePinLaw" = some m.cls := findClass_of_methodNamed Bd.named
  have hnm := (name_of_methodNamed Bd.named Bd.method).1
  have X0 : Stand p l e ({ frames := 4, cells := 4, slots := 30, locals := 66 } : Room) s m #[(.int len), (.int x0), (.int x1)] below meth c s₁ [] 0 0 := Stand.of_body Bd
  have e0 : s₁.heap = h0 := by rw [← hh, Bd.state]; rfl
  have N0 := Fr.nil n0
  have KP : Keep h0 h0 [] := Keep.refl _ _
  refine own_start (Fin := (own_Fin s (own_QPF Z len x0 x1 G1 h0 n0) ({ frames := 4, cells := 4, slots := 30, locals := 66 } : Room).cells ({ frames := 4, cells := 4, slots := 30, locals := 66 } : Room).slots)) (own_from (mkF m 0 #[iv len, iv x0, iv x1] []) (castTop (own_ef_PF m len x0 x1)) ?_)
  have hwsV : ∀ d ∈ StrChars.Road.words, d.before a0 Z = true := fun d hd => hw d (own_wV d hd)
  rcases hlen with q | q | q
  · subst q
    refine own_iln 1 X0 hx (hb hby own_d62) rfl rfl ?_
    refine own_ifN 4 X0 hx (hb hby own_d63) ((if0 _ _).trans (teq (by decide : (0 : Int32) = (0 : Int32))).2) rfl ?_
    obtain ⟨T28, h28, X28, e28, E28, A28, D28, -, st28⟩ := newO X0 hx hZ hown (own_w hw 8 rfl) (own_w hw 9 rfl) (own_w hw 10 rfl) e0 (g := (mkF m 4 #[iv 0, iv x0, iv x1] [])) rfl (hb hby own_d64) (by decide) (by decide)
    obtain ⟨b28, g28⟩ : ∃ z, z = h0.size := ⟨_, rfl⟩
    rw [← g28] at A28 D28 st28
    have sz_b28 : h0.size ≤ b28 := Nat.le_trans KP.1 (Nat.le_of_eq g28.symm)
    have ge_b28 : n0 ≤ b28 := Nat.le_trans Z0 sz_b28
    have OL := OL.ext E28
    have KP := KP.ext E28
    have E_b28 : Exa Z h28 b28 "java/lang/String" := A28
    have F_value_b28 : Fld Z h28 b28 "java/lang/String" "value" "[B" .null := D28 (Or.inr (own_w hw 24 rfl)) (ty := (.array .byte)) (by decide)
    have F_coder_b28 : Fld Z h28 b28 "java/lang/String" "coder" "B" (.int (0 : Int32)) := D28 (Or.inr (own_w hw 25 rfl)) (ty := .byte) (by decide)
    refine own_to (mkF m 7 #[iv 0, iv x0, iv x1] [(.ref b28)]) st28 ?_
    refine own_dup 8 X28 hx (hb hby own_d65) rfl rfl ?_
    refine own_bi 10 7 X28 hx (hb hby own_d66) rfl rfl ?_
    obtain ⟨T29, h29, k29, X29, e29, E29, A29, B29, st29⟩ := newPE X28 hx hZ (own_w hw 11 rfl) e28 (g := (mkF m 10 #[iv 0, iv x0, iv x1] [(.int (7 : Int32)), (.ref b28), (.ref b28)])) rfl (hb hby own_d67) rfl (by decide) (cap := 7) (by decide) (by decide) (by decide) (by decide) (ad := "[C") (by decide)
    obtain ⟨b29, g29⟩ : ∃ z, z = h28.size := ⟨_, rfl⟩
    rw [← g29] at A29 B29 st29
    have sz_b29 : h0.size ≤ b29 := Nat.le_trans KP.1 (Nat.le_of_eq g29.symm)
    have ge_b29 : n0 ≤ b29 := Nat.le_trans Z0 sz_b29
    have ne_b28_b29 : b28 ≠ b29 := Nat.ne_of_lt (Nat.lt_of_lt_of_le E_b28.lt (Nat.le_of_eq g29.symm))
    have OL := OL.ext E29
    have KP := KP.ext E29
    have E_b28 := E_b28.ext E29
    have F_value_b28 := F_value_b28.ext E29
    have F_coder_b28 := F_coder_b28.ext E29
    have V_b29 : Arv Z h29 b29 k29 .char (7 : Int32) [(.int (0 : Int32)), (.int (0 : Int32)), (.int (0 : Int32)), (.int (0 : Int32)), (.int (0 : Int32)), (.int (0 : Int32)), (.int (0 : Int32))] (.int (0 : Int32)) := (Arv.new A29 (by decide)).pad (pad_rep [] (.int (0 : Int32)) 7)
    refine own_to (mkF m 12 #[iv 0, iv x0, iv x1] [(.ref b29), (.ref b28), (.ref b28)]) st29 ?_
    refine own_dup 13 X29 hx (hb hby own_d68) rfl rfl ?_
    refine own_ic 14 0 X29 hx (hb hby own_d69) rfl rfl ?_
    refine own_bi 16 115 X29 hx (hb hby own_d70) rfl rfl ?_
    obtain ⟨cl30, Ar30, q30, S30, M30, H30, G30⟩ := id V_b29
    obtain ⟨T30, h30, X30, e30, W30, st30⟩ := stC X29 hx hZ e29 Ar30 (j := (0 : Int32)) (inb_of S30 ⟨by decide, by decide⟩) (g := (mkF m 16 #[iv 0, iv x0, iv x1] [(.int (115 : Int32)), (.int (0 : Int32)), (.ref b29), (.ref b29), (.ref b28), (.ref b28)])) rfl rfl (hb hby own_d71)
    refine own_to (mkF m 17 #[iv 0, iv x0, iv x1] [(.ref b29), (.ref b28), (.ref b28)]) st30 ?_
    have N30 := Fr.snoc X30 N0 ge_b29
    have tmp30 : Arv Z h30 b29 k29 .char (7 : Int32) [(.int (115 : Int32)), (.int (0 : Int32)), (.int (0 : Int32)), (.int (0 : Int32)), (.int (0 : Int32)), (.int (0 : Int32)), (.int (0 : Int32))] (.int (0 : Int32)) := Arv.set Ar30 q30 S30 M30 H30 G30 (fits_nar_char _) W30 0 rfl (Nat.le_of_ble_eq_true rfl)
    have OL := OL.wr W30 ge_b29
    have KP := KP.wr W30 (Or.inr sz_b29)
    have E_b28 := E_b28.wr W30
    have F_value_b28 := F_value_b28.other W30 (Or.inl ne_b28_b29)
    have F_coder_b28 := F_coder_b28.other W30 (Or.inl ne_b28_b29)
    have V_b29 := tmp30
    refine own_dup 18 X30 hx (hb hby own_d72) rfl rfl ?_
    refine own_ic 19 1 X30 hx (hb hby own_d73) rfl rfl ?_
    refine own_bi 21 116 X30 hx (hb hby own_d74) rfl rfl ?_
    obtain ⟨cl31, Ar31, q31, S31, M31, H31, G31⟩ := id V_b29
    obtain ⟨T31, h31, X31, e31, W31, st31⟩ := stC X30 hx hZ e30 Ar31 (j := (1 : Int32)) (inb_of S31 ⟨by decide, by decide⟩) (g := (mkF m 21 #[iv 0, iv x0, iv x1] [(.int (116 : Int32)), (.int (1 : Int32)), (.ref b29), (.ref b29), (.ref b28), (.ref b28)])) rfl rfl (hb hby own_d75)
    refine own_to (mkF m 22 #[iv 0, iv x0, iv x1] [(.ref b29), (.ref b28), (.ref b28)]) st31 ?_
    have N31 := Fr.snoc X31 N30 ge_b29
    have tmp31 : Arv Z h31 b29 k29 .char (7 : Int32) [(.int (115 : Int32)), (.int (116 : Int32)), (.int (0 : Int32)), (.int (0 : Int32)), (.int (0 : Int32)), (.int (0 : Int32)), (.int (0 : Int32))] (.int (0 : Int32)) := Arv.set Ar31 q31 S31 M31 H31 G31 (fits_nar_char _) W31 1 rfl (Nat.le_of_ble_eq_true rfl)
    have OL := OL.wr W31 ge_b29
    have KP := KP.wr W31 (Or.inr sz_b29)
    have E_b28 := E_b28.wr W31
    have F_value_b28 := F_value_b28.other W31 (Or.inl ne_b28_b29)
    have F_coder_b28 := F_coder_b28.other W31 (Or.inl ne_b28_b29)
    have V_b29 := tmp31
    refine own_dup 23 X31 hx (hb hby own_d76) rfl rfl ?_
    refine own_ic 24 2 X31 hx (hb hby own_d77) rfl rfl ?_
    refine own_bi 26 114 X31 hx (hb hby own_d78) rfl rfl ?_
    obtain ⟨cl32, Ar32, q32, S32, M32, H32, G32⟩ := id V_b29
    obtain ⟨T32, h32, X32, e32, W32, st32⟩ := stC X31 hx hZ e31 Ar32 (j := (2 : Int32)) (inb_of S32 ⟨by decide, by decide⟩) (g := (mkF m 26 #[iv 0, iv x0, iv x1] [(.int (114 : Int32)), (.int (2 : Int32)), (.ref b29), (.ref b29), (.ref b28), (.ref b28)])) rfl rfl (hb hby own_d79)
    refine own_to (mkF m 27 #[iv 0, iv x0, iv x1] [(.ref b29), (.ref b28), (.ref b28)]) st32 ?_
    have N32 := Fr.snoc X32 N31 ge_b29
    have tmp32 : Arv Z h32 b29 k29 .char (7 : Int32) [(.int (115 : Int32)), (.int (116 : Int32)), (.int (114 : Int32)), (.int (0 : Int32)), (.int (0 : Int32)), (.int (0 : Int32)), (.int (0 : Int32))] (.int (0 : Int32)) := Arv.set Ar32 q32 S32 M32 H32 G32 (fits_nar_char _) W32 2 rfl (Nat.le_of_ble_eq_true rfl)
    have OL := OL.wr W32 ge_b29
    have KP := KP.wr W32 (Or.inr sz_b29)
    have E_b28 := E_b28.wr W32
    have F_value_b28 := F_value_b28.other W32 (Or.inl ne_b28_b29)
    have F_coder_b28 := F_coder_b28.other W32 (Or.inl ne_b28_b29)
    have V_b29 := tmp32
    refine own_dup 28 X32 hx (hb hby own_d80) rfl rfl ?_
    refine own_ic 29 3 X32 hx (hb hby own_d81) rfl rfl ?_
    refine own_bi 31 105 X32 hx (hb hby own_d82) rfl rfl ?_
    obtain ⟨cl33, Ar33, q33, S33, M33, H33, G33⟩ := id V_b29
    obtain ⟨T33, h33, X33, e33, W33, st33⟩ := stC X32 hx hZ e32 Ar33 (j := (3 : Int32)) (inb_of S33 ⟨by decide, by decide⟩) (g := (mkF m 31 #[iv 0, iv x0, iv x1] [(.int (105 : Int32)), (.int (3 : Int32)), (.ref b29), (.ref b29), (.ref b28), (.ref b28)])) rfl rfl (hb hby own_d83)
    refine own_to (mkF m 32 #[iv 0, iv x0, iv x1] [(.ref b29), (.ref b28), (.ref b28)]) st33 ?_
    have N33 := Fr.snoc X33 N32 ge_b29
    have tmp33 : Arv Z h33 b29 k29 .char (7 : Int32) [(.int (115 : Int32)), (.int (116 : Int32)), (.int (114 : Int32)), (.int (105 : Int32)), (.int (0 : Int32)), (.int (0 : Int32)), (.int (0 : Int32))] (.int (0 : Int32)) := Arv.set Ar33 q33 S33 M33 H33 G33 (fits_nar_char _) W33 3 rfl (Nat.le_of_ble_eq_true rfl)
    have OL := OL.wr W33 ge_b29
    have KP := KP.wr W33 (Or.inr sz_b29)
    have E_b28 := E_b28.wr W33
    have F_value_b28 := F_value_b28.other W33 (Or.inl ne_b28_b29)
    have F_coder_b28 := F_coder_b28.other W33 (Or.inl ne_b28_b29)
    have V_b29 := tmp33
    refine own_dup 33 X33 hx (hb hby own_d84) rfl rfl ?_
    refine own_ic 34 4 X33 hx (hb hby own_d85) rfl rfl ?_
    refine own_bi 36 110 X33 hx (hb hby own_d86) rfl rfl ?_
    obtain ⟨cl34, Ar34, q34, S34, M34, H34, G34⟩ := id V_b29
    obtain ⟨T34, h34, X34, e34, W34, st34⟩ := stC X33 hx hZ e33 Ar34 (j := (4 : Int32)) (inb_of S34 ⟨by decide, by decide⟩) (g := (mkF m 36 #[iv 0, iv x0, iv x1] [(.int (110 : Int32)), (.int (4 : Int32)), (.ref b29), (.ref b29), (.ref b28), (.ref b28)])) rfl rfl (hb hby own_d87)
    refine own_to (mkF m 37 #[iv 0, iv x0, iv x1] [(.ref b29), (.ref b28), (.ref b28)]) st34 ?_
    have N34 := Fr.snoc X34 N33 ge_b29
    have tmp34 : Arv Z h34 b29 k29 .char (7 : Int32) [(.int (115 : Int32)), (.int (116 : Int32)), (.int (114 : Int32)), (.int (105 : Int32)), (.int (110 : Int32)), (.int (0 : Int32)), (.int (0 : Int32))] (.int (0 : Int32)) := Arv.set Ar34 q34 S34 M34 H34 G34 (fits_nar_char _) W34 4 rfl (Nat.le_of_ble_eq_true rfl)
    have OL := OL.wr W34 ge_b29
    have KP := KP.wr W34 (Or.inr sz_b29)
    have E_b28 := E_b28.wr W34
    have F_value_b28 := F_value_b28.other W34 (Or.inl ne_b28_b29)
    have F_coder_b28 := F_coder_b28.other W34 (Or.inl ne_b28_b29)
    have V_b29 := tmp34
    refine own_dup 38 X34 hx (hb hby own_d88) rfl rfl ?_
    refine own_ic 39 5 X34 hx (hb hby own_d89) rfl rfl ?_
    refine own_bi 41 103 X34 hx (hb hby own_d90) rfl rfl ?_
    obtain ⟨cl35, Ar35, q35, S35, M35, H35, G35⟩ := id V_b29
    obtain ⟨T35, h35, X35, e35, W35, st35⟩ := stC X34 hx hZ e34 Ar35 (j := (5 : Int32)) (inb_of S35 ⟨by decide, by decide⟩) (g := (mkF m 41 #[iv 0, iv x0, iv x1] [(.int (103 : Int32)), (.int (5 : Int32)), (.ref b29), (.ref b29), (.ref b28), (.ref b28)])) rfl rfl (hb hby own_d91)
    refine own_to (mkF m 42 #[iv 0, iv x0, iv x1] [(.ref b29), (.ref b28), (.ref b28)]) st35 ?_
    have N35 := Fr.snoc X35 N34 ge_b29
    have tmp35 : Arv Z h35 b29 k29 .char (7 : Int32) [(.int (115 : Int32)), (.int (116 : Int32)), (.int (114 : Int32)), (.int (105 : Int32)), (.int (110 : Int32)), (.int (103 : Int32)), (.int (0 : Int32))] (.int (0 : Int32)) := Arv.set Ar35 q35 S35 M35 H35 G35 (fits_nar_char _) W35 5 rfl (Nat.le_of_ble_eq_true rfl)
    have OL := OL.wr W35 ge_b29
    have KP := KP.wr W35 (Or.inr sz_b29)
    have E_b28 := E_b28.wr W35
    have F_value_b28 := F_value_b28.other W35 (Or.inl ne_b28_b29)
    have F_coder_b28 := F_coder_b28.other W35 (Or.inl ne_b28_b29)
    have V_b29 := tmp35
    refine own_dup 43 X35 hx (hb hby own_d92) rfl rfl ?_
    refine own_bi 45 6 X35 hx (hb hby own_d93) rfl rfl ?_
    refine own_bi 47 32 X35 hx (hb hby own_d94) rfl rfl ?_
    obtain ⟨cl36, Ar36, q36, S36, M36, H36, G36⟩ := id V_b29
    obtain ⟨T36, h36, X36, e36, W36, st36⟩ := stC X35 hx hZ e35 Ar36 (j := (6 : Int32)) (inb_of S36 ⟨by decide, by decide⟩) (g := (mkF m 47 #[iv 0, iv x0, iv x1] [(.int (32 : Int32)), (.int (6 : Int32)), (.ref b29), (.ref b29), (.ref b28), (.ref b28)])) rfl rfl (hb hby own_d95)
    refine own_to (mkF m 48 #[iv 0, iv x0, iv x1] [(.ref b29), (.ref b28), (.ref b28)]) st36 ?_
    have N36 := Fr.snoc X36 N35 ge_b29
    have tmp36 : Arv Z h36 b29 k29 .char (7 : Int32) [(.int (115 : Int32)), (.int (116 : Int32)), (.int (114 : Int32)), (.int (105 : Int32)), (.int (110 : Int32)), (.int (103 : Int32)), (.int (32 : Int32))] (.int (0 : Int32)) := Arv.set Ar36 q36 S36 M36 H36 G36 (fits_nar_char _) W36 6 rfl (Nat.le_of_ble_eq_true rfl)
    have OL := OL.wr W36 ge_b29
    have KP := KP.wr W36 (Or.inr sz_b29)
    have E_b28 := E_b28.wr W36
    have F_value_b28 := F_value_b28.other W36 (Or.inl ne_b28_b29)
    have F_coder_b28 := F_coder_b28.other W36 (Or.inl ne_b28_b29)
    have V_b29 := tmp36
    have hp37 : ∀ c ∈ ([(115 : Int32), (116 : Int32), (114 : Int32), (105 : Int32), (110 : Int32), (103 : Int32), (32 : Int32)] : List Int32), ¬ c < 0 ∧ ¬ (255 : Int32) < c := (own_allS (show own_C8 (115 : Int32) from ⟨by decide, by decide⟩) (own_allS (show own_C8 (116 : Int32) from ⟨by decide, by decide⟩) (own_allS (show own_C8 (114 : Int32) from ⟨by decide, by decide⟩) (own_allS (show own_C8 (105 : Int32) from ⟨by decide, by decide⟩) (own_allS (show own_C8 (110 : Int32) from ⟨by decide, by decide⟩) (own_allS (show own_C8 (103 : Int32) from ⟨by decide, by decide⟩) (own_allS (show own_C8 (32 : Int32) from ⟨by decide, by decide⟩) own_all0)))))))
    have KP0 := KP
    have lt0_b28 := E_b28.lt
    have lt0_b29 := V_b29.lt
    obtain ⟨_, T38, Lc38, X38, hQ38, st38⟩ := own_special X36 hx (y := (⟨"java/lang/String", "<init>", "([C)V"⟩ : MethodName)) rfl hown (mvT hZ (own_w hw 12 rfl)) (mvT hZ (own_w hw 13 rfl)) (mvT hZ (own_w hw 14 rfl)) (by decide) (StrChars.Road.backV (W := 1) hZ hwsV (kI := 4) (own_w hw 9 rfl) (cs := ([(115 : Int32), (116 : Int32), (114 : Int32), (105 : Int32), (110 : Int32), (103 : Int32), (32 : Int32)] : List Int32)) (bs := (([(115 : Int32), (116 : Int32), (114 : Int32), (105 : Int32), (110 : Int32), (103 : Int32), (32 : Int32)] : List Int32)).map (fun c => c.toInt8.toInt32)) (n := 7) ge_b28 (Nat.le_trans Z0 KP.1) E_b28 F_value_b28 F_coder_b28 V_b29 (O2.ext OL.2) P5 rfl rfl (by decide) (by decide) hp37 rfl (by decide) (by decide)) (g := (mkF m 48 #[iv 0, iv x0, iv x1] [(.ref b29), (.ref b28), (.ref b28)])) rfl (by rw [hml]; rfl) (a := b28) (argsL := [(.ref b29)]) (rest := [(.ref b28)]) (lenOf own_pd1 rfl) rfl (by show 2 * 0 + _ ≤ _; exact Nat.le_of_eq rfl) (hb hby own_d96) rfl e36 (kc := 3) (ks := 18) rfl rfl (by decide) (by decide)
    obtain ⟨rfl, N38q, K38, Ex38, Cx38, t_nm, kb_nm, ge_t_nm, sz0_t_nm, ne_t_nm_b28, Vx38, Kx38⟩ := hQ38
    have N38 := Fr.app N36 N38q
    have OL := OL.keep K38 (allS ge_b28 all0)
    have KP := KP.trans K38 (allS (Or.inr sz_b28) all0)
    have E_b28 := E_b28.keep K38
    have V_b29 := V_b29.keep K38 (ninS (Ne.symm ne_b28_b29) nin0)
    refine own_via (mkF m 51 #[iv 0, iv x0, iv x1] [(.ref b28)]) st38 ?_
    have sz_t_nm : h0.size ≤ t_nm := Nat.le_trans KP0.1 sz0_t_nm
    have ne_b29_t_nm : b29 ≠ t_nm := Nat.ne_of_lt (Nat.lt_of_lt_of_le lt0_b29 sz0_t_nm)
    have S_nm : own_Str Z T38.heap b28 t_nm kb_nm ([(115 : Int32), (116 : Int32), (114 : Int32), (105 : Int32), (110 : Int32), (103 : Int32), (32 : Int32)] : List Int32) := ⟨Ex38, Vx38, Cx38, Kx38, hp37, Nat.le_of_ble_eq_true rfl⟩
    exact own_retA X38 hx Bd.returns rfl hlk (hb hby own_d97) rfl (by decide) (by decide) (by exact ⟨b28, t_nm, kb_nm, rfl, N38, KP, by rw [own_pf_0]; exact S_nm⟩)
  · subst q
    refine own_iln 1 X0 hx (hb hby own_d62) rfl rfl ?_
    refine own_ifY 52 X0 hx (hb hby own_d63) ((if0 _ _).trans (feq (by decide : ¬ ((1 : Int32) = (0 : Int32)))).2) (by decide) (by decide) ?_
    refine own_iln 53 X0 hx (hb hby own_d98) rfl rfl ?_
    refine own_ic 54 1 X0 hx (hb hby own_d99) rfl rfl ?_
    refine own_icN 57 X0 hx (hb hby own_d100) (teq (by decide : (1 : Int32) = (1 : Int32))).2 rfl ?_
    obtain ⟨T39, h39, X39, e39, E39, A39, D39, -, st39⟩ := newO X0 hx hZ hown (own_w hw 8 rfl) (own_w hw 9 rfl) (own_w hw 10 rfl) e0 (g := (mkF m 57 #[iv 1, iv x0, iv x1] [])) rfl (hb hby own_d101) (by decide) (by decide)
    obtain ⟨b39, g39⟩ : ∃ z, z = h0.size := ⟨_, rfl⟩
    rw [← g39] at A39 D39 st39
    have sz_b39 : h0.size ≤ b39 := Nat.le_trans KP.1 (Nat.le_of_eq g39.symm)
    have ge_b39 : n0 ≤ b39 := Nat.le_trans Z0 sz_b39
    have OL := OL.ext E39
    have KP := KP.ext E39
    have E_b39 : Exa Z h39 b39 "java/lang/String" := A39
    have F_value_b39 : Fld Z h39 b39 "java/lang/String" "value" "[B" .null := D39 (Or.inr (own_w hw 24 rfl)) (ty := (.array .byte)) (by decide)
    have F_coder_b39 : Fld Z h39 b39 "java/lang/String" "coder" "B" (.int (0 : Int32)) := D39 (Or.inr (own_w hw 25 rfl)) (ty := .byte) (by decide)
    refine own_to (mkF m 60 #[iv 1, iv x0, iv x1] [(.ref b39)]) st39 ?_
    refine own_dup 61 X39 hx (hb hby own_d102) rfl rfl ?_
    refine own_bi 63 8 X39 hx (hb hby own_d103) rfl rfl ?_
    obtain ⟨T40, h40, k40, X40, e40, E40, A40, B40, st40⟩ := newPE X39 hx hZ (own_w hw 11 rfl) e39 (g := (mkF m 63 #[iv 1, iv x0, iv x1] [(.int (8 : Int32)), (.ref b39), (.ref b39)])) rfl (hb hby own_d104) rfl (by decide) (cap := 8) (by decide) (by decide) (by decide) (by decide) (ad := "[C") (by decide)
    obtain ⟨b40, g40⟩ : ∃ z, z = h39.size := ⟨_, rfl⟩
    rw [← g40] at A40 B40 st40
    have sz_b40 : h0.size ≤ b40 := Nat.le_trans KP.1 (Nat.le_of_eq g40.symm)
    have ge_b40 : n0 ≤ b40 := Nat.le_trans Z0 sz_b40
    have ne_b39_b40 : b39 ≠ b40 := Nat.ne_of_lt (Nat.lt_of_lt_of_le E_b39.lt (Nat.le_of_eq g40.symm))
    have OL := OL.ext E40
    have KP := KP.ext E40
    have E_b39 := E_b39.ext E40
    have F_value_b39 := F_value_b39.ext E40
    have F_coder_b39 := F_coder_b39.ext E40
    have V_b40 : Arv Z h40 b40 k40 .char (8 : Int32) [(.int (0 : Int32)), (.int (0 : Int32)), (.int (0 : Int32)), (.int (0 : Int32)), (.int (0 : Int32)), (.int (0 : Int32)), (.int (0 : Int32)), (.int (0 : Int32))] (.int (0 : Int32)) := (Arv.new A40 (by decide)).pad (pad_rep [] (.int (0 : Int32)) 8)
    refine own_to (mkF m 65 #[iv 1, iv x0, iv x1] [(.ref b40), (.ref b39), (.ref b39)]) st40 ?_
    refine own_dup 66 X40 hx (hb hby own_d105) rfl rfl ?_
    refine own_ic 67 0 X40 hx (hb hby own_d106) rfl rfl ?_
    refine own_bi 69 115 X40 hx (hb hby own_d107) rfl rfl ?_
    obtain ⟨cl41, Ar41, q41, S41, M41, H41, G41⟩ := id V_b40
    obtain ⟨T41, h41, X41, e41, W41, st41⟩ := stC X40 hx hZ e40 Ar41 (j := (0 : Int32)) (inb_of S41 ⟨by decide, by decide⟩) (g := (mkF m 69 #[iv 1, iv x0, iv x1] [(.int (115 : Int32)), (.int (0 : Int32)), (.ref b40), (.ref b40), (.ref b39), (.ref b39)])) rfl rfl (hb hby own_d108)
    refine own_to (mkF m 70 #[iv 1, iv x0, iv x1] [(.ref b40), (.ref b39), (.ref b39)]) st41 ?_
    have N41 := Fr.snoc X41 N0 ge_b40
    have tmp41 : Arv Z h41 b40 k40 .char (8 : Int32) [(.int (115 : Int32)), (.int (0 : Int32)), (.int (0 : Int32)), (.int (0 : Int32)), (.int (0 : Int32)), (.int (0 : Int32)), (.int (0 : Int32)), (.int (0 : Int32))] (.int (0 : Int32)) := Arv.set Ar41 q41 S41 M41 H41 G41 (fits_nar_char _) W41 0 rfl (Nat.le_of_ble_eq_true rfl)
    have OL := OL.wr W41 ge_b40
    have KP := KP.wr W41 (Or.inr sz_b40)
    have E_b39 := E_b39.wr W41
    have F_value_b39 := F_value_b39.other W41 (Or.inl ne_b39_b40)
    have F_coder_b39 := F_coder_b39.other W41 (Or.inl ne_b39_b40)
    have V_b40 := tmp41
    refine own_dup 71 X41 hx (hb hby own_d109) rfl rfl ?_
    refine own_ic 72 1 X41 hx (hb hby own_d110) rfl rfl ?_
    refine own_bi 74 116 X41 hx (hb hby own_d111) rfl rfl ?_
    obtain ⟨cl42, Ar42, q42, S42, M42, H42, G42⟩ := id V_b40
    obtain ⟨T42, h42, X42, e42, W42, st42⟩ := stC X41 hx hZ e41 Ar42 (j := (1 : Int32)) (inb_of S42 ⟨by decide, by decide⟩) (g := (mkF m 74 #[iv 1, iv x0, iv x1] [(.int (116 : Int32)), (.int (1 : Int32)), (.ref b40), (.ref b40), (.ref b39), (.ref b39)])) rfl rfl (hb hby own_d112)
    refine own_to (mkF m 75 #[iv 1, iv x0, iv x1] [(.ref b40), (.ref b39), (.ref b39)]) st42 ?_
    have N42 := Fr.snoc X42 N41 ge_b40
    have tmp42 : Arv Z h42 b40 k40 .char (8 : Int32) [(.int (115 : Int32)), (.int (116 : Int32)), (.int (0 : Int32)), (.int (0 : Int32)), (.int (0 : Int32)), (.int (0 : Int32)), (.int (0 : Int32)), (.int (0 : Int32))] (.int (0 : Int32)) := Arv.set Ar42 q42 S42 M42 H42 G42 (fits_nar_char _) W42 1 rfl (Nat.le_of_ble_eq_true rfl)
    have OL := OL.wr W42 ge_b40
    have KP := KP.wr W42 (Or.inr sz_b40)
    have E_b39 := E_b39.wr W42
    have F_value_b39 := F_value_b39.other W42 (Or.inl ne_b39_b40)
    have F_coder_b39 := F_coder_b39.other W42 (Or.inl ne_b39_b40)
    have V_b40 := tmp42
    refine own_dup 76 X42 hx (hb hby own_d113) rfl rfl ?_
    refine own_ic 77 2 X42 hx (hb hby own_d114) rfl rfl ?_
    refine own_bi 79 114 X42 hx (hb hby own_d115) rfl rfl ?_
    obtain ⟨cl43, Ar43, q43, S43, M43, H43, G43⟩ := id V_b40
    obtain ⟨T43, h43, X43, e43, W43, st43⟩ := stC X42 hx hZ e42 Ar43 (j := (2 : Int32)) (inb_of S43 ⟨by decide, by decide⟩) (g := (mkF m 79 #[iv 1, iv x0, iv x1] [(.int (114 : Int32)), (.int (2 : Int32)), (.ref b40), (.ref b40), (.ref b39), (.ref b39)])) rfl rfl (hb hby own_d116)
    refine own_to (mkF m 80 #[iv 1, iv x0, iv x1] [(.ref b40), (.ref b39), (.ref b39)]) st43 ?_
    have N43 := Fr.snoc X43 N42 ge_b40
    have tmp43 : Arv Z h43 b40 k40 .char (8 : Int32) [(.int (115 : Int32)), (.int (116 : Int32)), (.int (114 : Int32)), (.int (0 : Int32)), (.int (0 : Int32)), (.int (0 : Int32)), (.int (0 : Int32)), (.int (0 : Int32))] (.int (0 : Int32)) := Arv.set Ar43 q43 S43 M43 H43 G43 (fits_nar_char _) W43 2 rfl (Nat.le_of_ble_eq_true rfl)
    have OL := OL.wr W43 ge_b40
    have KP := KP.wr W43 (Or.inr sz_b40)
    have E_b39 := E_b39.wr W43
    have F_value_b39 := F_value_b39.other W43 (Or.inl ne_b39_b40)
    have F_coder_b39 := F_coder_b39.other W43 (Or.inl ne_b39_b40)
    have V_b40 := tmp43
    refine own_dup 81 X43 hx (hb hby own_d117) rfl rfl ?_
    refine own_ic 82 3 X43 hx (hb hby own_d118) rfl rfl ?_
    refine own_bi 84 105 X43 hx (hb hby own_d119) rfl rfl ?_
    obtain ⟨cl44, Ar44, q44, S44, M44, H44, G44⟩ := id V_b40
    obtain ⟨T44, h44, X44, e44, W44, st44⟩ := stC X43 hx hZ e43 Ar44 (j := (3 : Int32)) (inb_of S44 ⟨by decide, by decide⟩) (g := (mkF m 84 #[iv 1, iv x0, iv x1] [(.int (105 : Int32)), (.int (3 : Int32)), (.ref b40), (.ref b40), (.ref b39), (.ref b39)])) rfl rfl (hb hby own_d120)
    refine own_to (mkF m 85 #[iv 1, iv x0, iv x1] [(.ref b40), (.ref b39), (.ref b39)]) st44 ?_
    have N44 := Fr.snoc X44 N43 ge_b40
    have tmp44 : Arv Z h44 b40 k40 .char (8 : Int32) [(.int (115 : Int32)), (.int (116 : Int32)), (.int (114 : Int32)), (.int (105 : Int32)), (.int (0 : Int32)), (.int (0 : Int32)), (.int (0 : Int32)), (.int (0 : Int32))] (.int (0 : Int32)) := Arv.set Ar44 q44 S44 M44 H44 G44 (fits_nar_char _) W44 3 rfl (Nat.le_of_ble_eq_true rfl)
    have OL := OL.wr W44 ge_b40
    have KP := KP.wr W44 (Or.inr sz_b40)
    have E_b39 := E_b39.wr W44
    have F_value_b39 := F_value_b39.other W44 (Or.inl ne_b39_b40)
    have F_coder_b39 := F_coder_b39.other W44 (Or.inl ne_b39_b40)
    have V_b40 := tmp44
    refine own_dup 86 X44 hx (hb hby own_d121) rfl rfl ?_
    refine own_ic 87 4 X44 hx (hb hby own_d122) rfl rfl ?_
    refine own_bi 89 110 X44 hx (hb hby own_d123) rfl rfl ?_
    obtain ⟨cl45, Ar45, q45, S45, M45, H45, G45⟩ := id V_b40
    obtain ⟨T45, h45, X45, e45, W45, st45⟩ := stC X44 hx hZ e44 Ar45 (j := (4 : Int32)) (inb_of S45 ⟨by decide, by decide⟩) (g := (mkF m 89 #[iv 1, iv x0, iv x1] [(.int (110 : Int32)), (.int (4 : Int32)), (.ref b40), (.ref b40), (.ref b39), (.ref b39)])) rfl rfl (hb hby own_d124)
    refine own_to (mkF m 90 #[iv 1, iv x0, iv x1] [(.ref b40), (.ref b39), (.ref b39)]) st45 ?_
    have N45 := Fr.snoc X45 N44 ge_b40
    have tmp45 : Arv Z h45 b40 k40 .char (8 : Int32) [(.int (115 : Int32)), (.int (116 : Int32)), (.int (114 : Int32)), (.int (105 : Int32)), (.int (110 : Int32)), (.int (0 : Int32)), (.int (0 : Int32)), (.int (0 : Int32))] (.int (0 : Int32)) := Arv.set Ar45 q45 S45 M45 H45 G45 (fits_nar_char _) W45 4 rfl (Nat.le_of_ble_eq_true rfl)
    have OL := OL.wr W45 ge_b40
    have KP := KP.wr W45 (Or.inr sz_b40)
    have E_b39 := E_b39.wr W45
    have F_value_b39 := F_value_b39.other W45 (Or.inl ne_b39_b40)
    have F_coder_b39 := F_coder_b39.other W45 (Or.inl ne_b39_b40)
    have V_b40 := tmp45
    refine own_dup 91 X45 hx (hb hby own_d125) rfl rfl ?_
    refine own_ic 92 5 X45 hx (hb hby own_d126) rfl rfl ?_
    refine own_bi 94 103 X45 hx (hb hby own_d127) rfl rfl ?_
    obtain ⟨cl46, Ar46, q46, S46, M46, H46, G46⟩ := id V_b40
    obtain ⟨T46, h46, X46, e46, W46, st46⟩ := stC X45 hx hZ e45 Ar46 (j := (5 : Int32)) (inb_of S46 ⟨by decide, by decide⟩) (g := (mkF m 94 #[iv 1, iv x0, iv x1] [(.int (103 : Int32)), (.int (5 : Int32)), (.ref b40), (.ref b40), (.ref b39), (.ref b39)])) rfl rfl (hb hby own_d128)
    refine own_to (mkF m 95 #[iv 1, iv x0, iv x1] [(.ref b40), (.ref b39), (.ref b39)]) st46 ?_
    have N46 := Fr.snoc X46 N45 ge_b40
    have tmp46 : Arv Z h46 b40 k40 .char (8 : Int32) [(.int (115 : Int32)), (.int (116 : Int32)), (.int (114 : Int32)), (.int (105 : Int32)), (.int (110 : Int32)), (.int (103 : Int32)), (.int (0 : Int32)), (.int (0 : Int32))] (.int (0 : Int32)) := Arv.set Ar46 q46 S46 M46 H46 G46 (fits_nar_char _) W46 5 rfl (Nat.le_of_ble_eq_true rfl)
    have OL := OL.wr W46 ge_b40
    have KP := KP.wr W46 (Or.inr sz_b40)
    have E_b39 := E_b39.wr W46
    have F_value_b39 := F_value_b39.other W46 (Or.inl ne_b39_b40)
    have F_coder_b39 := F_coder_b39.other W46 (Or.inl ne_b39_b40)
    have V_b40 := tmp46
    refine own_dup 96 X46 hx (hb hby own_d129) rfl rfl ?_
    refine own_bi 98 6 X46 hx (hb hby own_d130) rfl rfl ?_
    refine own_bi 100 32 X46 hx (hb hby own_d131) rfl rfl ?_
    obtain ⟨cl47, Ar47, q47, S47, M47, H47, G47⟩ := id V_b40
    obtain ⟨T47, h47, X47, e47, W47, st47⟩ := stC X46 hx hZ e46 Ar47 (j := (6 : Int32)) (inb_of S47 ⟨by decide, by decide⟩) (g := (mkF m 100 #[iv 1, iv x0, iv x1] [(.int (32 : Int32)), (.int (6 : Int32)), (.ref b40), (.ref b40), (.ref b39), (.ref b39)])) rfl rfl (hb hby own_d132)
    refine own_to (mkF m 101 #[iv 1, iv x0, iv x1] [(.ref b40), (.ref b39), (.ref b39)]) st47 ?_
    have N47 := Fr.snoc X47 N46 ge_b40
    have tmp47 : Arv Z h47 b40 k40 .char (8 : Int32) [(.int (115 : Int32)), (.int (116 : Int32)), (.int (114 : Int32)), (.int (105 : Int32)), (.int (110 : Int32)), (.int (103 : Int32)), (.int (32 : Int32)), (.int (0 : Int32))] (.int (0 : Int32)) := Arv.set Ar47 q47 S47 M47 H47 G47 (fits_nar_char _) W47 6 rfl (Nat.le_of_ble_eq_true rfl)
    have OL := OL.wr W47 ge_b40
    have KP := KP.wr W47 (Or.inr sz_b40)
    have E_b39 := E_b39.wr W47
    have F_value_b39 := F_value_b39.other W47 (Or.inl ne_b39_b40)
    have F_coder_b39 := F_coder_b39.other W47 (Or.inl ne_b39_b40)
    have V_b40 := tmp47
    refine own_dup 102 X47 hx (hb hby own_d133) rfl rfl ?_
    refine own_bi 104 7 X47 hx (hb hby own_d134) rfl rfl ?_
    refine own_iln 105 X47 hx (hb hby own_d135) rfl rfl ?_
    obtain ⟨cl48, Ar48, q48, S48, M48, H48, G48⟩ := id V_b40
    obtain ⟨T48, h48, X48, e48, W48, st48⟩ := stC X47 hx hZ e47 Ar48 (j := (7 : Int32)) (inb_of S48 ⟨by decide, by decide⟩) (g := (mkF m 105 #[iv 1, iv x0, iv x1] [(.int x0), (.int (7 : Int32)), (.ref b40), (.ref b40), (.ref b39), (.ref b39)])) rfl rfl (hb hby own_d136)
    refine own_to (mkF m 106 #[iv 1, iv x0, iv x1] [(.ref b40), (.ref b39), (.ref b39)]) st48 ?_
    have N48 := Fr.snoc X48 N47 ge_b40
    have tmp48 : Arv Z h48 b40 k40 .char (8 : Int32) [(.int (115 : Int32)), (.int (116 : Int32)), (.int (114 : Int32)), (.int (105 : Int32)), (.int (110 : Int32)), (.int (103 : Int32)), (.int (32 : Int32)), (.int (nar .char x0))] (.int (0 : Int32)) := Arv.set Ar48 q48 S48 M48 H48 G48 (fits_nar_char _) W48 7 rfl (Nat.le_of_ble_eq_true rfl)
    rw [own_nar8 c8_x0] at tmp48
    have OL := OL.wr W48 ge_b40
    have KP := KP.wr W48 (Or.inr sz_b40)
    have E_b39 := E_b39.wr W48
    have F_value_b39 := F_value_b39.other W48 (Or.inl ne_b39_b40)
    have F_coder_b39 := F_coder_b39.other W48 (Or.inl ne_b39_b40)
    have V_b40 := tmp48
    have hp49 : ∀ c ∈ ([(115 : Int32), (116 : Int32), (114 : Int32), (105 : Int32), (110 : Int32), (103 : Int32), (32 : Int32), x0] : List Int32), ¬ c < 0 ∧ ¬ (255 : Int32) < c := (own_allS (show own_C8 (115 : Int32) from ⟨by decide, by decide⟩) (own_allS (show own_C8 (116 : Int32) from ⟨by decide, by decide⟩) (own_allS (show own_C8 (114 : Int32) from ⟨by decide, by decide⟩) (own_allS (show own_C8 (105 : Int32) from ⟨by decide, by decide⟩) (own_allS (show own_C8 (110 : Int32) from ⟨by decide, by decide⟩) (own_allS (show own_C8 (103 : Int32) from ⟨by decide, by decide⟩) (own_allS (show own_C8 (32 : Int32) from ⟨by decide, by decide⟩) (own_allS c8_x0 own_all0))))))))
    have KP0 := KP
    have lt0_b39 := E_b39.lt
    have lt0_b40 := V_b40.lt
    obtain ⟨_, T50, Lc50, X50, hQ50, st50⟩ := own_special X48 hx (y := (⟨"java/lang/String", "<init>", "([C)V"⟩ : MethodName)) rfl hown (mvT hZ (own_w hw 12 rfl)) (mvT hZ (own_w hw 13 rfl)) (mvT hZ (own_w hw 14 rfl)) (by decide) (StrChars.Road.backV (W := 1) hZ hwsV (kI := 4) (own_w hw 9 rfl) (cs := ([(115 : Int32), (116 : Int32), (114 : Int32), (105 : Int32), (110 : Int32), (103 : Int32), (32 : Int32), x0] : List Int32)) (bs := (([(115 : Int32), (116 : Int32), (114 : Int32), (105 : Int32), (110 : Int32), (103 : Int32), (32 : Int32), x0] : List Int32)).map (fun c => c.toInt8.toInt32)) (n := 8) ge_b39 (Nat.le_trans Z0 KP.1) E_b39 F_value_b39 F_coder_b39 V_b40 (O2.ext OL.2) P5 rfl rfl (by decide) (by decide) hp49 rfl (by decide) (by decide)) (g := (mkF m 106 #[iv 1, iv x0, iv x1] [(.ref b40), (.ref b39), (.ref b39)])) rfl (by rw [hml]; rfl) (a := b39) (argsL := [(.ref b40)]) (rest := [(.ref b39)]) (lenOf own_pd1 rfl) rfl (by show 2 * 0 + _ ≤ _; exact Nat.le_of_eq rfl) (hb hby own_d137) rfl e48 (kc := 3) (ks := 20) rfl rfl (by decide) (by decide)
    obtain ⟨rfl, N50q, K50, Ex50, Cx50, t_nm, kb_nm, ge_t_nm, sz0_t_nm, ne_t_nm_b39, Vx50, Kx50⟩ := hQ50
    have N50 := Fr.app N48 N50q
    have OL := OL.keep K50 (allS ge_b39 all0)
    have KP := KP.trans K50 (allS (Or.inr sz_b39) all0)
    have E_b39 := E_b39.keep K50
    have V_b40 := V_b40.keep K50 (ninS (Ne.symm ne_b39_b40) nin0)
    refine own_via (mkF m 109 #[iv 1, iv x0, iv x1] [(.ref b39)]) st50 ?_
    have sz_t_nm : h0.size ≤ t_nm := Nat.le_trans KP0.1 sz0_t_nm
    have ne_b40_t_nm : b40 ≠ t_nm := Nat.ne_of_lt (Nat.lt_of_lt_of_le lt0_b40 sz0_t_nm)
    have S_nm : own_Str Z T50.heap b39 t_nm kb_nm ([(115 : Int32), (116 : Int32), (114 : Int32), (105 : Int32), (110 : Int32), (103 : Int32), (32 : Int32), x0] : List Int32) := ⟨Ex50, Vx50, Cx50, Kx50, hp49, Nat.le_of_ble_eq_true rfl⟩
    exact own_retA X50 hx Bd.returns rfl hlk (hb hby own_d138) rfl (by decide) (by decide) (by exact ⟨b39, t_nm, kb_nm, rfl, N50, KP, by rw [own_pf_1]; exact S_nm⟩)
  · subst q
    refine own_iln 1 X0 hx (hb hby own_d62) rfl rfl ?_
    refine own_ifY 52 X0 hx (hb hby own_d63) ((if0 _ _).trans (feq (by decide : ¬ ((2 : Int32) = (0 : Int32)))).2) (by decide) (by decide) ?_
    refine own_iln 53 X0 hx (hb hby own_d98) rfl rfl ?_
    refine own_ic 54 1 X0 hx (hb hby own_d99) rfl rfl ?_
    refine own_icY 110 X0 hx (hb hby own_d100) (feq (by decide : ¬ ((2 : Int32) = (1 : Int32)))).2 (by decide) (by decide) ?_
    obtain ⟨T51, h51, X51, e51, E51, A51, D51, -, st51⟩ := newO X0 hx hZ hown (own_w hw 8 rfl) (own_w hw 9 rfl) (own_w hw 10 rfl) e0 (g := (mkF m 110 #[iv 2, iv x0, iv x1] [])) rfl (hb hby own_d139) (by decide) (by decide)
    obtain ⟨b51, g51⟩ : ∃ z, z = h0.size := ⟨_, rfl⟩
    rw [← g51] at A51 D51 st51
    have sz_b51 : h0.size ≤ b51 := Nat.le_trans KP.1 (Nat.le_of_eq g51.symm)
    have ge_b51 : n0 ≤ b51 := Nat.le_trans Z0 sz_b51
    have OL := OL.ext E51
    have KP := KP.ext E51
    have E_b51 : Exa Z h51 b51 "java/lang/String" := A51
    have F_value_b51 : Fld Z h51 b51 "java/lang/String" "value" "[B" .null := D51 (Or.inr (own_w hw 24 rfl)) (ty := (.array .byte)) (by decide)
    have F_coder_b51 : Fld Z h51 b51 "java/lang/String" "coder" "B" (.int (0 : Int32)) := D51 (Or.inr (own_w hw 25 rfl)) (ty := .byte) (by decide)
    refine own_to (mkF m 113 #[iv 2, iv x0, iv x1] [(.ref b51)]) st51 ?_
    refine own_dup 114 X51 hx (hb hby own_d140) rfl rfl ?_
    refine own_bi 116 9 X51 hx (hb hby own_d141) rfl rfl ?_
    obtain ⟨T52, h52, k52, X52, e52, E52, A52, B52, st52⟩ := newPE X51 hx hZ (own_w hw 11 rfl) e51 (g := (mkF m 116 #[iv 2, iv x0, iv x1] [(.int (9 : Int32)), (.ref b51), (.ref b51)])) rfl (hb hby own_d142) rfl (by decide) (cap := 9) (by decide) (by decide) (by decide) (by decide) (ad := "[C") (by decide)
    obtain ⟨b52, g52⟩ : ∃ z, z = h51.size := ⟨_, rfl⟩
    rw [← g52] at A52 B52 st52
    have sz_b52 : h0.size ≤ b52 := Nat.le_trans KP.1 (Nat.le_of_eq g52.symm)
    have ge_b52 : n0 ≤ b52 := Nat.le_trans Z0 sz_b52
    have ne_b51_b52 : b51 ≠ b52 := Nat.ne_of_lt (Nat.lt_of_lt_of_le E_b51.lt (Nat.le_of_eq g52.symm))
    have OL := OL.ext E52
    have KP := KP.ext E52
    have E_b51 := E_b51.ext E52
    have F_value_b51 := F_value_b51.ext E52
    have F_coder_b51 := F_coder_b51.ext E52
    have V_b52 : Arv Z h52 b52 k52 .char (9 : Int32) [(.int (0 : Int32)), (.int (0 : Int32)), (.int (0 : Int32)), (.int (0 : Int32)), (.int (0 : Int32)), (.int (0 : Int32)), (.int (0 : Int32)), (.int (0 : Int32)), (.int (0 : Int32))] (.int (0 : Int32)) := (Arv.new A52 (by decide)).pad (pad_rep [] (.int (0 : Int32)) 9)
    refine own_to (mkF m 118 #[iv 2, iv x0, iv x1] [(.ref b52), (.ref b51), (.ref b51)]) st52 ?_
    refine own_dup 119 X52 hx (hb hby own_d143) rfl rfl ?_
    refine own_ic 120 0 X52 hx (hb hby own_d144) rfl rfl ?_
    refine own_bi 122 115 X52 hx (hb hby own_d145) rfl rfl ?_
    obtain ⟨cl53, Ar53, q53, S53, M53, H53, G53⟩ := id V_b52
    obtain ⟨T53, h53, X53, e53, W53, st53⟩ := stC X52 hx hZ e52 Ar53 (j := (0 : Int32)) (inb_of S53 ⟨by decide, by decide⟩) (g := (mkF m 122 #[iv 2, iv x0, iv x1] [(.int (115 : Int32)), (.int (0 : Int32)), (.ref b52), (.ref b52), (.ref b51), (.ref b51)])) rfl rfl (hb hby own_d146)
    refine own_to (mkF m 123 #[iv 2, iv x0, iv x1] [(.ref b52), (.ref b51), (.ref b51)]) st53 ?_
    have N53 := Fr.snoc X53 N0 ge_b52
    have tmp53 : Arv Z h53 b52 k52 .char (9 : Int32) [(.int (115 : Int32)), (.int (0 : Int32)), (.int (0 : Int32)), (.int (0 : Int32)), (.int (0 : Int32)), (.int (0 : Int32)), (.int (0 : Int32)), (.int (0 : Int32)), (.int (0 : Int32))] (.int (0 : Int32)) := Arv.set Ar53 q53 S53 M53 H53 G53 (fits_nar_char _) W53 0 rfl (Nat.le_of_ble_eq_true rfl)
    have OL := OL.wr W53 ge_b52
    have KP := KP.wr W53 (Or.inr sz_b52)
    have E_b51 := E_b51.wr W53
    have F_value_b51 := F_value_b51.other W53 (Or.inl ne_b51_b52)
    have F_coder_b51 := F_coder_b51.other W53 (Or.inl ne_b51_b52)
    have V_b52 := tmp53
    refine own_dup 124 X53 hx (hb hby own_d147) rfl rfl ?_
    refine own_ic 125 1 X53 hx (hb hby own_d148) rfl rfl ?_
    refine own_bi 127 116 X53 hx (hb hby own_d149) rfl rfl ?_
    obtain ⟨cl54, Ar54, q54, S54, M54, H54, G54⟩ := id V_b52
    obtain ⟨T54, h54, X54, e54, W54, st54⟩ := stC X53 hx hZ e53 Ar54 (j := (1 : Int32)) (inb_of S54 ⟨by decide, by decide⟩) (g := (mkF m 127 #[iv 2, iv x0, iv x1] [(.int (116 : Int32)), (.int (1 : Int32)), (.ref b52), (.ref b52), (.ref b51), (.ref b51)])) rfl rfl (hb hby own_d150)
    refine own_to (mkF m 128 #[iv 2, iv x0, iv x1] [(.ref b52), (.ref b51), (.ref b51)]) st54 ?_
    have N54 := Fr.snoc X54 N53 ge_b52
    have tmp54 : Arv Z h54 b52 k52 .char (9 : Int32) [(.int (115 : Int32)), (.int (116 : Int32)), (.int (0 : Int32)), (.int (0 : Int32)), (.int (0 : Int32)), (.int (0 : Int32)), (.int (0 : Int32)), (.int (0 : Int32)), (.int (0 : Int32))] (.int (0 : Int32)) := Arv.set Ar54 q54 S54 M54 H54 G54 (fits_nar_char _) W54 1 rfl (Nat.le_of_ble_eq_true rfl)
    have OL := OL.wr W54 ge_b52
    have KP := KP.wr W54 (Or.inr sz_b52)
    have E_b51 := E_b51.wr W54
    have F_value_b51 := F_value_b51.other W54 (Or.inl ne_b51_b52)
    have F_coder_b51 := F_coder_b51.other W54 (Or.inl ne_b51_b52)
    have V_b52 := tmp54
    refine own_dup 129 X54 hx (hb hby own_d151) rfl rfl ?_
    refine own_ic 130 2 X54 hx (hb hby own_d152) rfl rfl ?_
    refine own_bi 132 114 X54 hx (hb hby own_d153) rfl rfl ?_
    obtain ⟨cl55, Ar55, q55, S55, M55, H55, G55⟩ := id V_b52
    obtain ⟨T55, h55, X55, e55, W55, st55⟩ := stC X54 hx hZ e54 Ar55 (j := (2 : Int32)) (inb_of S55 ⟨by decide, by decide⟩) (g := (mkF m 132 #[iv 2, iv x0, iv x1] [(.int (114 : Int32)), (.int (2 : Int32)), (.ref b52), (.ref b52), (.ref b51), (.ref b51)])) rfl rfl (hb hby own_d154)
    refine own_to (mkF m 133 #[iv 2, iv x0, iv x1] [(.ref b52), (.ref b51), (.ref b51)]) st55 ?_
    have N55 := Fr.snoc X55 N54 ge_b52
    have tmp55 : Arv Z h55 b52 k52 .char (9 : Int32) [(.int (115 : Int32)), (.int (116 : Int32)), (.int (114 : Int32)), (.int (0 : Int32)), (.int (0 : Int32)), (.int (0 : Int32)), (.int (0 : Int32)), (.int (0 : Int32)), (.int (0 : Int32))] (.int (0 : Int32)) := Arv.set Ar55 q55 S55 M55 H55 G55 (fits_nar_char _) W55 2 rfl (Nat.le_of_ble_eq_true rfl)
    have OL := OL.wr W55 ge_b52
    have KP := KP.wr W55 (Or.inr sz_b52)
    have E_b51 := E_b51.wr W55
    have F_value_b51 := F_value_b51.other W55 (Or.inl ne_b51_b52)
    have F_coder_b51 := F_coder_b51.other W55 (Or.inl ne_b51_b52)
    have V_b52 := tmp55
    refine own_dup 134 X55 hx (hb hby own_d155) rfl rfl ?_
    refine own_ic 135 3 X55 hx (hb hby own_d156) rfl rfl ?_
    refine own_bi 137 105 X55 hx (hb hby own_d157) rfl rfl ?_
    obtain ⟨cl56, Ar56, q56, S56, M56, H56, G56⟩ := id V_b52
    obtain ⟨T56, h56, X56, e56, W56, st56⟩ := stC X55 hx hZ e55 Ar56 (j := (3 : Int32)) (inb_of S56 ⟨by decide, by decide⟩) (g := (mkF m 137 #[iv 2, iv x0, iv x1] [(.int (105 : Int32)), (.int (3 : Int32)), (.ref b52), (.ref b52), (.ref b51), (.ref b51)])) rfl rfl (hb hby own_d158)
    refine own_to (mkF m 138 #[iv 2, iv x0, iv x1] [(.ref b52), (.ref b51), (.ref b51)]) st56 ?_
    have N56 := Fr.snoc X56 N55 ge_b52
    have tmp56 : Arv Z h56 b52 k52 .char (9 : Int32) [(.int (115 : Int32)), (.int (116 : Int32)), (.int (114 : Int32)), (.int (105 : Int32)), (.int (0 : Int32)), (.int (0 : Int32)), (.int (0 : Int32)), (.int (0 : Int32)), (.int (0 : Int32))] (.int (0 : Int32)) := Arv.set Ar56 q56 S56 M56 H56 G56 (fits_nar_char _) W56 3 rfl (Nat.le_of_ble_eq_true rfl)
    have OL := OL.wr W56 ge_b52
    have KP := KP.wr W56 (Or.inr sz_b52)
    have E_b51 := E_b51.wr W56
    have F_value_b51 := F_value_b51.other W56 (Or.inl ne_b51_b52)
    have F_coder_b51 := F_coder_b51.other W56 (Or.inl ne_b51_b52)
    have V_b52 := tmp56
    refine own_dup 139 X56 hx (hb hby own_d159) rfl rfl ?_
    refine own_ic 140 4 X56 hx (hb hby own_d160) rfl rfl ?_
    refine own_bi 142 110 X56 hx (hb hby own_d161) rfl rfl ?_
    obtain ⟨cl57, Ar57, q57, S57, M57, H57, G57⟩ := id V_b52
    obtain ⟨T57, h57, X57, e57, W57, st57⟩ := stC X56 hx hZ e56 Ar57 (j := (4 : Int32)) (inb_of S57 ⟨by decide, by decide⟩) (g := (mkF m 142 #[iv 2, iv x0, iv x1] [(.int (110 : Int32)), (.int (4 : Int32)), (.ref b52), (.ref b52), (.ref b51), (.ref b51)])) rfl rfl (hb hby own_d162)
    refine own_to (mkF m 143 #[iv 2, iv x0, iv x1] [(.ref b52), (.ref b51), (.ref b51)]) st57 ?_
    have N57 := Fr.snoc X57 N56 ge_b52
    have tmp57 : Arv Z h57 b52 k52 .char (9 : Int32) [(.int (115 : Int32)), (.int (116 : Int32)), (.int (114 : Int32)), (.int (105 : Int32)), (.int (110 : Int32)), (.int (0 : Int32)), (.int (0 : Int32)), (.int (0 : Int32)), (.int (0 : Int32))] (.int (0 : Int32)) := Arv.set Ar57 q57 S57 M57 H57 G57 (fits_nar_char _) W57 4 rfl (Nat.le_of_ble_eq_true rfl)
    have OL := OL.wr W57 ge_b52
    have KP := KP.wr W57 (Or.inr sz_b52)
    have E_b51 := E_b51.wr W57
    have F_value_b51 := F_value_b51.other W57 (Or.inl ne_b51_b52)
    have F_coder_b51 := F_coder_b51.other W57 (Or.inl ne_b51_b52)
    have V_b52 := tmp57
    refine own_dup 144 X57 hx (hb hby own_d163) rfl rfl ?_
    refine own_ic 145 5 X57 hx (hb hby own_d164) rfl rfl ?_
    refine own_bi 147 103 X57 hx (hb hby own_d165) rfl rfl ?_
    obtain ⟨cl58, Ar58, q58, S58, M58, H58, G58⟩ := id V_b52
    obtain ⟨T58, h58, X58, e58, W58, st58⟩ := stC X57 hx hZ e57 Ar58 (j := (5 : Int32)) (inb_of S58 ⟨by decide, by decide⟩) (g := (mkF m 147 #[iv 2, iv x0, iv x1] [(.int (103 : Int32)), (.int (5 : Int32)), (.ref b52), (.ref b52), (.ref b51), (.ref b51)])) rfl rfl (hb hby own_d166)
    refine own_to (mkF m 148 #[iv 2, iv x0, iv x1] [(.ref b52), (.ref b51), (.ref b51)]) st58 ?_
    have N58 := Fr.snoc X58 N57 ge_b52
    have tmp58 : Arv Z h58 b52 k52 .char (9 : Int32) [(.int (115 : Int32)), (.int (116 : Int32)), (.int (114 : Int32)), (.int (105 : Int32)), (.int (110 : Int32)), (.int (103 : Int32)), (.int (0 : Int32)), (.int (0 : Int32)), (.int (0 : Int32))] (.int (0 : Int32)) := Arv.set Ar58 q58 S58 M58 H58 G58 (fits_nar_char _) W58 5 rfl (Nat.le_of_ble_eq_true rfl)
    have OL := OL.wr W58 ge_b52
    have KP := KP.wr W58 (Or.inr sz_b52)
    have E_b51 := E_b51.wr W58
    have F_value_b51 := F_value_b51.other W58 (Or.inl ne_b51_b52)
    have F_coder_b51 := F_coder_b51.other W58 (Or.inl ne_b51_b52)
    have V_b52 := tmp58
    refine own_dup 149 X58 hx (hb hby own_d167) rfl rfl ?_
    refine own_bi 151 6 X58 hx (hb hby own_d168) rfl rfl ?_
    refine own_bi 153 32 X58 hx (hb hby own_d169) rfl rfl ?_
    obtain ⟨cl59, Ar59, q59, S59, M59, H59, G59⟩ := id V_b52
    obtain ⟨T59, h59, X59, e59, W59, st59⟩ := stC X58 hx hZ e58 Ar59 (j := (6 : Int32)) (inb_of S59 ⟨by decide, by decide⟩) (g := (mkF m 153 #[iv 2, iv x0, iv x1] [(.int (32 : Int32)), (.int (6 : Int32)), (.ref b52), (.ref b52), (.ref b51), (.ref b51)])) rfl rfl (hb hby own_d170)
    refine own_to (mkF m 154 #[iv 2, iv x0, iv x1] [(.ref b52), (.ref b51), (.ref b51)]) st59 ?_
    have N59 := Fr.snoc X59 N58 ge_b52
    have tmp59 : Arv Z h59 b52 k52 .char (9 : Int32) [(.int (115 : Int32)), (.int (116 : Int32)), (.int (114 : Int32)), (.int (105 : Int32)), (.int (110 : Int32)), (.int (103 : Int32)), (.int (32 : Int32)), (.int (0 : Int32)), (.int (0 : Int32))] (.int (0 : Int32)) := Arv.set Ar59 q59 S59 M59 H59 G59 (fits_nar_char _) W59 6 rfl (Nat.le_of_ble_eq_true rfl)
    have OL := OL.wr W59 ge_b52
    have KP := KP.wr W59 (Or.inr sz_b52)
    have E_b51 := E_b51.wr W59
    have F_value_b51 := F_value_b51.other W59 (Or.inl ne_b51_b52)
    have F_coder_b51 := F_coder_b51.other W59 (Or.inl ne_b51_b52)
    have V_b52 := tmp59
    refine own_dup 155 X59 hx (hb hby own_d171) rfl rfl ?_
    refine own_bi 157 7 X59 hx (hb hby own_d172) rfl rfl ?_
    refine own_iln 158 X59 hx (hb hby own_d173) rfl rfl ?_
    obtain ⟨cl60, Ar60, q60, S60, M60, H60, G60⟩ := id V_b52
    obtain ⟨T60, h60, X60, e60, W60, st60⟩ := stC X59 hx hZ e59 Ar60 (j := (7 : Int32)) (inb_of S60 ⟨by decide, by decide⟩) (g := (mkF m 158 #[iv 2, iv x0, iv x1] [(.int x0), (.int (7 : Int32)), (.ref b52), (.ref b52), (.ref b51), (.ref b51)])) rfl rfl (hb hby own_d174)
    refine own_to (mkF m 159 #[iv 2, iv x0, iv x1] [(.ref b52), (.ref b51), (.ref b51)]) st60 ?_
    have N60 := Fr.snoc X60 N59 ge_b52
    have tmp60 : Arv Z h60 b52 k52 .char (9 : Int32) [(.int (115 : Int32)), (.int (116 : Int32)), (.int (114 : Int32)), (.int (105 : Int32)), (.int (110 : Int32)), (.int (103 : Int32)), (.int (32 : Int32)), (.int (nar .char x0)), (.int (0 : Int32))] (.int (0 : Int32)) := Arv.set Ar60 q60 S60 M60 H60 G60 (fits_nar_char _) W60 7 rfl (Nat.le_of_ble_eq_true rfl)
    rw [own_nar8 c8_x0] at tmp60
    have OL := OL.wr W60 ge_b52
    have KP := KP.wr W60 (Or.inr sz_b52)
    have E_b51 := E_b51.wr W60
    have F_value_b51 := F_value_b51.other W60 (Or.inl ne_b51_b52)
    have F_coder_b51 := F_coder_b51.other W60 (Or.inl ne_b51_b52)
    have V_b52 := tmp60
    refine own_dup 160 X60 hx (hb hby own_d175) rfl rfl ?_
    refine own_bi 162 8 X60 hx (hb hby own_d176) rfl rfl ?_
    refine own_iln 163 X60 hx (hb hby own_d177) rfl rfl ?_
    obtain ⟨cl61, Ar61, q61, S61, M61, H61, G61⟩ := id V_b52
    obtain ⟨T61, h61, X61, e61, W61, st61⟩ := stC X60 hx hZ e60 Ar61 (j := (8 : Int32)) (inb_of S61 ⟨by decide, by decide⟩) (g := (mkF m 163 #[iv 2, iv x0, iv x1] [(.int x1), (.int (8 : Int32)), (.ref b52), (.ref b52), (.ref b51), (.ref b51)])) rfl rfl (hb hby own_d178)
    refine own_to (mkF m 164 #[iv 2, iv x0, iv x1] [(.ref b52), (.ref b51), (.ref b51)]) st61 ?_
    have N61 := Fr.snoc X61 N60 ge_b52
    have tmp61 : Arv Z h61 b52 k52 .char (9 : Int32) [(.int (115 : Int32)), (.int (116 : Int32)), (.int (114 : Int32)), (.int (105 : Int32)), (.int (110 : Int32)), (.int (103 : Int32)), (.int (32 : Int32)), (.int x0), (.int (nar .char x1))] (.int (0 : Int32)) := Arv.set Ar61 q61 S61 M61 H61 G61 (fits_nar_char _) W61 8 rfl (Nat.le_of_ble_eq_true rfl)
    rw [own_nar8 c8_x1] at tmp61
    have OL := OL.wr W61 ge_b52
    have KP := KP.wr W61 (Or.inr sz_b52)
    have E_b51 := E_b51.wr W61
    have F_value_b51 := F_value_b51.other W61 (Or.inl ne_b51_b52)
    have F_coder_b51 := F_coder_b51.other W61 (Or.inl ne_b51_b52)
    have V_b52 := tmp61
    have hp62 : ∀ c ∈ ([(115 : Int32), (116 : Int32), (114 : Int32), (105 : Int32), (110 : Int32), (103 : Int32), (32 : Int32), x0, x1] : List Int32), ¬ c < 0 ∧ ¬ (255 : Int32) < c := (own_allS (show own_C8 (115 : Int32) from ⟨by decide, by decide⟩) (own_allS (show own_C8 (116 : Int32) from ⟨by decide, by decide⟩) (own_allS (show own_C8 (114 : Int32) from ⟨by decide, by decide⟩) (own_allS (show own_C8 (105 : Int32) from ⟨by decide, by decide⟩) (own_allS (show own_C8 (110 : Int32) from ⟨by decide, by decide⟩) (own_allS (show own_C8 (103 : Int32) from ⟨by decide, by decide⟩) (own_allS (show own_C8 (32 : Int32) from ⟨by decide, by decide⟩) (own_allS c8_x0 (own_allS c8_x1 own_all0)))))))))
    have KP0 := KP
    have lt0_b51 := E_b51.lt
    have lt0_b52 := V_b52.lt
    obtain ⟨_, T63, Lc63, X63, hQ63, st63⟩ := own_special X61 hx (y := (⟨"java/lang/String", "<init>", "([C)V"⟩ : MethodName)) rfl hown (mvT hZ (own_w hw 12 rfl)) (mvT hZ (own_w hw 13 rfl)) (mvT hZ (own_w hw 14 rfl)) (by decide) (StrChars.Road.backV (W := 1) hZ hwsV (kI := 4) (own_w hw 9 rfl) (cs := ([(115 : Int32), (116 : Int32), (114 : Int32), (105 : Int32), (110 : Int32), (103 : Int32), (32 : Int32), x0, x1] : List Int32)) (bs := (([(115 : Int32), (116 : Int32), (114 : Int32), (105 : Int32), (110 : Int32), (103 : Int32), (32 : Int32), x0, x1] : List Int32)).map (fun c => c.toInt8.toInt32)) (n := 9) ge_b51 (Nat.le_trans Z0 KP.1) E_b51 F_value_b51 F_coder_b51 V_b52 (O2.ext OL.2) P5 rfl rfl (by decide) (by decide) hp62 rfl (by decide) (by decide)) (g := (mkF m 164 #[iv 2, iv x0, iv x1] [(.ref b52), (.ref b51), (.ref b51)])) rfl (by rw [hml]; rfl) (a := b51) (argsL := [(.ref b52)]) (rest := [(.ref b51)]) (lenOf own_pd1 rfl) rfl (by show 2 * 0 + _ ≤ _; exact Nat.le_of_eq rfl) (hb hby own_d179) rfl e61 (kc := 3) (ks := 22) rfl rfl (by decide) (by decide)
    obtain ⟨rfl, N63q, K63, Ex63, Cx63, t_nm, kb_nm, ge_t_nm, sz0_t_nm, ne_t_nm_b51, Vx63, Kx63⟩ := hQ63
    have N63 := Fr.app N61 N63q
    have OL := OL.keep K63 (allS ge_b51 all0)
    have KP := KP.trans K63 (allS (Or.inr sz_b51) all0)
    have E_b51 := E_b51.keep K63
    have V_b52 := V_b52.keep K63 (ninS (Ne.symm ne_b51_b52) nin0)
    refine own_via (mkF m 167 #[iv 2, iv x0, iv x1] [(.ref b51)]) st63 ?_
    have sz_t_nm : h0.size ≤ t_nm := Nat.le_trans KP0.1 sz0_t_nm
    have ne_b52_t_nm : b52 ≠ t_nm := Nat.ne_of_lt (Nat.lt_of_lt_of_le lt0_b52 sz0_t_nm)
    have S_nm : own_Str Z T63.heap b51 t_nm kb_nm ([(115 : Int32), (116 : Int32), (114 : Int32), (105 : Int32), (110 : Int32), (103 : Int32), (32 : Int32), x0, x1] : List Int32) := ⟨Ex63, Vx63, Cx63, Kx63, hp62, Nat.le_of_ble_eq_true rfl⟩
    exact own_retA X63 hx Bd.returns rfl hlk (hb hby own_d180) rfl (by decide) (by decide) (by exact ⟨b51, t_nm, kb_nm, rfl, N63, KP, by rw [own_pf_2]; exact S_nm⟩)
def own_QQT (Z : State) (len x0 x1 G1 : Int32) (h0 : Heap) (n0 : Nat) (v : Option Value) (h : Heap) (L : List Loc) : Prop := ∃ (sx t : Addr) (kb : ClassId), v = some (.ref sx) ∧ Fr n0 L ∧ Keep h0 h [] ∧ own_Str Z h sx t kb (own_qt len x0 x1)
set_option maxRecDepth 65536 in
set_option maxHeartbeats 40000000 in
theorem own_rmQT (l : Launch) (Z : State) (a0 : Array Value) (hw : ∀ d ∈ tables_1, d.before a0 Z = true) (ws : List Jvm.Cond) (len x0 x1 G1 : Int32) (h0 : Heap) (n0 : Nat) (Z0 : n0 ≤ h0.size) (OL : Old Z n0 h0) (hlen : len = 0 ∨ len = 1 ∨ len = 2) (c8_x0 : own_C8 x0) (c8_x1 : own_C8 x1) (O2 : Sta Z Z.heap "java/lang/String" "COMPACT_STRINGS" "Z" (.int G1)) (P5 : ¬ (G1 = (0 : Int32))) :
    own_MF l (⟨"com/example/ianus/ianus/TokenDescribePinLaw", "quoted", "(ICC)Ljava/lang/String;"⟩ : MethodName) (Jvm.Cond.code (⟨"com/example/ianus/ianus/TokenDescribePinLaw", "quoted", "(ICC)Ljava/lang/String;"⟩ : MethodName) method_5_code 3 (some (.object "java/lang/String")) :: ws) ({ frames := 4, cells := 4, slots := 30, locals := 66 } : Room) #[(.int len), (.int x0), (.int x1)] Z h0 (own_QQT Z len x0 x1 G1 h0 n0) := by
  refine MetFree.of_bodySF (plainFor_of_name own_pn1) hisR ?_
  intro p e s m args below meth c s₁ Bd hml0 hP hK
  obtain ⟨rfl, hZ, hh⟩ := hP
  have hx := Bd.exec
  have hby := Bd.bytes
  have hlk : meth.locks = false := BodyLoose.notSynchronized Bd
  have hml : c.maxLocals = 3 := hml0
  have hown : s.vm.findClass "com/example/ianus/ianus/TokenDescribePinLaw" = some m.cls := findClass_of_methodNamed Bd.named
  have hnm := (name_of_methodNamed Bd.named Bd.method).1
  have X0 : Stand p l e ({ frames := 4, cells := 4, slots := 30, locals := 66 } : Room) s m #[(.int len), (.int x0), (.int x1)] below meth c s₁ [] 0 0 := Stand.of_body Bd
  have e0 : s₁.heap = h0 := by rw [← hh, Bd.state]; rfl
  have N0 := Fr.nil n0
  have KP : Keep h0 h0 [] := Keep.refl _ _
  refine own_start (Fin := (own_Fin s (own_QQT Z len x0 x1 G1 h0 n0) ({ frames := 4, cells := 4, slots := 30, locals := 66 } : Room).cells ({ frames := 4, cells := 4, slots := 30, locals := 66 } : Room).slots)) (own_from (mkF m 0 #[iv len, iv x0, iv x1] []) (castTop (own_ef_QT m len x0 x1)) ?_)
  have hwsV : ∀ d ∈ StrChars.Road.words, d.before a0 Z = true := fun d hd => hw d (own_wV d hd)
  rcases hlen with q | q | q
  · subst q
    refine own_iln 1 X0 hx (hb hby own_d181) rfl rfl ?_
    refine own_ifN 4 X0 hx (hb hby own_d182) ((if0 _ _).trans (teq (by decide : (0 : Int32) = (0 : Int32))).2) rfl ?_
    obtain ⟨T64, h64, X64, e64, E64, A64, D64, -, st64⟩ := newO X0 hx hZ hown (own_w hw 8 rfl) (own_w hw 9 rfl) (own_w hw 10 rfl) e0 (g := (mkF m 4 #[iv 0, iv x0, iv x1] [])) rfl (hb hby own_d183) (by decide) (by decide)
    obtain ⟨b64, g64⟩ : ∃ z, z = h0.size := ⟨_, rfl⟩
    rw [← g64] at A64 D64 st64
    have sz_b64 : h0.size ≤ b64 := Nat.le_trans KP.1 (Nat.le_of_eq g64.symm)
    have ge_b64 : n0 ≤ b64 := Nat.le_trans Z0 sz_b64
    have OL := OL.ext E64
    have KP := KP.ext E64
    have E_b64 : Exa Z h64 b64 "java/lang/String" := A64
    have F_value_b64 : Fld Z h64 b64 "java/lang/String" "value" "[B" .null := D64 (Or.inr (own_w hw 24 rfl)) (ty := (.array .byte)) (by decide)
    have F_coder_b64 : Fld Z h64 b64 "java/lang/String" "coder" "B" (.int (0 : Int32)) := D64 (Or.inr (own_w hw 25 rfl)) (ty := .byte) (by decide)
    refine own_to (mkF m 7 #[iv 0, iv x0, iv x1] [(.ref b64)]) st64 ?_
    refine own_dup 8 X64 hx (hb hby own_d184) rfl rfl ?_
    refine own_ic 9 2 X64 hx (hb hby own_d185) rfl rfl ?_
    obtain ⟨T65, h65, k65, X65, e65, E65, A65, B65, st65⟩ := newPE X64 hx hZ (own_w hw 11 rfl) e64 (g := (mkF m 9 #[iv 0, iv x0, iv x1] [(.int (2 : Int32)), (.ref b64), (.ref b64)])) rfl (hb hby own_d186) rfl (by decide) (cap := 2) (by decide) (by decide) (by decide) (by decide) (ad := "[C") (by decide)
    obtain ⟨b65, g65⟩ : ∃ z, z = h64.size := ⟨_, rfl⟩
    rw [← g65] at A65 B65 st65
    have sz_b65 : h0.size ≤ b65 := Nat.le_trans KP.1 (Nat.le_of_eq g65.symm)
    have ge_b65 : n0 ≤ b65 := Nat.le_trans Z0 sz_b65
    have ne_b64_b65 : b64 ≠ b65 := Nat.ne_of_lt (Nat.lt_of_lt_of_le E_b64.lt (Nat.le_of_eq g65.symm))
    have OL := OL.ext E65
    have KP := KP.ext E65
    have E_b64 := E_b64.ext E65
    have F_value_b64 := F_value_b64.ext E65
    have F_coder_b64 := F_coder_b64.ext E65
    have V_b65 : Arv Z h65 b65 k65 .char (2 : Int32) [(.int (0 : Int32)), (.int (0 : Int32))] (.int (0 : Int32)) := (Arv.new A65 (by decide)).pad (pad_rep [] (.int (0 : Int32)) 2)
    refine own_to (mkF m 11 #[iv 0, iv x0, iv x1] [(.ref b65), (.ref b64), (.ref b64)]) st65 ?_
    refine own_dup 12 X65 hx (hb hby own_d187) rfl rfl ?_
    refine own_ic 13 0 X65 hx (hb hby own_d188) rfl rfl ?_
    refine own_bi 15 34 X65 hx (hb hby own_d189) rfl rfl ?_
    obtain ⟨cl66, Ar66, q66, S66, M66, H66, G66⟩ := id V_b65
    obtain ⟨T66, h66, X66, e66, W66, st66⟩ := stC X65 hx hZ e65 Ar66 (j := (0 : Int32)) (inb_of S66 ⟨by decide, by decide⟩) (g := (mkF m 15 #[iv 0, iv x0, iv x1] [(.int (34 : Int32)), (.int (0 : Int32)), (.ref b65), (.ref b65), (.ref b64), (.ref b64)])) rfl rfl (hb hby own_d190)
    refine own_to (mkF m 16 #[iv 0, iv x0, iv x1] [(.ref b65), (.ref b64), (.ref b64)]) st66 ?_
    have N66 := Fr.snoc X66 N0 ge_b65
    have tmp66 : Arv Z h66 b65 k65 .char (2 : Int32) [(.int (34 : Int32)), (.int (0 : Int32))] (.int (0 : Int32)) := Arv.set Ar66 q66 S66 M66 H66 G66 (fits_nar_char _) W66 0 rfl (Nat.le_of_ble_eq_true rfl)
    have OL := OL.wr W66 ge_b65
    have KP := KP.wr W66 (Or.inr sz_b65)
    have E_b64 := E_b64.wr W66
    have F_value_b64 := F_value_b64.other W66 (Or.inl ne_b64_b65)
    have F_coder_b64 := F_coder_b64.other W66 (Or.inl ne_b64_b65)
    have V_b65 := tmp66
    refine own_dup 17 X66 hx (hb hby own_d191) rfl rfl ?_
    refine own_ic 18 1 X66 hx (hb hby own_d192) rfl rfl ?_
    refine own_bi 20 34 X66 hx (hb hby own_d193) rfl rfl ?_
    obtain ⟨cl67, Ar67, q67, S67, M67, H67, G67⟩ := id V_b65
    obtain ⟨T67, h67, X67, e67, W67, st67⟩ := stC X66 hx hZ e66 Ar67 (j := (1 : Int32)) (inb_of S67 ⟨by decide, by decide⟩) (g := (mkF m 20 #[iv 0, iv x0, iv x1] [(.int (34 : Int32)), (.int (1 : Int32)), (.ref b65), (.ref b65), (.ref b64), (.ref b64)])) rfl rfl (hb hby own_d194)
    refine own_to (mkF m 21 #[iv 0, iv x0, iv x1] [(.ref b65), (.ref b64), (.ref b64)]) st67 ?_
    have N67 := Fr.snoc X67 N66 ge_b65
    have tmp67 : Arv Z h67 b65 k65 .char (2 : Int32) [(.int (34 : Int32)), (.int (34 : Int32))] (.int (0 : Int32)) := Arv.set Ar67 q67 S67 M67 H67 G67 (fits_nar_char _) W67 1 rfl (Nat.le_of_ble_eq_true rfl)
    have OL := OL.wr W67 ge_b65
    have KP := KP.wr W67 (Or.inr sz_b65)
    have E_b64 := E_b64.wr W67
    have F_value_b64 := F_value_b64.other W67 (Or.inl ne_b64_b65)
    have F_coder_b64 := F_coder_b64.other W67 (Or.inl ne_b64_b65)
    have V_b65 := tmp67
    have hp68 : ∀ c ∈ ([(34 : Int32), (34 : Int32)] : List Int32), ¬ c < 0 ∧ ¬ (255 : Int32) < c := (own_allS (show own_C8 (34 : Int32) from ⟨by decide, by decide⟩) (own_allS (show own_C8 (34 : Int32) from ⟨by decide, by decide⟩) own_all0))
    have KP0 := KP
    have lt0_b64 := E_b64.lt
    have lt0_b65 := V_b65.lt
    obtain ⟨_, T69, Lc69, X69, hQ69, st69⟩ := own_special X67 hx (y := (⟨"java/lang/String", "<init>", "([C)V"⟩ : MethodName)) rfl hown (mvT hZ (own_w hw 12 rfl)) (mvT hZ (own_w hw 13 rfl)) (mvT hZ (own_w hw 14 rfl)) (by decide) (StrChars.Road.backV (W := 1) hZ hwsV (kI := 4) (own_w hw 9 rfl) (cs := ([(34 : Int32), (34 : Int32)] : List Int32)) (bs := (([(34 : Int32), (34 : Int32)] : List Int32)).map (fun c => c.toInt8.toInt32)) (n := 2) ge_b64 (Nat.le_trans Z0 KP.1) E_b64 F_value_b64 F_coder_b64 V_b65 (O2.ext OL.2) P5 rfl rfl (by decide) (by decide) hp68 rfl (by decide) (by decide)) (g := (mkF m 21 #[iv 0, iv x0, iv x1] [(.ref b65), (.ref b64), (.ref b64)])) rfl (by rw [hml]; rfl) (a := b64) (argsL := [(.ref b65)]) (rest := [(.ref b64)]) (lenOf own_pd1 rfl) rfl (by show 2 * 0 + _ ≤ _; exact Nat.le_of_eq rfl) (hb hby own_d195) rfl e67 (kc := 3) (ks := 8) rfl rfl (by decide) (by decide)
    obtain ⟨rfl, N69q, K69, Ex69, Cx69, t_nm, kb_nm, ge_t_nm, sz0_t_nm, ne_t_nm_b64, Vx69, Kx69⟩ := hQ69
    have N69 := Fr.app N67 N69q
    have OL := OL.keep K69 (allS ge_b64 all0)
    have KP := KP.trans K69 (allS (Or.inr sz_b64) all0)
    have E_b64 := E_b64.keep K69
    have V_b65 := V_b65.keep K69 (ninS (Ne.symm ne_b64_b65) nin0)
    refine own_via (mkF m 24 #[iv 0, iv x0, iv x1] [(.ref b64)]) st69 ?_
    have sz_t_nm : h0.size ≤ t_nm := Nat.le_trans KP0.1 sz0_t_nm
    have ne_b65_t_nm : b65 ≠ t_nm := Nat.ne_of_lt (Nat.lt_of_lt_of_le lt0_b65 sz0_t_nm)
    have S_nm : own_Str Z T69.heap b64 t_nm kb_nm ([(34 : Int32), (34 : Int32)] : List Int32) := ⟨Ex69, Vx69, Cx69, Kx69, hp68, Nat.le_of_ble_eq_true rfl⟩
    exact own_retA X69 hx Bd.returns rfl hlk (hb hby own_d196) rfl (by decide) (by decide) (by exact ⟨b64, t_nm, kb_nm, rfl, N69, KP, by rw [own_qt_0]; exact S_nm⟩)
  · subst q
    refine own_iln 1 X0 hx (hb hby own_d181) rfl rfl ?_
    refine own_ifY 25 X0 hx (hb hby own_d182) ((if0 _ _).trans (feq (by decide : ¬ ((1 : Int32) = (0 : Int32)))).2) (by decide) (by decide) ?_
    refine own_iln 26 X0 hx (hb hby own_d197) rfl rfl ?_
    refine own_ic 27 1 X0 hx (hb hby own_d198) rfl rfl ?_
    refine own_icN 30 X0 hx (hb hby own_d199) (teq (by decide : (1 : Int32) = (1 : Int32))).2 rfl ?_
    obtain ⟨T70, h70, X70, e70, E70, A70, D70, -, st70⟩ := newO X0 hx hZ hown (own_w hw 8 rfl) (own_w hw 9 rfl) (own_w hw 10 rfl) e0 (g := (mkF m 30 #[iv 1, iv x0, iv x1] [])) rfl (hb hby own_d200) (by decide) (by decide)
    obtain ⟨b70, g70⟩ : ∃ z, z = h0.size := ⟨_, rfl⟩
    rw [← g70] at A70 D70 st70
    have sz_b70 : h0.size ≤ b70 := Nat.le_trans KP.1 (Nat.le_of_eq g70.symm)
    have ge_b70 : n0 ≤ b70 := Nat.le_trans Z0 sz_b70
    have OL := OL.ext E70
    have KP := KP.ext E70
    have E_b70 : Exa Z h70 b70 "java/lang/String" := A70
    have F_value_b70 : Fld Z h70 b70 "java/lang/String" "value" "[B" .null := D70 (Or.inr (own_w hw 24 rfl)) (ty := (.array .byte)) (by decide)
    have F_coder_b70 : Fld Z h70 b70 "java/lang/String" "coder" "B" (.int (0 : Int32)) := D70 (Or.inr (own_w hw 25 rfl)) (ty := .byte) (by decide)
    refine own_to (mkF m 33 #[iv 1, iv x0, iv x1] [(.ref b70)]) st70 ?_
    refine own_dup 34 X70 hx (hb hby own_d201) rfl rfl ?_
    refine own_ic 35 3 X70 hx (hb hby own_d202) rfl rfl ?_
    obtain ⟨T71, h71, k71, X71, e71, E71, A71, B71, st71⟩ := newPE X70 hx hZ (own_w hw 11 rfl) e70 (g := (mkF m 35 #[iv 1, iv x0, iv x1] [(.int (3 : Int32)), (.ref b70), (.ref b70)])) rfl (hb hby own_d203) rfl (by decide) (cap := 3) (by decide) (by decide) (by decide) (by decide) (ad := "[C") (by decide)
    obtain ⟨b71, g71⟩ : ∃ z, z = h70.size := ⟨_, rfl⟩
    rw [← g71] at A71 B71 st71
    have sz_b71 : h0.size ≤ b71 := Nat.le_trans KP.1 (Nat.le_of_eq g71.symm)
    have ge_b71 : n0 ≤ b71 := Nat.le_trans Z0 sz_b71
    have ne_b70_b71 : b70 ≠ b71 := Nat.ne_of_lt (Nat.lt_of_lt_of_le E_b70.lt (Nat.le_of_eq g71.symm))
    have OL := OL.ext E71
    have KP := KP.ext E71
    have E_b70 := E_b70.ext E71
    have F_value_b70 := F_value_b70.ext E71
    have F_coder_b70 := F_coder_b70.ext E71
    have V_b71 : Arv Z h71 b71 k71 .char (3 : Int32) [(.int (0 : Int32)), (.int (0 : Int32)), (.int (0 : Int32))] (.int (0 : Int32)) := (Arv.new A71 (by decide)).pad (pad_rep [] (.int (0 : Int32)) 3)
    refine own_to (mkF m 37 #[iv 1, iv x0, iv x1] [(.ref b71), (.ref b70), (.ref b70)]) st71 ?_
    refine own_dup 38 X71 hx (hb hby own_d204) rfl rfl ?_
    refine own_ic 39 0 X71 hx (hb hby own_d205) rfl rfl ?_
    refine own_bi 41 34 X71 hx (hb hby own_d206) rfl rfl ?_
    obtain ⟨cl72, Ar72, q72, S72, M72, H72, G72⟩ := id V_b71
    obtain ⟨T72, h72, X72, e72, W72, st72⟩ := stC X71 hx hZ e71 Ar72 (j := (0 : Int32)) (inb_of S72 ⟨by decide, by decide⟩) (g := (mkF m 41 #[iv 1, iv x0, iv x1] [(.int (34 : Int32)), (.int (0 : Int32)), (.ref b71), (.ref b71), (.ref b70), (.ref b70)])) rfl rfl (hb hby own_d207)
    refine own_to (mkF m 42 #[iv 1, iv x0, iv x1] [(.ref b71), (.ref b70), (.ref b70)]) st72 ?_
    have N72 := Fr.snoc X72 N0 ge_b71
    have tmp72 : Arv Z h72 b71 k71 .char (3 : Int32) [(.int (34 : Int32)), (.int (0 : Int32)), (.int (0 : Int32))] (.int (0 : Int32)) := Arv.set Ar72 q72 S72 M72 H72 G72 (fits_nar_char _) W72 0 rfl (Nat.le_of_ble_eq_true rfl)
    have OL := OL.wr W72 ge_b71
    have KP := KP.wr W72 (Or.inr sz_b71)
    have E_b70 := E_b70.wr W72
    have F_value_b70 := F_value_b70.other W72 (Or.inl ne_b70_b71)
    have F_coder_b70 := F_coder_b70.other W72 (Or.inl ne_b70_b71)
    have V_b71 := tmp72
    refine own_dup 43 X72 hx (hb hby own_d208) rfl rfl ?_
    refine own_ic 44 1 X72 hx (hb hby own_d209) rfl rfl ?_
    refine own_iln 45 X72 hx (hb hby own_d210) rfl rfl ?_
    obtain ⟨cl73, Ar73, q73, S73, M73, H73, G73⟩ := id V_b71
    obtain ⟨T73, h73, X73, e73, W73, st73⟩ := stC X72 hx hZ e72 Ar73 (j := (1 : Int32)) (inb_of S73 ⟨by decide, by decide⟩) (g := (mkF m 45 #[iv 1, iv x0, iv x1] [(.int x0), (.int (1 : Int32)), (.ref b71), (.ref b71), (.ref b70), (.ref b70)])) rfl rfl (hb hby own_d211)
    refine own_to (mkF m 46 #[iv 1, iv x0, iv x1] [(.ref b71), (.ref b70), (.ref b70)]) st73 ?_
    have N73 := Fr.snoc X73 N72 ge_b71
    have tmp73 : Arv Z h73 b71 k71 .char (3 : Int32) [(.int (34 : Int32)), (.int (nar .char x0)), (.int (0 : Int32))] (.int (0 : Int32)) := Arv.set Ar73 q73 S73 M73 H73 G73 (fits_nar_char _) W73 1 rfl (Nat.le_of_ble_eq_true rfl)
    rw [own_nar8 c8_x0] at tmp73
    have OL := OL.wr W73 ge_b71
    have KP := KP.wr W73 (Or.inr sz_b71)
    have E_b70 := E_b70.wr W73
    have F_value_b70 := F_value_b70.other W73 (Or.inl ne_b70_b71)
    have F_coder_b70 := F_coder_b70.other W73 (Or.inl ne_b70_b71)
    have V_b71 := tmp73
    refine own_dup 47 X73 hx (hb hby own_d212) rfl rfl ?_
    refine own_ic 48 2 X73 hx (hb hby own_d213) rfl rfl ?_
    refine own_bi 50 34 X73 hx (hb hby own_d214) rfl rfl ?_
    obtain ⟨cl74, Ar74, q74, S74, M74, H74, G74⟩ := id V_b71
    obtain ⟨T74, h74, X74, e74, W74, st74⟩ := stC X73 hx hZ e73 Ar74 (j := (2 : Int32)) (inb_of S74 ⟨by decide, by decide⟩) (g := (mkF m 50 #[iv 1, iv x0, iv x1] [(.int (34 : Int32)), (.int (2 : Int32)), (.ref b71), (.ref b71), (.ref b70), (.ref b70)])) rfl rfl (hb hby own_d215)
    refine own_to (mkF m 51 #[iv 1, iv x0, iv x1] [(.ref b71), (.ref b70), (.ref b70)]) st74 ?_
    have N74 := Fr.snoc X74 N73 ge_b71
    have tmp74 : Arv Z h74 b71 k71 .char (3 : Int32) [(.int (34 : Int32)), (.int x0), (.int (34 : Int32))] (.int (0 : Int32)) := Arv.set Ar74 q74 S74 M74 H74 G74 (fits_nar_char _) W74 2 rfl (Nat.le_of_ble_eq_true rfl)
    have OL := OL.wr W74 ge_b71
    have KP := KP.wr W74 (Or.inr sz_b71)
    have E_b70 := E_b70.wr W74
    have F_value_b70 := F_value_b70.other W74 (Or.inl ne_b70_b71)
    have F_coder_b70 := F_coder_b70.other W74 (Or.inl ne_b70_b71)
    have V_b71 := tmp74
    have hp75 : ∀ c ∈ ([(34 : Int32), x0, (34 : Int32)] : List Int32), ¬ c < 0 ∧ ¬ (255 : Int32) < c := (own_allS (show own_C8 (34 : Int32) from ⟨by decide, by decide⟩) (own_allS c8_x0 (own_allS (show own_C8 (34 : Int32) from ⟨by decide, by decide⟩) own_all0)))
    have KP0 := KP
    have lt0_b70 := E_b70.lt
    have lt0_b71 := V_b71.lt
    obtain ⟨_, T76, Lc76, X76, hQ76, st76⟩ := own_special X74 hx (y := (⟨"java/lang/String", "<init>", "([C)V"⟩ : MethodName)) rfl hown (mvT hZ (own_w hw 12 rfl)) (mvT hZ (own_w hw 13 rfl)) (mvT hZ (own_w hw 14 rfl)) (by decide) (StrChars.Road.backV (W := 1) hZ hwsV (kI := 4) (own_w hw 9 rfl) (cs := ([(34 : Int32), x0, (34 : Int32)] : List Int32)) (bs := (([(34 : Int32), x0, (34 : Int32)] : List Int32)).map (fun c => c.toInt8.toInt32)) (n := 3) ge_b70 (Nat.le_trans Z0 KP.1) E_b70 F_value_b70 F_coder_b70 V_b71 (O2.ext OL.2) P5 rfl rfl (by decide) (by decide) hp75 rfl (by decide) (by decide)) (g := (mkF m 51 #[iv 1, iv x0, iv x1] [(.ref b71), (.ref b70), (.ref b70)])) rfl (by rw [hml]; rfl) (a := b70) (argsL := [(.ref b71)]) (rest := [(.ref b70)]) (lenOf own_pd1 rfl) rfl (by show 2 * 0 + _ ≤ _; exact Nat.le_of_eq rfl) (hb hby own_d216) rfl e74 (kc := 3) (ks := 10) rfl rfl (by decide) (by decide)
    obtain ⟨rfl, N76q, K76, Ex76, Cx76, t_nm, kb_nm, ge_t_nm, sz0_t_nm, ne_t_nm_b70, Vx76, Kx76⟩ := hQ76
    have N76 := Fr.app N74 N76q
    have OL := OL.keep K76 (allS ge_b70 all0)
    have KP := KP.trans K76 (allS (Or.inr sz_b70) all0)
    have E_b70 := E_b70.keep K76
    have V_b71 := V_b71.keep K76 (ninS (Ne.symm ne_b70_b71) nin0)
    refine own_via (mkF m 54 #[iv 1, iv x0, iv x1] [(.ref b70)]) st76 ?_
    have sz_t_nm : h0.size ≤ t_nm := Nat.le_trans KP0.1 sz0_t_nm
    have ne_b71_t_nm : b71 ≠ t_nm := Nat.ne_of_lt (Nat.lt_of_lt_of_le lt0_b71 sz0_t_nm)
    have S_nm : own_Str Z T76.heap b70 t_nm kb_nm ([(34 : Int32), x0, (34 : Int32)] : List Int32) := ⟨Ex76, Vx76, Cx76, Kx76, hp75, Nat.le_of_ble_eq_true rfl⟩
    exact own_retA X76 hx Bd.returns rfl hlk (hb hby own_d217) rfl (by decide) (by decide) (by exact ⟨b70, t_nm, kb_nm, rfl, N76, KP, by rw [own_qt_1]; exact S_nm⟩)
  · subst q
    refine own_iln 1 X0 hx (hb hby own_d181) rfl rfl ?_
    refine own_ifY 25 X0 hx (hb hby own_d182) ((if0 _ _).trans (feq (by decide : ¬ ((2 : Int32) = (0 : Int32)))).2) (by decide) (by decide) ?_
    refine own_iln 26 X0 hx (hb hby own_d197) rfl rfl ?_
    refine own_ic 27 1 X0 hx (hb hby own_d198) rfl rfl ?_
    refine own_icY 55 X0 hx (hb hby own_d199) (feq (by decide : ¬ ((2 : Int32) = (1 : Int32)))).2 (by decide) (by decide) ?_
    obtain ⟨T77, h77, X77, e77, E77, A77, D77, -, st77⟩ := newO X0 hx hZ hown (own_w hw 8 rfl) (own_w hw 9 rfl) (own_w hw 10 rfl) e0 (g := (mkF m 55 #[iv 2, iv x0, iv x1] [])) rfl (hb hby own_d218) (by decide) (by decide)
    obtain ⟨b77, g77⟩ : ∃ z, z = h0.size := ⟨_, rfl⟩
    rw [← g77] at A77 D77 st77
    have sz_b77 : h0.size ≤ b77 := Nat.le_trans KP.1 (Nat.le_of_eq g77.symm)
    have ge_b77 : n0 ≤ b77 := Nat.le_trans Z0 sz_b77
    have OL := OL.ext E77
    have KP := KP.ext E77
    have E_b77 : Exa Z h77 b77 "java/lang/String" := A77
    have F_value_b77 : Fld Z h77 b77 "java/lang/String" "value" "[B" .null := D77 (Or.inr (own_w hw 24 rfl)) (ty := (.array .byte)) (by decide)
    have F_coder_b77 : Fld Z h77 b77 "java/lang/String" "coder" "B" (.int (0 : Int32)) := D77 (Or.inr (own_w hw 25 rfl)) (ty := .byte) (by decide)
    refine own_to (mkF m 58 #[iv 2, iv x0, iv x1] [(.ref b77)]) st77 ?_
    refine own_dup 59 X77 hx (hb hby own_d219) rfl rfl ?_
    refine own_ic 60 4 X77 hx (hb hby own_d220) rfl rfl ?_
    obtain ⟨T78, h78, k78, X78, e78, E78, A78, B78, st78⟩ := newPE X77 hx hZ (own_w hw 11 rfl) e77 (g := (mkF m 60 #[iv 2, iv x0, iv x1] [(.int (4 : Int32)), (.ref b77), (.ref b77)])) rfl (hb hby own_d221) rfl (by decide) (cap := 4) (by decide) (by decide) (by decide) (by decide) (ad := "[C") (by decide)
    obtain ⟨b78, g78⟩ : ∃ z, z = h77.size := ⟨_, rfl⟩
    rw [← g78] at A78 B78 st78
    have sz_b78 : h0.size ≤ b78 := Nat.le_trans KP.1 (Nat.le_of_eq g78.symm)
    have ge_b78 : n0 ≤ b78 := Nat.le_trans Z0 sz_b78
    have ne_b77_b78 : b77 ≠ b78 := Nat.ne_of_lt (Nat.lt_of_lt_of_le E_b77.lt (Nat.le_of_eq g78.symm))
    have OL := OL.ext E78
    have KP := KP.ext E78
    have E_b77 := E_b77.ext E78
    have F_value_b77 := F_value_b77.ext E78
    have F_coder_b77 := F_coder_b77.ext E78
    have V_b78 : Arv Z h78 b78 k78 .char (4 : Int32) [(.int (0 : Int32)), (.int (0 : Int32)), (.int (0 : Int32)), (.int (0 : Int32))] (.int (0 : Int32)) := (Arv.new A78 (by decide)).pad (pad_rep [] (.int (0 : Int32)) 4)
    refine own_to (mkF m 62 #[iv 2, iv x0, iv x1] [(.ref b78), (.ref b77), (.ref b77)]) st78 ?_
    refine own_dup 63 X78 hx (hb hby own_d222) rfl rfl ?_
    refine own_ic 64 0 X78 hx (hb hby own_d223) rfl rfl ?_
    refine own_bi 66 34 X78 hx (hb hby own_d224) rfl rfl ?_
    obtain ⟨cl79, Ar79, q79, S79, M79, H79, G79⟩ := id V_b78
    obtain ⟨T79, h79, X79, e79, W79, st79⟩ := stC X78 hx hZ e78 Ar79 (j := (0 : Int32)) (inb_of S79 ⟨by decide, by decide⟩) (g := (mkF m 66 #[iv 2, iv x0, iv x1] [(.int (34 : Int32)), (.int (0 : Int32)), (.ref b78), (.ref b78), (.ref b77), (.ref b77)])) rfl rfl (hb hby own_d225)
    refine own_to (mkF m 67 #[iv 2, iv x0, iv x1] [(.ref b78), (.ref b77), (.ref b77)]) st79 ?_
    have N79 := Fr.snoc X79 N0 ge_b78
    have tmp79 : Arv Z h79 b78 k78 .char (4 : Int32) [(.int (34 : Int32)), (.int (0 : Int32)), (.int (0 : Int32)), (.int (0 : Int32))] (.int (0 : Int32)) := Arv.set Ar79 q79 S79 M79 H79 G79 (fits_nar_char _) W79 0 rfl (Nat.le_of_ble_eq_true rfl)
    have OL := OL.wr W79 ge_b78
    have KP := KP.wr W79 (Or.inr sz_b78)
    have E_b77 := E_b77.wr W79
    have F_value_b77 := F_value_b77.other W79 (Or.inl ne_b77_b78)
    have F_coder_b77 := F_coder_b77.other W79 (Or.inl ne_b77_b78)
    have V_b78 := tmp79
    refine own_dup 68 X79 hx (hb hby own_d226) rfl rfl ?_
    refine own_ic 69 1 X79 hx (hb hby own_d227) rfl rfl ?_
    refine own_iln 70 X79 hx (hb hby own_d228) rfl rfl ?_
    obtain ⟨cl80, Ar80, q80, S80, M80, H80, G80⟩ := id V_b78
    obtain ⟨T80, h80, X80, e80, W80, st80⟩ := stC X79 hx hZ e79 Ar80 (j := (1 : Int32)) (inb_of S80 ⟨by decide, by decide⟩) (g := (mkF m 70 #[iv 2, iv x0, iv x1] [(.int x0), (.int (1 : Int32)), (.ref b78), (.ref b78), (.ref b77), (.ref b77)])) rfl rfl (hb hby own_d229)
    refine own_to (mkF m 71 #[iv 2, iv x0, iv x1] [(.ref b78), (.ref b77), (.ref b77)]) st80 ?_
    have N80 := Fr.snoc X80 N79 ge_b78
    have tmp80 : Arv Z h80 b78 k78 .char (4 : Int32) [(.int (34 : Int32)), (.int (nar .char x0)), (.int (0 : Int32)), (.int (0 : Int32))] (.int (0 : Int32)) := Arv.set Ar80 q80 S80 M80 H80 G80 (fits_nar_char _) W80 1 rfl (Nat.le_of_ble_eq_true rfl)
    rw [own_nar8 c8_x0] at tmp80
    have OL := OL.wr W80 ge_b78
    have KP := KP.wr W80 (Or.inr sz_b78)
    have E_b77 := E_b77.wr W80
    have F_value_b77 := F_value_b77.other W80 (Or.inl ne_b77_b78)
    have F_coder_b77 := F_coder_b77.other W80 (Or.inl ne_b77_b78)
    have V_b78 := tmp80
    refine own_dup 72 X80 hx (hb hby own_d230) rfl rfl ?_
    refine own_ic 73 2 X80 hx (hb hby own_d231) rfl rfl ?_
    refine own_iln 74 X80 hx (hb hby own_d232) rfl rfl ?_
    obtain ⟨cl81, Ar81, q81, S81, M81, H81, G81⟩ := id V_b78
    obtain ⟨T81, h81, X81, e81, W81, st81⟩ := stC X80 hx hZ e80 Ar81 (j := (2 : Int32)) (inb_of S81 ⟨by decide, by decide⟩) (g := (mkF m 74 #[iv 2, iv x0, iv x1] [(.int x1), (.int (2 : Int32)), (.ref b78), (.ref b78), (.ref b77), (.ref b77)])) rfl rfl (hb hby own_d233)
    refine own_to (mkF m 75 #[iv 2, iv x0, iv x1] [(.ref b78), (.ref b77), (.ref b77)]) st81 ?_
    have N81 := Fr.snoc X81 N80 ge_b78
    have tmp81 : Arv Z h81 b78 k78 .char (4 : Int32) [(.int (34 : Int32)), (.int x0), (.int (nar .char x1)), (.int (0 : Int32))] (.int (0 : Int32)) := Arv.set Ar81 q81 S81 M81 H81 G81 (fits_nar_char _) W81 2 rfl (Nat.le_of_ble_eq_true rfl)
    rw [own_nar8 c8_x1] at tmp81
    have OL := OL.wr W81 ge_b78
    have KP := KP.wr W81 (Or.inr sz_b78)
    have E_b77 := E_b77.wr W81
    have F_value_b77 := F_value_b77.other W81 (Or.inl ne_b77_b78)
    have F_coder_b77 := F_coder_b77.other W81 (Or.inl ne_b77_b78)
    have V_b78 := tmp81
    refine own_dup 76 X81 hx (hb hby own_d234) rfl rfl ?_
    refine own_ic 77 3 X81 hx (hb hby own_d235) rfl rfl ?_
    refine own_bi 79 34 X81 hx (hb hby own_d236) rfl rfl ?_
    obtain ⟨cl82, Ar82, q82, S82, M82, H82, G82⟩ := id V_b78
    obtain ⟨T82, h82, X82, e82, W82, st82⟩ := stC X81 hx hZ e81 Ar82 (j := (3 : Int32)) (inb_of S82 ⟨by decide, by decide⟩) (g := (mkF m 79 #[iv 2, iv x0, iv x1] [(.int (34 : Int32)), (.int (3 : Int32)), (.ref b78), (.ref b78), (.ref b77), (.ref b77)])) rfl rfl (hb hby own_d237)
    refine own_to (mkF m 80 #[iv 2, iv x0, iv x1] [(.ref b78), (.ref b77), (.ref b77)]) st82 ?_
    have N82 := Fr.snoc X82 N81 ge_b78
    have tmp82 : Arv Z h82 b78 k78 .char (4 : Int32) [(.int (34 : Int32)), (.int x0), (.int x1), (.int (34 : Int32))] (.int (0 : Int32)) := Arv.set Ar82 q82 S82 M82 H82 G82 (fits_nar_char _) W82 3 rfl (Nat.le_of_ble_eq_true rfl)
    have OL := OL.wr W82 ge_b78
    have KP := KP.wr W82 (Or.inr sz_b78)
    have E_b77 := E_b77.wr W82
    have F_value_b77 := F_value_b77.other W82 (Or.inl ne_b77_b78)
    have F_coder_b77 := F_coder_b77.other W82 (Or.inl ne_b77_b78)
    have V_b78 := tmp82
    have hp83 : ∀ c ∈ ([(34 : Int32), x0, x1, (34 : Int32)] : List Int32), ¬ c < 0 ∧ ¬ (255 : Int32) < c := (own_allS (show own_C8 (34 : Int32) from ⟨by decide, by decide⟩) (own_allS c8_x0 (own_allS c8_x1 (own_allS (show own_C8 (34 : Int32) from ⟨by decide, by decide⟩) own_all0))))
    have KP0 := KP
    have lt0_b77 := E_b77.lt
    have lt0_b78 := V_b78.lt
    obtain ⟨_, T84, Lc84, X84, hQ84, st84⟩ := own_special X82 hx (y := (⟨"java/lang/String", "<init>", "([C)V"⟩ : MethodName)) rfl hown (mvT hZ (own_w hw 12 rfl)) (mvT hZ (own_w hw 13 rfl)) (mvT hZ (own_w hw 14 rfl)) (by decide) (StrChars.Road.backV (W := 1) hZ hwsV (kI := 4) (own_w hw 9 rfl) (cs := ([(34 : Int32), x0, x1, (34 : Int32)] : List Int32)) (bs := (([(34 : Int32), x0, x1, (34 : Int32)] : List Int32)).map (fun c => c.toInt8.toInt32)) (n := 4) ge_b77 (Nat.le_trans Z0 KP.1) E_b77 F_value_b77 F_coder_b77 V_b78 (O2.ext OL.2) P5 rfl rfl (by decide) (by decide) hp83 rfl (by decide) (by decide)) (g := (mkF m 80 #[iv 2, iv x0, iv x1] [(.ref b78), (.ref b77), (.ref b77)])) rfl (by rw [hml]; rfl) (a := b77) (argsL := [(.ref b78)]) (rest := [(.ref b77)]) (lenOf own_pd1 rfl) rfl (by show 2 * 0 + _ ≤ _; exact Nat.le_of_eq rfl) (hb hby own_d238) rfl e82 (kc := 3) (ks := 12) rfl rfl (by decide) (by decide)
    obtain ⟨rfl, N84q, K84, Ex84, Cx84, t_nm, kb_nm, ge_t_nm, sz0_t_nm, ne_t_nm_b77, Vx84, Kx84⟩ := hQ84
    have N84 := Fr.app N82 N84q
    have OL := OL.keep K84 (allS ge_b77 all0)
    have KP := KP.trans K84 (allS (Or.inr sz_b77) all0)
    have E_b77 := E_b77.keep K84
    have V_b78 := V_b78.keep K84 (ninS (Ne.symm ne_b77_b78) nin0)
    refine own_via (mkF m 83 #[iv 2, iv x0, iv x1] [(.ref b77)]) st84 ?_
    have sz_t_nm : h0.size ≤ t_nm := Nat.le_trans KP0.1 sz0_t_nm
    have ne_b78_t_nm : b78 ≠ t_nm := Nat.ne_of_lt (Nat.lt_of_lt_of_le lt0_b78 sz0_t_nm)
    have S_nm : own_Str Z T84.heap b77 t_nm kb_nm ([(34 : Int32), x0, x1, (34 : Int32)] : List Int32) := ⟨Ex84, Vx84, Cx84, Kx84, hp83, Nat.le_of_ble_eq_true rfl⟩
    exact own_retA X84 hx Bd.returns rfl hlk (hb hby own_d239) rfl (by decide) (by decide) (by exact ⟨b77, t_nm, kb_nm, rfl, N84, KP, by rw [own_qt_2]; exact S_nm⟩)
def own_QCT (Z : State) (tk ak tx vx : Addr) (ln cl : Int32) (h0 : Heap) (n0 : Nat) (v : Option Value) (h : Heap) (L : List Loc) : Prop := v = none ∧ Fr n0 L ∧ Keep h0 h [tk] ∧ Exa Z h tk "com/example/ianus/ianus/Token" ∧ Fld Z h tk "com/example/ianus/ianus/Token" "kind" "Lcom/example/ianus/ianus/Token$Kind;" (.ref ak) ∧ Fld Z h tk "com/example/ianus/ianus/Token" "text" "Ljava/lang/String;" (.ref tx)
set_option maxRecDepth 65536 in
set_option maxHeartbeats 40000000 in
theorem own_rmCT (l : Launch) (Z : State) (a0 : Array Value) (hw : ∀ d ∈ tables_1, d.before a0 Z = true) (ws : List Jvm.Cond) (tk ak tx vx : Addr) (ln cl : Int32) (h0 : Heap) (n0 : Nat) (Z0 : n0 ≤ h0.size) (OL : Old Z n0 h0) (ge_tk : n0 ≤ tk) (E_tk : Exa Z h0 tk "com/example/ianus/ianus/Token") (F_kind_tk : Fld Z h0 tk "com/example/ianus/ianus/Token" "kind" "Lcom/example/ianus/ianus/Token$Kind;" .null) (F_text_tk : Fld Z h0 tk "com/example/ianus/ianus/Token" "text" "Ljava/lang/String;" .null) (F_value_tk : Fld Z h0 tk "com/example/ianus/ianus/Token" "value" "Ljava/lang/String;" .null) (F_line_tk : Fld Z h0 tk "com/example/ianus/ianus/Token" "line" "I" (.int (0 : Int32))) (F_column_tk : Fld Z h0 tk "com/example/ianus/ianus/Token" "column" "I" (.int (0 : Int32))) :
    own_MF l (⟨"com/example/ianus/ianus/Token", "<init>", "(Lcom/example/ianus/ianus/Token$Kind;Ljava/lang/String;Ljava/lang/String;II)V"⟩ : MethodName) (Jvm.Cond.code (⟨"com/example/ianus/ianus/Token", "<init>", "(Lcom/example/ianus/ianus/Token$Kind;Ljava/lang/String;Ljava/lang/String;II)V"⟩ : MethodName) prog_18_method_1_code 6 none :: ws) ({ frames := 1, cells := 0, slots := 0, locals := 12 } : Room) #[(.ref tk), (.ref ak), (.ref tx), (.ref vx), (.int ln), (.int cl)] Z h0 (own_QCT Z tk ak tx vx ln cl h0 n0) := by
  refine MetFree.of_bodySF (plainFor_of_name own_pn2) hisR ?_
  intro p e s m args below meth c s₁ Bd hml0 hP hK
  obtain ⟨rfl, hZ, hh⟩ := hP
  have hx := Bd.exec
  have hby := Bd.bytes
  have hlk : meth.locks = false := BodyLoose.notSynchronized Bd
  have hml : c.maxLocals = 6 := hml0
  have hown : s.vm.findClass "com/example/ianus/ianus/Token" = some m.cls := findClass_of_methodNamed Bd.named
  have hnm := (name_of_methodNamed Bd.named Bd.method).1
  have X0 : Stand p l e ({ frames := 1, cells := 0, slots := 0, locals := 12 } : Room) s m #[(.ref tk), (.ref ak), (.ref tx), (.ref vx), (.int ln), (.int cl)] below meth c s₁ [] 0 0 := Stand.of_body Bd
  have e0 : s₁.heap = h0 := by rw [← hh, Bd.state]; rfl
  have N0 := Fr.nil n0
  have KP : Keep h0 h0 [tk] := Keep.refl _ _
  refine own_start (Fin := (own_Fin s (own_QCT Z tk ak tx vx ln cl h0 n0) ({ frames := 1, cells := 0, slots := 0, locals := 12 } : Room).cells ({ frames := 1, cells := 0, slots := 0, locals := 12 } : Room).slots)) (own_from (mkF m 0 #[rv tk, rv ak, rv tx, rv vx, iv ln, iv cl] []) (castTop (own_ef_CT m tk ak tx vx ln cl)) ?_)
  refine own_aln 1 X0 hx (hb hby own_d240) rfl rfl rfl ?_
  obtain ⟨T85, X85, e85, st85⟩ := initO X0 hx hZ hown (own_w hw 36 rfl) (own_w hw 20 rfl) (own_w hw 21 rfl) e0 (g := (mkF m 1 #[rv tk, rv ak, rv tx, rv vx, iv ln, iv cl] [(.ref tk)])) rfl (by rw [hml]; rfl) rfl (hb hby own_d241) (by decide) (W := 0) (by show 2 * 0 + _ ≤ _; exact Nat.le_of_eq rfl) (by decide)
  refine own_to (mkF m 4 #[rv tk, rv ak, rv tx, rv vx, iv ln, iv cl] []) st85 ?_
  refine own_aln 5 X85 hx (hb hby own_d242) rfl rfl rfl ?_
  refine own_aln 6 X85 hx (hb hby own_d243) rfl rfl rfl ?_
  obtain ⟨T86, h86, X86, e86, W86, st86⟩ := putF X85 hx hZ hown (host := "") (Or.inl (own_w hw 37 rfl)) Via.refl e85 F_kind_tk E_tk (Or.inr ⟨(own_w hw 38 rfl), rfl, hnm⟩) (own_w hw 31 rfl) (ty := (.object "com/example/ianus/ianus/Token$Kind")) (by decide) rfl rfl (g := (mkF m 6 #[rv tk, rv ak, rv tx, rv vx, iv ln, iv cl] [(.ref ak), (.ref tk)])) rfl rfl (hb hby own_d244)
  refine own_to (mkF m 9 #[rv tk, rv ak, rv tx, rv vx, iv ln, iv cl] []) st86 ?_
  have N86 := Fr.snoc X86 N0 ge_tk
  have tmp86 : Fld Z h86 tk "com/example/ianus/ianus/Token" "kind" "Lcom/example/ianus/ianus/Token$Kind;" (.ref ak) := F_kind_tk.same W86
  have OL := OL.wr W86 ge_tk
  have KP := KP.wr W86 (Or.inl (List.mem_of_getElem? (i := 0) rfl))
  have E_tk := E_tk.wr W86
  have F_text_tk := F_text_tk.other W86 (Or.inr (slot_ne (Or.inr (own_w hw 40 rfl)) (Or.inr (own_w hw 38 rfl)) (by decide) (t := (.object "java/lang/String")) (t' := (.object "com/example/ianus/ianus/Token$Kind")) (by decide) (by decide)))
  have F_value_tk := F_value_tk.other W86 (Or.inr (slot_ne (Or.inr (own_w hw 42 rfl)) (Or.inr (own_w hw 38 rfl)) (by decide) (t := (.object "java/lang/String")) (t' := (.object "com/example/ianus/ianus/Token$Kind")) (by decide) (by decide)))
  have F_line_tk := F_line_tk.other W86 (Or.inr (slot_ne (Or.inr (own_w hw 44 rfl)) (Or.inr (own_w hw 38 rfl)) (by decide) (t := .int) (t' := (.object "com/example/ianus/ianus/Token$Kind")) (by decide) (by decide)))
  have F_column_tk := F_column_tk.other W86 (Or.inr (slot_ne (Or.inr (own_w hw 46 rfl)) (Or.inr (own_w hw 38 rfl)) (by decide) (t := .int) (t' := (.object "com/example/ianus/ianus/Token$Kind")) (by decide) (by decide)))
  have F_kind_tk := tmp86
  refine own_aln 10 X86 hx (hb hby own_d245) rfl rfl rfl ?_
  refine own_aln 11 X86 hx (hb hby own_d246) rfl rfl rfl ?_
  obtain ⟨T87, h87, X87, e87, W87, st87⟩ := putF X86 hx hZ hown (host := "") (Or.inl (own_w hw 39 rfl)) Via.refl e86 F_text_tk E_tk (Or.inr ⟨(own_w hw 40 rfl), rfl, hnm⟩) (own_w hw 31 rfl) (ty := (.object "java/lang/String")) (by decide) rfl rfl (g := (mkF m 11 #[rv tk, rv ak, rv tx, rv vx, iv ln, iv cl] [(.ref tx), (.ref tk)])) rfl rfl (hb hby own_d247)
  refine own_to (mkF m 14 #[rv tk, rv ak, rv tx, rv vx, iv ln, iv cl] []) st87 ?_
  have N87 := Fr.snoc X87 N86 ge_tk
  have tmp87 : Fld Z h87 tk "com/example/ianus/ianus/Token" "text" "Ljava/lang/String;" (.ref tx) := F_text_tk.same W87
  have OL := OL.wr W87 ge_tk
  have KP := KP.wr W87 (Or.inl (List.mem_of_getElem? (i := 0) rfl))
  have E_tk := E_tk.wr W87
  have F_kind_tk := F_kind_tk.other W87 (Or.inr (slot_ne (Or.inr (own_w hw 38 rfl)) (Or.inr (own_w hw 40 rfl)) (by decide) (t := (.object "com/example/ianus/ianus/Token$Kind")) (t' := (.object "java/lang/String")) (by decide) (by decide)))
  have F_value_tk := F_value_tk.other W87 (Or.inr (slot_ne (Or.inr (own_w hw 42 rfl)) (Or.inr (own_w hw 40 rfl)) (by decide) (t := (.object "java/lang/String")) (t' := (.object "java/lang/String")) (by decide) (by decide)))
  have F_line_tk := F_line_tk.other W87 (Or.inr (slot_ne (Or.inr (own_w hw 44 rfl)) (Or.inr (own_w hw 40 rfl)) (by decide) (t := .int) (t' := (.object "java/lang/String")) (by decide) (by decide)))
  have F_column_tk := F_column_tk.other W87 (Or.inr (slot_ne (Or.inr (own_w hw 46 rfl)) (Or.inr (own_w hw 40 rfl)) (by decide) (t := .int) (t' := (.object "java/lang/String")) (by decide) (by decide)))
  have F_text_tk := tmp87
  refine own_aln 15 X87 hx (hb hby own_d248) rfl rfl rfl ?_
  refine own_aln 16 X87 hx (hb hby own_d249) rfl rfl rfl ?_
  obtain ⟨T88, h88, X88, e88, W88, st88⟩ := putF X87 hx hZ hown (host := "") (Or.inl (own_w hw 41 rfl)) Via.refl e87 F_value_tk E_tk (Or.inr ⟨(own_w hw 42 rfl), rfl, hnm⟩) (own_w hw 31 rfl) (ty := (.object "java/lang/String")) (by decide) rfl rfl (g := (mkF m 16 #[rv tk, rv ak, rv tx, rv vx, iv ln, iv cl] [(.ref vx), (.ref tk)])) rfl rfl (hb hby own_d250)
  refine own_to (mkF m 19 #[rv tk, rv ak, rv tx, rv vx, iv ln, iv cl] []) st88 ?_
  have N88 := Fr.snoc X88 N87 ge_tk
  have tmp88 : Fld Z h88 tk "com/example/ianus/ianus/Token" "value" "Ljava/lang/String;" (.ref vx) := F_value_tk.same W88
  have OL := OL.wr W88 ge_tk
  have KP := KP.wr W88 (Or.inl (List.mem_of_getElem? (i := 0) rfl))
  have E_tk := E_tk.wr W88
  have F_kind_tk := F_kind_tk.other W88 (Or.inr (slot_ne (Or.inr (own_w hw 38 rfl)) (Or.inr (own_w hw 42 rfl)) (by decide) (t := (.object "com/example/ianus/ianus/Token$Kind")) (t' := (.object "java/lang/String")) (by decide) (by decide)))
  have F_text_tk := F_text_tk.other W88 (Or.inr (slot_ne (Or.inr (own_w hw 40 rfl)) (Or.inr (own_w hw 42 rfl)) (by decide) (t := (.object "java/lang/String")) (t' := (.object "java/lang/String")) (by decide) (by decide)))
  have F_line_tk := F_line_tk.other W88 (Or.inr (slot_ne (Or.inr (own_w hw 44 rfl)) (Or.inr (own_w hw 42 rfl)) (by decide) (t := .int) (t' := (.object "java/lang/String")) (by decide) (by decide)))
  have F_column_tk := F_column_tk.other W88 (Or.inr (slot_ne (Or.inr (own_w hw 46 rfl)) (Or.inr (own_w hw 42 rfl)) (by decide) (t := .int) (t' := (.object "java/lang/String")) (by decide) (by decide)))
  have F_value_tk := tmp88
  refine own_aln 20 X88 hx (hb hby own_d251) rfl rfl rfl ?_
  refine own_il 22 X88 hx (hb hby own_d252) rfl rfl ?_
  obtain ⟨T89, h89, X89, e89, W89, st89⟩ := putF X88 hx hZ hown (host := "") (Or.inl (own_w hw 43 rfl)) Via.refl e88 F_line_tk E_tk (Or.inr ⟨(own_w hw 44 rfl), rfl, hnm⟩) (own_w hw 31 rfl) (ty := .int) (by decide) rfl rfl (g := (mkF m 22 #[rv tk, rv ak, rv tx, rv vx, iv ln, iv cl] [(.int ln), (.ref tk)])) rfl rfl (hb hby own_d253)
  refine own_to (mkF m 25 #[rv tk, rv ak, rv tx, rv vx, iv ln, iv cl] []) st89 ?_
  have N89 := Fr.snoc X89 N88 ge_tk
  have tmp89 : Fld Z h89 tk "com/example/ianus/ianus/Token" "line" "I" (.int ln) := F_line_tk.same W89
  have OL := OL.wr W89 ge_tk
  have KP := KP.wr W89 (Or.inl (List.mem_of_getElem? (i := 0) rfl))
  have E_tk := E_tk.wr W89
  have F_kind_tk := F_kind_tk.other W89 (Or.inr (slot_ne (Or.inr (own_w hw 38 rfl)) (Or.inr (own_w hw 44 rfl)) (by decide) (t := (.object "com/example/ianus/ianus/Token$Kind")) (t' := .int) (by decide) (by decide)))
  have F_text_tk := F_text_tk.other W89 (Or.inr (slot_ne (Or.inr (own_w hw 40 rfl)) (Or.inr (own_w hw 44 rfl)) (by decide) (t := (.object "java/lang/String")) (t' := .int) (by decide) (by decide)))
  have F_value_tk := F_value_tk.other W89 (Or.inr (slot_ne (Or.inr (own_w hw 42 rfl)) (Or.inr (own_w hw 44 rfl)) (by decide) (t := (.object "java/lang/String")) (t' := .int) (by decide) (by decide)))
  have F_column_tk := F_column_tk.other W89 (Or.inr (slot_ne (Or.inr (own_w hw 46 rfl)) (Or.inr (own_w hw 44 rfl)) (by decide) (t := .int) (t' := .int) (by decide) (by decide)))
  have F_line_tk := tmp89
  refine own_aln 26 X89 hx (hb hby own_d254) rfl rfl rfl ?_
  refine own_il 28 X89 hx (hb hby own_d255) rfl rfl ?_
  obtain ⟨T90, h90, X90, e90, W90, st90⟩ := putF X89 hx hZ hown (host := "") (Or.inl (own_w hw 45 rfl)) Via.refl e89 F_column_tk E_tk (Or.inr ⟨(own_w hw 46 rfl), rfl, hnm⟩) (own_w hw 31 rfl) (ty := .int) (by decide) rfl rfl (g := (mkF m 28 #[rv tk, rv ak, rv tx, rv vx, iv ln, iv cl] [(.int cl), (.ref tk)])) rfl rfl (hb hby own_d256)
  refine own_to (mkF m 31 #[rv tk, rv ak, rv tx, rv vx, iv ln, iv cl] []) st90 ?_
  have N90 := Fr.snoc X90 N89 ge_tk
  have tmp90 : Fld Z h90 tk "com/example/ianus/ianus/Token" "column" "I" (.int cl) := F_column_tk.same W90
  have OL := OL.wr W90 ge_tk
  have KP := KP.wr W90 (Or.inl (List.mem_of_getElem? (i := 0) rfl))
  have E_tk := E_tk.wr W90
  have F_kind_tk := F_kind_tk.other W90 (Or.inr (slot_ne (Or.inr (own_w hw 38 rfl)) (Or.inr (own_w hw 46 rfl)) (by decide) (t := (.object "com/example/ianus/ianus/Token$Kind")) (t' := .int) (by decide) (by decide)))
  have F_text_tk := F_text_tk.other W90 (Or.inr (slot_ne (Or.inr (own_w hw 40 rfl)) (Or.inr (own_w hw 46 rfl)) (by decide) (t := (.object "java/lang/String")) (t' := .int) (by decide) (by decide)))
  have F_value_tk := F_value_tk.other W90 (Or.inr (slot_ne (Or.inr (own_w hw 42 rfl)) (Or.inr (own_w hw 46 rfl)) (by decide) (t := (.object "java/lang/String")) (t' := .int) (by decide) (by decide)))
  have F_line_tk := F_line_tk.other W90 (Or.inr (slot_ne (Or.inr (own_w hw 44 rfl)) (Or.inr (own_w hw 46 rfl)) (by decide) (t := .int) (t' := .int) (by decide) (by decide)))
  have F_column_tk := tmp90
  exact own_ret0 X90 hx Bd.returns hlk (hb hby own_d257) (by decide) (by decide) (by rw [e90]; exact ⟨rfl, N90, KP, E_tk, F_kind_tk, F_text_tk⟩)
def own_QAI (Z : State) (sb : Addr) (G1 : Int32) (h0 : Heap) (n0 : Nat) (v : Option Value) (h : Heap) (L : List Loc) : Prop := v = none ∧ Fr n0 L ∧ Keep h0 h [sb] ∧ ∃ (vb : Addr) (kv : ClassId), n0 ≤ vb ∧ h0.size ≤ vb ∧ Fld Z h sb "java/lang/AbstractStringBuilder" "value" "[B" (.ref vb) ∧ Fld Z h sb "java/lang/AbstractStringBuilder" "coder" "B" (.int (0 : Int32)) ∧ Fld Z h sb "java/lang/AbstractStringBuilder" "count" "I" (.int (0 : Int32)) ∧ Arv Z h vb kv .byte (16 : Int32) [(.int (0 : Int32)), (.int (0 : Int32)), (.int (0 : Int32)), (.int (0 : Int32)), (.int (0 : Int32)), (.int (0 : Int32)), (.int (0 : Int32)), (.int (0 : Int32)), (.int (0 : Int32)), (.int (0 : Int32)), (.int (0 : Int32)), (.int (0 : Int32)), (.int (0 : Int32)), (.int (0 : Int32)), (.int (0 : Int32)), (.int (0 : Int32))] (.int (0 : Int32))
set_option maxRecDepth 65536 in
set_option maxHeartbeats 40000000 in
theorem own_rmAI (l : Launch) (Z : State) (a0 : Array Value) (hw : ∀ d ∈ tables_1, d.before a0 Z = true) (ws : List Jvm.Cond) (sb : Addr) (G1 : Int32) (h0 : Heap) (n0 : Nat) (Z0 : n0 ≤ h0.size) (OL : Old Z n0 h0) (ge_sb : n0 ≤ sb) (E_sb : Exa Z h0 sb "java/lang/StringBuilder") (FV : Fld Z h0 sb "java/lang/AbstractStringBuilder" "value" "[B" .null) (FC : Fld Z h0 sb "java/lang/AbstractStringBuilder" "coder" "B" (.int (0 : Int32))) (FN : Fld Z h0 sb "java/lang/AbstractStringBuilder" "count" "I" (.int (0 : Int32))) (O2 : Sta Z Z.heap "java/lang/String" "COMPACT_STRINGS" "Z" (.int G1)) (P5 : ¬ (G1 = (0 : Int32))) :
    own_MF l (⟨"java/lang/AbstractStringBuilder", "<init>", "(I)V"⟩ : MethodName) (Jvm.Cond.code (⟨"java/lang/AbstractStringBuilder", "<init>", "(I)V"⟩ : MethodName) jdk_68_method_2_code 2 none :: ws) ({ frames := 1, cells := 1, slots := 16, locals := 14 } : Room) #[(.ref sb), (.int (16 : Int32))] Z h0 (own_QAI Z sb G1 h0 n0) := by
  refine MetFree.of_bodySF (plainFor_of_name own_pn3) hisR ?_
  intro p e s m args below meth c s₁ Bd hml0 hP hK
  obtain ⟨rfl, hZ, hh⟩ := hP
  have hx := Bd.exec
  have hby := Bd.bytes
  have hlk : meth.locks = false := BodyLoose.notSynchronized Bd
  have hml : c.maxLocals = 2 := hml0
  have hown : s.vm.findClass "java/lang/AbstractStringBuilder" = some m.cls := findClass_of_methodNamed Bd.named
  have hnm := (name_of_methodNamed Bd.named Bd.method).1
  have X0 : Stand p l e ({ frames := 1, cells := 1, slots := 16, locals := 14 } : Room) s m #[(.ref sb), (.int (16 : Int32))] below meth c s₁ [] 0 0 := Stand.of_body Bd
  have e0 : s₁.heap = h0 := by rw [← hh, Bd.state]; rfl
  have N0 := Fr.nil n0
  have KP : Keep h0 h0 [sb] := Keep.refl _ _
  refine own_start (Fin := (own_Fin s (own_QAI Z sb G1 h0 n0) ({ frames := 1, cells := 1, slots := 16, locals := 14 } : Room).cells ({ frames := 1, cells := 1, slots := 16, locals := 14 } : Room).slots)) (own_from (mkF m 0 #[rv sb, iv 16] []) (castTop (own_ef_AI m sb (16 : Int32))) ?_)
  refine own_aln 1 X0 hx (hb hby own_d258) rfl rfl rfl ?_
  obtain ⟨T91, X91, e91, st91⟩ := initO X0 hx hZ hown (own_w hw 68 rfl) (own_w hw 20 rfl) (own_w hw 21 rfl) e0 (g := (mkF m 1 #[rv sb, iv 16] [(.ref sb)])) rfl (by rw [hml]; rfl) rfl (hb hby own_d259) (by decide) (W := 0) (by show 2 * 0 + _ ≤ _; exact Nat.le_of_eq rfl) (by decide)
  refine own_to (mkF m 4 #[rv sb, iv 16] []) st91 ?_
  obtain ⟨T92, X92, e92, st92⟩ := getS2 X91 hx hZ hown (host := "") (Or.inl (own_w hw 69 rfl)) Via.refl e91 (O2.ext OL.2) (g := (mkF m 4 #[rv sb, iv 16] [])) rfl (hb hby own_d260)
  refine own_to (mkF m 7 #[rv sb, iv 16] [(.int G1)]) st92 ?_
  refine own_ifN 10 X92 hx (hb hby own_d261) ((if0 _ _).trans (feq P5).1) rfl ?_
  refine own_aln 11 X92 hx (hb hby own_d262) rfl rfl rfl ?_
  refine own_iln 12 X92 hx (hb hby own_d263) rfl rfl ?_
  obtain ⟨T93, h93, k93, X93, e93, E93, A93, B93, st93⟩ := newPE X92 hx hZ (own_w hw 23 rfl) e92 (g := (mkF m 12 #[rv sb, iv 16] [(.int (16 : Int32)), (.ref sb)])) rfl (hb hby own_d264) rfl (by decide) (cap := 16) (by decide) (by decide) (by decide) (by decide) (ad := "[B") (by decide)
  obtain ⟨b93, g93⟩ : ∃ z, z = h0.size := ⟨_, rfl⟩
  rw [← g93] at A93 B93 st93
  have sz_b93 : h0.size ≤ b93 := Nat.le_trans KP.1 (Nat.le_of_eq g93.symm)
  have ge_b93 : n0 ≤ b93 := Nat.le_trans Z0 sz_b93
  have ne_sb_b93 : sb ≠ b93 := Nat.ne_of_lt (Nat.lt_of_lt_of_le E_sb.lt (Nat.le_of_eq g93.symm))
  have OL := OL.ext E93
  have KP := KP.ext E93
  have E_sb := E_sb.ext E93
  have FV := FV.ext E93
  have FC := FC.ext E93
  have FN := FN.ext E93
  have V_b93 : Arv Z h93 b93 k93 .byte (16 : Int32) [(.int (0 : Int32)), (.int (0 : Int32)), (.int (0 : Int32)), (.int (0 : Int32)), (.int (0 : Int32)), (.int (0 : Int32)), (.int (0 : Int32)), (.int (0 : Int32)), (.int (0 : Int32)), (.int (0 : Int32)), (.int (0 : Int32)), (.int (0 : Int32)), (.int (0 : Int32)), (.int (0 : Int32)), (.int (0 : Int32)), (.int (0 : Int32))] (.int (0 : Int32)) := (Arv.new A93 (by decide)).pad (pad_rep [] (.int (0 : Int32)) 16)
  refine own_to (mkF m 14 #[rv sb, iv 16] [(.ref b93), (.ref sb)]) st93 ?_
  obtain ⟨T94, h94, X94, e94, W94, st94⟩ := putF X93 hx hZ hown (host := "") (Or.inl (own_w hw 70 rfl)) Via.refl e93 FV E_sb (Or.inl (own_w hw 71 rfl)) (own_w hw 57 rfl) (ty := (.array .byte)) (by decide) rfl rfl (g := (mkF m 14 #[rv sb, iv 16] [(.ref b93), (.ref sb)])) rfl rfl (hb hby own_d265)
  refine own_to (mkF m 17 #[rv sb, iv 16] []) st94 ?_
  have N94 := Fr.snoc X94 N0 ge_sb
  have tmp94 : Fld Z h94 sb "java/lang/AbstractStringBuilder" "value" "[B" (.ref b93) := FV.same W94
  have OL := OL.wr W94 ge_sb
  have KP := KP.wr W94 (Or.inl (List.mem_of_getElem? (i := 0) rfl))
  have E_sb := E_sb.wr W94
  have FC := FC.other W94 (Or.inr (slot_ne (Or.inl (own_w hw 73 rfl)) (Or.inl (own_w hw 71 rfl)) (by decide) (t := .byte) (t' := (.array .byte)) (by decide) (by decide)))
  have FN := FN.other W94 (Or.inr (slot_ne (Or.inl (own_w hw 85 rfl)) (Or.inl (own_w hw 71 rfl)) (by decide) (t := .int) (t' := (.array .byte)) (by decide) (by decide)))
  have V_b93 := V_b93.other W94 (Ne.symm ne_sb_b93)
  have FV := tmp94
  refine own_aln 18 X94 hx (hb hby own_d266) rfl rfl rfl ?_
  refine own_ic 19 0 X94 hx (hb hby own_d267) rfl rfl ?_
  obtain ⟨T95, h95, X95, e95, W95, st95⟩ := putFN X94 hx hZ hown (own_w hw 72 rfl) Via.refl e94 FC E_sb (Or.inl (own_w hw 73 rfl)) (own_w hw 57 rfl) (ty := .byte) (v' := (.int (0 : Int32))) (by decide) rfl rfl (g := (mkF m 19 #[rv sb, iv 16] [(.int (0 : Int32)), (.ref sb)])) rfl rfl (hb hby own_d268)
  refine own_to (mkF m 22 #[rv sb, iv 16] []) st95 ?_
  have N95 := Fr.snoc X95 N94 ge_sb
  have tmp95 : Fld Z h95 sb "java/lang/AbstractStringBuilder" "coder" "B" (.int (0 : Int32)) := FC.same W95
  have OL := OL.wr W95 ge_sb
  have KP := KP.wr W95 (Or.inl (List.mem_of_getElem? (i := 0) rfl))
  have E_sb := E_sb.wr W95
  have FV := FV.other W95 (Or.inr (slot_ne (Or.inl (own_w hw 71 rfl)) (Or.inl (own_w hw 73 rfl)) (by decide) (t := (.array .byte)) (t' := .byte) (by decide) (by decide)))
  have FN := FN.other W95 (Or.inr (slot_ne (Or.inl (own_w hw 85 rfl)) (Or.inl (own_w hw 73 rfl)) (by decide) (t := .int) (t' := .byte) (by decide) (by decide)))
  have V_b93 := V_b93.other W95 (Ne.symm ne_sb_b93)
  have FC := tmp95
  refine own_go 38 X95 hx (hb hby own_d269) (by decide) (by decide) ?_
  exact own_ret0 X95 hx Bd.returns hlk (hb hby own_d270) (by decide) (by decide) (by rw [e95]; exact ⟨rfl, N95, KP, b93, k93, ge_b93, sz_b93, FV, FC, FN, V_b93⟩)
def own_QSI (Z : State) (sb : Addr) (G1 : Int32) (h0 : Heap) (n0 : Nat) (v : Option Value) (h : Heap) (L : List Loc) : Prop := v = none ∧ Fr n0 L ∧ Keep h0 h [sb] ∧ ∃ (vb : Addr) (kv : ClassId), n0 ≤ vb ∧ h0.size ≤ vb ∧ Fld Z h sb "java/lang/AbstractStringBuilder" "value" "[B" (.ref vb) ∧ Fld Z h sb "java/lang/AbstractStringBuilder" "coder" "B" (.int (0 : Int32)) ∧ Fld Z h sb "java/lang/AbstractStringBuilder" "count" "I" (.int (0 : Int32)) ∧ Arv Z h vb kv .byte (16 : Int32) [(.int (0 : Int32)), (.int (0 : Int32)), (.int (0 : Int32)), (.int (0 : Int32)), (.int (0 : Int32)), (.int (0 : Int32)), (.int (0 : Int32)), (.int (0 : Int32)), (.int (0 : Int32)), (.int (0 : Int32)), (.int (0 : Int32)), (.int (0 : Int32)), (.int (0 : Int32)), (.int (0 : Int32)), (.int (0 : Int32)), (.int (0 : Int32))] (.int (0 : Int32))
set_option maxRecDepth 65536 in
set_option maxHeartbeats 40000000 in
theorem own_rmSI (l : Launch) (Z : State) (a0 : Array Value) (hw : ∀ d ∈ tables_1, d.before a0 Z = true) (ws : List Jvm.Cond) (sb : Addr) (G1 : Int32) (h0 : Heap) (n0 : Nat) (Z0 : n0 ≤ h0.size) (OL : Old Z n0 h0) (ge_sb : n0 ≤ sb) (E_sb : Exa Z h0 sb "java/lang/StringBuilder") (FV : Fld Z h0 sb "java/lang/AbstractStringBuilder" "value" "[B" .null) (FC : Fld Z h0 sb "java/lang/AbstractStringBuilder" "coder" "B" (.int (0 : Int32))) (FN : Fld Z h0 sb "java/lang/AbstractStringBuilder" "count" "I" (.int (0 : Int32))) (O2 : Sta Z Z.heap "java/lang/String" "COMPACT_STRINGS" "Z" (.int G1)) (P5 : ¬ (G1 = (0 : Int32))) :
    own_MF l (⟨"java/lang/StringBuilder", "<init>", "()V"⟩ : MethodName) (Jvm.Cond.code (⟨"java/lang/StringBuilder", "<init>", "()V"⟩ : MethodName) jdk_67_method_1_code 1 none :: ws) ({ frames := 2, cells := 1, slots := 16, locals := 30 } : Room) #[(.ref sb)] Z h0 (own_QSI Z sb G1 h0 n0) := by
  refine MetFree.of_bodySF (plainFor_of_name own_pn4) hisR ?_
  intro p e s m args below meth c s₁ Bd hml0 hP hK
  obtain ⟨rfl, hZ, hh⟩ := hP
  have hx := Bd.exec
  have hby := Bd.bytes
  have hlk : meth.locks = false := BodyLoose.notSynchronized Bd
  have hml : c.maxLocals = 1 := hml0
  have hown : s.vm.findClass "java/lang/StringBuilder" = some m.cls := findClass_of_methodNamed Bd.named
  have hnm := (name_of_methodNamed Bd.named Bd.method).1
  have X0 : Stand p l e ({ frames := 2, cells := 1, slots := 16, locals := 30 } : Room) s m #[(.ref sb)] below meth c s₁ [] 0 0 := Stand.of_body Bd
  have e0 : s₁.heap = h0 := by rw [← hh, Bd.state]; rfl
  have N0 := Fr.nil n0
  have KP : Keep h0 h0 [sb] := Keep.refl _ _
  refine own_start (Fin := (own_Fin s (own_QSI Z sb G1 h0 n0) ({ frames := 2, cells := 1, slots := 16, locals := 30 } : Room).cells ({ frames := 2, cells := 1, slots := 16, locals := 30 } : Room).slots)) (own_from (mkF m 0 #[rv sb] []) (castTop (own_ef_SI m sb)) ?_)
  refine own_aln 1 X0 hx (hb hby own_d271) rfl rfl rfl ?_
  refine own_bi 3 16 X0 hx (hb hby own_d272) rfl rfl ?_
  obtain ⟨_, T96, Lc96, X96, hQ96, st96⟩ := own_special X0 hx (y := (⟨"java/lang/AbstractStringBuilder", "<init>", "(I)V"⟩ : MethodName)) rfl hown (mvT hZ (own_w hw 62 rfl)) (mvT hZ (own_w hw 63 rfl)) (mvT hZ (own_w hw 67 rfl)) (by decide) (backOf (W := 0) (own_rmAI l Z a0 hw [] sb G1 h0 n0 (Nat.le_trans Z0 KP.1) OL ge_sb E_sb FV FC FN O2 P5) hZ (own_w hw 67 rfl) (own_w hw 66 rfl) (by decide) (by decide)) (g := (mkF m 3 #[rv sb] [(.int (16 : Int32)), (.ref sb)])) rfl (by rw [hml]; rfl) (a := sb) (argsL := [(.int (16 : Int32))]) (rest := []) (lenOf own_pd2 rfl) rfl (by show 2 * 0 + _ ≤ _; exact Nat.le_of_eq rfl) (hb hby own_d273) rfl e0 (kc := 1) (ks := 16) rfl rfl (by decide) (by decide)
  obtain ⟨rfl, N96q, K96, hrest96⟩ := hQ96
  have N96 := Fr.app N0 N96q
  have OL := OL.keep K96 (allS ge_sb all0)
  have KP := KP.trans K96 (allS (Or.inl (List.mem_of_getElem? (i := 0) rfl)) all0)
  have E_sb := E_sb.keep K96
  refine own_via (mkF m 6 #[rv sb] []) st96 ?_
  exact own_ret0 X96 hx Bd.returns hlk (hb hby own_d274) (by decide) (by decide) (by exact ⟨rfl, N96, KP, hrest96⟩)
def own_QEC (Z : State) (sb vb : Addr) (kv : ClassId) (us : List Value) (mc : Int32) (h0 : Heap) (n0 : Nat) (v : Option Value) (h : Heap) (L : List Loc) : Prop := v = none ∧ Fr n0 L ∧ h = h0
set_option maxRecDepth 65536 in
set_option maxHeartbeats 40000000 in
theorem own_rmEC (l : Launch) (Z : State) (a0 : Array Value) (hw : ∀ d ∈ tables_1, d.before a0 Z = true) (ws : List Jvm.Cond) (sb vb : Addr) (kv : ClassId) (us : List Value) (mc : Int32) (h0 : Heap) (n0 : Nat) (Z0 : n0 ≤ h0.size) (OL : Old Z n0 h0) (E_sb : Exa Z h0 sb "java/lang/StringBuilder") (FV : Fld Z h0 sb "java/lang/AbstractStringBuilder" "value" "[B" (.ref vb)) (FC : Fld Z h0 sb "java/lang/AbstractStringBuilder" "coder" "B" (.int (0 : Int32))) (Vb : Arv Z h0 vb kv .byte (16 : Int32) us (.int (0 : Int32))) (hmc : ¬ ((0 : Int32) < (mc - (16 : Int32)))) :
    own_MF l (⟨"java/lang/AbstractStringBuilder", "ensureCapacityInternal", "(I)V"⟩ : MethodName) (Jvm.Cond.code (⟨"java/lang/AbstractStringBuilder", "ensureCapacityInternal", "(I)V"⟩ : MethodName) jdk_68_method_9_code 3 none :: ws) ({ frames := 0, cells := 0, slots := 0, locals := 0 } : Room) #[(.ref sb), (.int mc)] Z h0 (own_QEC Z sb vb kv us mc h0 n0) := by
  refine MetFree.of_bodySF (plainFor_of_name own_pn3) hisR ?_
  intro p e s m args below meth c s₁ Bd hml0 hP hK
  obtain ⟨rfl, hZ, hh⟩ := hP
  have hx := Bd.exec
  have hby := Bd.bytes
  have hlk : meth.locks = false := BodyLoose.notSynchronized Bd
  have hml : c.maxLocals = 3 := hml0
  have hown : s.vm.findClass "java/lang/AbstractStringBuilder" = some m.cls := findClass_of_methodNamed Bd.named
  have hnm := (name_of_methodNamed Bd.named Bd.method).1
  have X0 : Stand p l e ({ frames := 0, cells := 0, slots := 0, locals := 0 } : Room) s m #[(.ref sb), (.int mc)] below meth c s₁ [] 0 0 := Stand.of_body Bd
  have e0 : s₁.heap = h0 := by rw [← hh, Bd.state]; rfl
  have N0 := Fr.nil n0
  have KP : Keep h0 h0 [] := Keep.refl _ _
  refine own_start (Fin := (own_Fin s (own_QEC Z sb vb kv us mc h0 n0) ({ frames := 0, cells := 0, slots := 0, locals := 0 } : Room).cells ({ frames := 0, cells := 0, slots := 0, locals := 0 } : Room).slots)) (own_from (mkF m 0 #[rv sb, iv mc, .unset] []) (castTop (own_ef_EC m sb mc)) ?_)
  refine own_aln 1 X0 hx (hb hby own_d275) rfl rfl rfl ?_
  obtain ⟨T97, X97, e97, st97⟩ := getF X0 hx hZ hown (host := "") (Or.inl (own_w hw 70 rfl)) Via.refl e0 FV (g := (mkF m 1 #[rv sb, iv mc, .unset] [(.ref sb)])) rfl rfl (hb hby own_d276)
  refine own_to (mkF m 4 #[rv sb, iv mc, .unset] [(.ref vb)]) st97 ?_
  obtain ⟨cl98, Ar98, -, S98, M98, -, -⟩ := id Vb
  refine own_to (mkF m 5 #[rv sb, iv mc, .unset] [(.int (16 : Int32))]) (by have q := X97.arraylength hx (by rw [e97]; exact Ar98.1) (State.isArrayOf_alike hZ.alike Ar98.2.1) (g := (mkF m 4 #[rv sb, iv mc, .unset] [(.ref vb)])) rfl rfl (hb hby own_d277); rw [len_of S98 M98] at q; exact q) ?_
  refine own_aln 6 X97 hx (hb hby own_d278) rfl rfl rfl ?_
  obtain ⟨T99, X99, e99, st99⟩ := getF X97 hx hZ hown (host := "") (Or.inl (own_w hw 72 rfl)) Via.refl e97 FC (g := (mkF m 6 #[rv sb, iv mc, .unset] [(.ref sb), (.int (16 : Int32))])) rfl rfl (hb hby own_d279)
  refine own_to (mkF m 9 #[rv sb, iv mc, .unset] [(.int (0 : Int32)), (.int (16 : Int32))]) st99 ?_
  refine own_ishr 10 X99 hx (hb hby own_d280) (z := (16 : Int32)) rfl rfl ?_
  refine own_isn 11 #[rv sb, iv mc, iv 16] X99 hx (hb hby own_d281) rfl rfl ?_
  refine own_iln 12 X99 hx (hb hby own_d282) rfl rfl ?_
  refine own_iln 13 X99 hx (hb hby own_d283) rfl rfl ?_
  refine own_isub 14 X99 hx (hb hby own_d284) rfl rfl ?_
  refine own_ifY 38 X99 hx (hb hby own_d285) ((if0 _ _).trans (flt hmc).2.2.2) (by decide) (by decide) ?_
  exact own_ret0 X99 hx Bd.returns hlk (hb hby own_d286) (by decide) (by decide) (by rw [e99]; exact ⟨rfl, N0, rfl⟩)
def own_QA1 (Z : State) (G1 : Int32) (sb : Addr) (h0 : Heap) (n0 : Nat) (v : Option Value) (h : Heap) (L : List Loc) : Prop := v = some (.int 1) ∧ Fr n0 L ∧ h = h0
set_option maxRecDepth 65536 in
set_option maxHeartbeats 40000000 in
theorem own_rmA1 (l : Launch) (Z : State) (a0 : Array Value) (hw : ∀ d ∈ tables_1, d.before a0 Z = true) (ws : List Jvm.Cond) (G1 : Int32) (sb : Addr) (h0 : Heap) (n0 : Nat) (Z0 : n0 ≤ h0.size) (OL : Old Z n0 h0) (FC : Fld Z h0 sb "java/lang/AbstractStringBuilder" "coder" "B" (.int (0 : Int32))) (O2 : Sta Z Z.heap "java/lang/String" "COMPACT_STRINGS" "Z" (.int G1)) (P5 : ¬ (G1 = (0 : Int32))) :
    own_MF l (⟨"java/lang/AbstractStringBuilder", "isLatin1", "()Z"⟩ : MethodName) (Jvm.Cond.code (⟨"java/lang/AbstractStringBuilder", "isLatin1", "()Z"⟩ : MethodName) jdk_68_method_68_code 1 (some .boolean) :: ws) ({ frames := 0, cells := 0, slots := 0, locals := 0 } : Room) #[(.ref sb)] Z h0 (own_QA1 Z G1 sb h0 n0) := by
  refine MetFree.of_bodySF (plainFor_of_name own_pn3) hisR ?_
  intro p e s m args below meth c s₁ Bd hml0 hP hK
  obtain ⟨rfl, hZ, hh⟩ := hP
  have hx := Bd.exec
  have hby := Bd.bytes
  have hlk : meth.locks = false := BodyLoose.notSynchronized Bd
  have hml : c.maxLocals = 1 := hml0
  have hown : s.vm.findClass "java/lang/AbstractStringBuilder" = some m.cls := findClass_of_methodNamed Bd.named
  have hnm := (name_of_methodNamed Bd.named Bd.method).1
  have X0 : Stand p l e ({ frames := 0, cells := 0, slots := 0, locals := 0 } : Room) s m #[(.ref sb)] below meth c s₁ [] 0 0 := Stand.of_body Bd
  have e0 : s₁.heap = h0 := by rw [← hh, Bd.state]; rfl
  have N0 := Fr.nil n0
  have KP : Keep h0 h0 [] := Keep.refl _ _
  refine own_start (Fin := (own_Fin s (own_QA1 Z G1 sb h0 n0) ({ frames := 0, cells := 0, slots := 0, locals := 0 } : Room).cells ({ frames := 0, cells := 0, slots := 0, locals := 0 } : Room).slots)) (own_from (mkF m 0 #[rv sb] []) (castTop (own_ef_A1 m sb)) ?_)
  obtain ⟨T100, X100, e100, st100⟩ := getS2 X0 hx hZ hown (host := "") (Or.inl (own_w hw 69 rfl)) Via.refl e0 (O2.ext OL.2) (g := (mkF m 0 #[rv sb] [])) rfl (hb hby own_d287)
  refine own_to (mkF m 3 #[rv sb] [(.int G1)]) st100 ?_
  refine own_ifN 6 X100 hx (hb hby own_d288) ((if0 _ _).trans (feq P5).1) rfl ?_
  refine own_aln 7 X100 hx (hb hby own_d289) rfl rfl rfl ?_
  obtain ⟨T101, X101, e101, st101⟩ := getF X100 hx hZ hown (host := "") (Or.inl (own_w hw 72 rfl)) Via.refl e100 FC (g := (mkF m 7 #[rv sb] [(.ref sb)])) rfl rfl (hb hby own_d290)
  refine own_to (mkF m 10 #[rv sb] [(.int (0 : Int32))]) st101 ?_
  refine own_ifN 13 X101 hx (hb hby own_d291) ((if0 _ _).trans (teq (by decide : (0 : Int32) = (0 : Int32))).2) rfl ?_
  refine own_ic 14 1 X101 hx (hb hby own_d292) rfl rfl ?_
  refine own_go 18 X101 hx (hb hby own_d293) (by decide) (by decide) ?_
  exact own_retN X101 hx (t := .boolean) Bd.returns (by simp) hlk (hb hby own_d294) (by decide) (by decide) (by rw [e101]; exact ⟨rfl, N0, rfl⟩)
def own_QCE (Z : State)  (h0 : Heap) (n0 : Nat) (v : Option Value) (h : Heap) (L : List Loc) : Prop := v = some (.int 1) ∧ Fr n0 L ∧ h = h0
set_option maxRecDepth 65536 in
set_option maxHeartbeats 40000000 in
theorem own_rmCE (l : Launch) (Z : State) (a0 : Array Value) (hw : ∀ d ∈ tables_1, d.before a0 Z = true) (ws : List Jvm.Cond)  (h0 : Heap) (n0 : Nat) (Z0 : n0 ≤ h0.size) (OL : Old Z n0 h0)  :
    own_MF l (⟨"java/lang/StringLatin1", "canEncode", "(C)Z"⟩ : MethodName) (Jvm.Cond.code (⟨"java/lang/StringLatin1", "canEncode", "(C)Z"⟩ : MethodName) jdk_43_method_3_code 1 (some .boolean) :: ws) ({ frames := 0, cells := 0, slots := 0, locals := 0 } : Room) #[(.int (34 : Int32))] Z h0 (own_QCE Z  h0 n0) := by
  refine MetFree.of_bodySF (plainFor_of_name own_pn5) hisR ?_
  intro p e s m args below meth c s₁ Bd hml0 hP hK
  obtain ⟨rfl, hZ, hh⟩ := hP
  have hx := Bd.exec
  have hby := Bd.bytes
  have hlk : meth.locks = false := BodyLoose.notSynchronized Bd
  have hml : c.maxLocals = 1 := hml0
  have hown : s.vm.findClass "java/lang/StringLatin1" = some m.cls := findClass_of_methodNamed Bd.named
  have hnm := (name_of_methodNamed Bd.named Bd.method).1
  have X0 : Stand p l e ({ frames := 0, cells := 0, slots := 0, locals := 0 } : Room) s m #[(.int (34 : Int32))] below meth c s₁ [] 0 0 := Stand.of_body Bd
  have e0 : s₁.heap = h0 := by rw [← hh, Bd.state]; rfl
  have N0 := Fr.nil n0
  have KP : Keep h0 h0 [] := Keep.refl _ _
  refine own_start (Fin := (own_Fin s (own_QCE Z  h0 n0) ({ frames := 0, cells := 0, slots := 0, locals := 0 } : Room).cells ({ frames := 0, cells := 0, slots := 0, locals := 0 } : Room).slots)) (own_from (mkF m 0 #[iv 34] []) (castTop (own_ef_CE m (34 : Int32))) ?_)
  refine own_iln 1 X0 hx (hb hby own_d295) rfl rfl ?_
  refine own_si 4 255 X0 hx (hb hby own_d296) rfl rfl ?_
  refine own_icN 7 X0 hx (hb hby own_d297) (flt (by decide : ¬ ((255 : Int32) < (34 : Int32)))).2.2.1 rfl ?_
  refine own_ic 8 1 X0 hx (hb hby own_d298) rfl rfl ?_
  refine own_go 12 X0 hx (hb hby own_d299) (by decide) (by decide) ?_
  exact own_retN X0 hx (t := .boolean) Bd.returns (by simp) hlk (hb hby own_d300) (by decide) (by decide) (by rw [e0]; exact ⟨rfl, N0, rfl⟩)
def own_QIF (Z : State) (G1 : Int32) (sb sx : Addr) (h0 : Heap) (n0 : Nat) (v : Option Value) (h : Heap) (L : List Loc) : Prop := v = none ∧ Fr n0 L ∧ h = h0
set_option maxRecDepth 65536 in
set_option maxHeartbeats 40000000 in
theorem own_rmIF (l : Launch) (Z : State) (a0 : Array Value) (hw : ∀ d ∈ tables_1, d.before a0 Z = true) (ws : List Jvm.Cond) (G1 : Int32) (sb sx : Addr) (h0 : Heap) (n0 : Nat) (Z0 : n0 ≤ h0.size) (OL : Old Z n0 h0) (FC : Fld Z h0 sb "java/lang/AbstractStringBuilder" "coder" "B" (.int (0 : Int32))) (E_sx : Exa Z h0 sx "java/lang/String") (Fc : Fld Z h0 sx "java/lang/String" "coder" "B" (.int (0 : Int32))) (O2 : Sta Z Z.heap "java/lang/String" "COMPACT_STRINGS" "Z" (.int G1)) (P5 : ¬ (G1 = (0 : Int32))) :
    own_MF l (⟨"java/lang/AbstractStringBuilder", "inflateIfNeededFor", "(Ljava/lang/String;)V"⟩ : MethodName) (Jvm.Cond.code (⟨"java/lang/AbstractStringBuilder", "inflateIfNeededFor", "(Ljava/lang/String;)V"⟩ : MethodName) jdk_68_method_71_code 2 none :: ws) ({ frames := 1, cells := 0, slots := 0, locals := 16 } : Room) #[(.ref sb), (.ref sx)] Z h0 (own_QIF Z G1 sb sx h0 n0) := by
  refine MetFree.of_bodySF (plainFor_of_name own_pn3) hisR ?_
  intro p e s m args below meth c s₁ Bd hml0 hP hK
  obtain ⟨rfl, hZ, hh⟩ := hP
  have hx := Bd.exec
  have hby := Bd.bytes
  have hlk : meth.locks = false := BodyLoose.notSynchronized Bd
  have hml : c.maxLocals = 2 := hml0
  have hown : s.vm.findClass "java/lang/AbstractStringBuilder" = some m.cls := findClass_of_methodNamed Bd.named
  have hnm := (name_of_methodNamed Bd.named Bd.method).1
  have X0 : Stand p l e ({ frames := 1, cells := 0, slots := 0, locals := 16 } : Room) s m #[(.ref sb), (.ref sx)] below meth c s₁ [] 0 0 := Stand.of_body Bd
  have e0 : s₁.heap = h0 := by rw [← hh, Bd.state]; rfl
  have N0 := Fr.nil n0
  have KP : Keep h0 h0 [] := Keep.refl _ _
  refine own_start (Fin := (own_Fin s (own_QIF Z G1 sb sx h0 n0) ({ frames := 1, cells := 0, slots := 0, locals := 16 } : Room).cells ({ frames := 1, cells := 0, slots := 0, locals := 16 } : Room).slots)) (own_from (mkF m 0 #[rv sb, rv sx] []) (castTop (own_ef_IF m sb sx)) ?_)
  obtain ⟨T102, X102, e102, st102⟩ := getS2 X0 hx hZ hown (host := "") (Or.inl (own_w hw 69 rfl)) Via.refl e0 (O2.ext OL.2) (g := (mkF m 0 #[rv sb, rv sx] [])) rfl (hb hby own_d301)
  refine own_to (mkF m 3 #[rv sb, rv sx] [(.int G1)]) st102 ?_
  refine own_ifN 6 X102 hx (hb hby own_d302) ((if0 _ _).trans (feq P5).1) rfl ?_
  refine own_aln 7 X102 hx (hb hby own_d303) rfl rfl rfl ?_
  obtain ⟨T103, X103, e103, st103⟩ := getF X102 hx hZ hown (host := "") (Or.inl (own_w hw 72 rfl)) Via.refl e102 FC (g := (mkF m 7 #[rv sb, rv sx] [(.ref sb)])) rfl rfl (hb hby own_d304)
  refine own_to (mkF m 10 #[rv sb, rv sx] [(.int (0 : Int32))]) st103 ?_
  refine own_aln 11 X103 hx (hb hby own_d305) rfl rfl rfl ?_
  obtain ⟨cq104, kq104, q104a, q104b, q104c⟩ := isOf hZ e103 E_sx
  obtain ⟨_, T104, Lc104, X104, hQ104, st104⟩ := own_virtual X103 hx (y := (⟨"java/lang/String", "coder", "()B"⟩ : MethodName)) (z := (⟨"java/lang/String", "coder", "()B"⟩ : MethodName)) hown (mvT hZ (own_w hw 130 rfl)) (mvT hZ (own_w hw 115 rfl)) (notFace_of_selects (args := #[]) (mvT hZ (own_w hw 117 rfl))) (mvT hZ (own_w hw 117 rfl)) (mvT hZ (own_w hw 116 rfl)) (by decide) (backOf (W := 1) (own_rmCD_0 l Z a0 hw [] G1 sx h0 n0 (Nat.le_trans Z0 KP.1) OL Fc O2 P5) hZ (own_w hw 118 rfl) (own_w hw 10 rfl) (by decide) (by decide)) q104a q104c (g := (mkF m 11 #[rv sb, rv sx] [(.ref sx), (.int (0 : Int32))])) rfl (by rw [hml]; rfl) (argsL := []) (rest := [(.int (0 : Int32))]) (lenOf own_pd3 rfl) rfl (by show 2 * 0 + _ ≤ _; exact Nat.le_of_eq rfl) (hb hby own_d306) rfl e103 (kc := 0) (ks := 0) rfl rfl (by decide) (by decide)
  obtain ⟨rfl, N104q, e104⟩ := hQ104
  have N104 := Fr.app N0 N104q
  refine own_via (mkF m 14 #[rv sb, rv sx] [(.int (0 : Int32)), (.int (0 : Int32))]) st104 ?_
  refine own_icY 21 X104 hx (hb hby own_d307) (teq (by decide : (0 : Int32) = (0 : Int32))).1 (by decide) (by decide) ?_
  exact own_ret0 X104 hx Bd.returns hlk (hb hby own_d308) (by decide) (by decide) (by rw [e104]; exact ⟨rfl, N104, rfl⟩)
def own_QGV (Z : State) (sb vb : Addr) (h0 : Heap) (n0 : Nat) (v : Option Value) (h : Heap) (L : List Loc) : Prop := v = some (.ref vb) ∧ Fr n0 L ∧ h = h0
set_option maxRecDepth 65536 in
set_option maxHeartbeats 40000000 in
theorem own_rmGV (l : Launch) (Z : State) (a0 : Array Value) (hw : ∀ d ∈ tables_1, d.before a0 Z = true) (ws : List Jvm.Cond) (sb vb : Addr) (h0 : Heap) (n0 : Nat) (Z0 : n0 ≤ h0.size) (OL : Old Z n0 h0) (FV : Fld Z h0 sb "java/lang/AbstractStringBuilder" "value" "[B" (.ref vb)) :
    own_MF l (⟨"java/lang/AbstractStringBuilder", "getValue", "()[B"⟩ : MethodName) (Jvm.Cond.code (⟨"java/lang/AbstractStringBuilder", "getValue", "()[B"⟩ : MethodName) jdk_68_method_64_code 1 (some (.array .byte)) :: ws) ({ frames := 0, cells := 0, slots := 0, locals := 0 } : Room) #[(.ref sb)] Z h0 (own_QGV Z sb vb h0 n0) := by
  refine MetFree.of_bodySF (plainFor_of_name own_pn3) hisR ?_
  intro p e s m args below meth c s₁ Bd hml0 hP hK
  obtain ⟨rfl, hZ, hh⟩ := hP
  have hx := Bd.exec
  have hby := Bd.bytes
  have hlk : meth.locks = false := BodyLoose.notSynchronized Bd
  have hml : c.maxLocals = 1 := hml0
  have hown : s.vm.findClass "java/lang/AbstractStringBuilder" = some m.cls := findClass_of_methodNamed Bd.named
  have hnm := (name_of_methodNamed Bd.named Bd.method).1
  have X0 : Stand p l e ({ frames := 0, cells := 0, slots := 0, locals := 0 } : Room) s m #[(.ref sb)] below meth c s₁ [] 0 0 := Stand.of_body Bd
  have e0 : s₁.heap = h0 := by rw [← hh, Bd.state]; rfl
  have N0 := Fr.nil n0
  have KP : Keep h0 h0 [] := Keep.refl _ _
  refine own_start (Fin := (own_Fin s (own_QGV Z sb vb h0 n0) ({ frames := 0, cells := 0, slots := 0, locals := 0 } : Room).cells ({ frames := 0, cells := 0, slots := 0, locals := 0 } : Room).slots)) (own_from (mkF m 0 #[rv sb] []) (castTop (own_ef_GV m sb)) ?_)
  refine own_aln 1 X0 hx (hb hby own_d309) rfl rfl rfl ?_
  obtain ⟨T105, X105, e105, st105⟩ := getF X0 hx hZ hown (host := "") (Or.inl (own_w hw 70 rfl)) Via.refl e0 FV (g := (mkF m 1 #[rv sb] [(.ref sb)])) rfl rfl (hb hby own_d310)
  refine own_to (mkF m 4 #[rv sb] [(.ref vb)]) st105 ?_
  exact own_retA X105 hx Bd.returns rfl hlk (hb hby own_d311) rfl (by decide) (by decide) (by rw [e105]; exact ⟨rfl, N0, rfl⟩)
def own_QLA (Z : State) (sb : Addr) (cn : Int32) (h0 : Heap) (n0 : Nat) (v : Option Value) (h : Heap) (L : List Loc) : Prop := v = some (.int cn) ∧ Fr n0 L ∧ h = h0
set_option maxRecDepth 65536 in
set_option maxHeartbeats 40000000 in
theorem own_rmLA (l : Launch) (Z : State) (a0 : Array Value) (hw : ∀ d ∈ tables_1, d.before a0 Z = true) (ws : List Jvm.Cond) (sb : Addr) (cn : Int32) (h0 : Heap) (n0 : Nat) (Z0 : n0 ≤ h0.size) (OL : Old Z n0 h0) (E_sb : Exa Z h0 sb "java/lang/StringBuilder") (FN : Fld Z h0 sb "java/lang/AbstractStringBuilder" "count" "I" (.int cn)) :
    own_MF l (⟨"java/lang/AbstractStringBuilder", "length", "()I"⟩ : MethodName) (Jvm.Cond.code (⟨"java/lang/AbstractStringBuilder", "length", "()I"⟩ : MethodName) jdk_68_method_6_code 1 (some .int) :: ws) ({ frames := 0, cells := 0, slots := 0, locals := 0 } : Room) #[(.ref sb)] Z h0 (own_QLA Z sb cn h0 n0) := by
  refine MetFree.of_bodySF (plainFor_of_name own_pn3) hisR ?_
  intro p e s m args below meth c s₁ Bd hml0 hP hK
  obtain ⟨rfl, hZ, hh⟩ := hP
  have hx := Bd.exec
  have hby := Bd.bytes
  have hlk : meth.locks = false := BodyLoose.notSynchronized Bd
  have hml : c.maxLocals = 1 := hml0
  have hown : s.vm.findClass "java/lang/AbstractStringBuilder" = some m.cls := findClass_of_methodNamed Bd.named
  have hnm := (name_of_methodNamed Bd.named Bd.method).1
  have X0 : Stand p l e ({ frames := 0, cells := 0, slots := 0, locals := 0 } : Room) s m #[(.ref sb)] below meth c s₁ [] 0 0 := Stand.of_body Bd
  have e0 : s₁.heap = h0 := by rw [← hh, Bd.state]; rfl
  have N0 := Fr.nil n0
  have KP : Keep h0 h0 [] := Keep.refl _ _
  refine own_start (Fin := (own_Fin s (own_QLA Z sb cn h0 n0) ({ frames := 0, cells := 0, slots := 0, locals := 0 } : Room).cells ({ frames := 0, cells := 0, slots := 0, locals := 0 } : Room).slots)) (own_from (mkF m 0 #[rv sb] []) (castTop (own_ef_LA m sb)) ?_)
  refine own_aln 1 X0 hx (hb hby own_d312) rfl rfl rfl ?_
  obtain ⟨T106, X106, e106, st106⟩ := getF X0 hx hZ hown (host := "") (Or.inl (own_w hw 84 rfl)) Via.refl e0 FN (g := (mkF m 1 #[rv sb] [(.ref sb)])) rfl rfl (hb hby own_d313)
  refine own_to (mkF m 4 #[rv sb] [(.int cn)]) st106 ?_
  exact own_retI X106 hx Bd.returns hlk (hb hby own_d314) (by decide) (by decide) (by rw [e106]; exact ⟨rfl, N0, rfl⟩)
def own_QLB (Z : State) (sb : Addr) (cn : Int32) (h0 : Heap) (n0 : Nat) (v : Option Value) (h : Heap) (L : List Loc) : Prop := v = some (.int cn) ∧ Fr n0 L ∧ h = h0
set_option maxRecDepth 65536 in
set_option maxHeartbeats 40000000 in
theorem own_rmLB (l : Launch) (Z : State) (a0 : Array Value) (hw : ∀ d ∈ tables_1, d.before a0 Z = true) (ws : List Jvm.Cond) (sb : Addr) (cn : Int32) (h0 : Heap) (n0 : Nat) (Z0 : n0 ≤ h0.size) (OL : Old Z n0 h0) (E_sb : Exa Z h0 sb "java/lang/StringBuilder") (FN : Fld Z h0 sb "java/lang/AbstractStringBuilder" "count" "I" (.int cn)) :
    own_MF l (⟨"java/lang/StringBuilder", "length", "()I"⟩ : MethodName) (Jvm.Cond.code (⟨"java/lang/StringBuilder", "length", "()I"⟩ : MethodName) jdk_67_method_93_code 1 (some .int) :: ws) ({ frames := 1, cells := 0, slots := 0, locals := 14 } : Room) #[(.ref sb)] Z h0 (own_QLB Z sb cn h0 n0) := by
  refine MetFree.of_bodySF (plainFor_of_name own_pn4) hisR ?_
  intro p e s m args below meth c s₁ Bd hml0 hP hK
  obtain ⟨rfl, hZ, hh⟩ := hP
  have hx := Bd.exec
  have hby := Bd.bytes
  have hlk : meth.locks = false := BodyLoose.notSynchronized Bd
  have hml : c.maxLocals = 1 := hml0
  have hown : s.vm.findClass "java/lang/StringBuilder" = some m.cls := findClass_of_methodNamed Bd.named
  have hnm := (name_of_methodNamed Bd.named Bd.method).1
  have X0 : Stand p l e ({ frames := 1, cells := 0, slots := 0, locals := 14 } : Room) s m #[(.ref sb)] below meth c s₁ [] 0 0 := Stand.of_body Bd
  have e0 : s₁.heap = h0 := by rw [← hh, Bd.state]; rfl
  have N0 := Fr.nil n0
  have KP : Keep h0 h0 [] := Keep.refl _ _
  refine own_start (Fin := (own_Fin s (own_QLB Z sb cn h0 n0) ({ frames := 1, cells := 0, slots := 0, locals := 14 } : Room).cells ({ frames := 1, cells := 0, slots := 0, locals := 14 } : Room).slots)) (own_from (mkF m 0 #[rv sb] []) (castTop (own_ef_LB m sb)) ?_)
  refine own_aln 1 X0 hx (hb hby own_d315) rfl rfl rfl ?_
  obtain ⟨_, T107, Lc107, X107, hQ107, st107⟩ := own_super X0 hx hZ (y := (⟨"java/lang/AbstractStringBuilder", "length", "()I"⟩ : MethodName)) hown (own_w hw 163 rfl) (own_sameM (own_w hw 159 rfl) (own_w hw 89 rfl) rfl (by decide)) (own_w hw 159 rfl) (own_w hw 81 rfl) (by decide) (own_w hw 164 rfl) (backOf (W := 0) (own_rmLA l Z a0 hw [] sb cn h0 n0 (Nat.le_trans Z0 KP.1) OL E_sb FN) hZ (own_w hw 164 rfl) (own_w hw 66 rfl) (by decide) (by decide)) (Ins.self E_sb) (g := (mkF m 1 #[rv sb] [(.ref sb)])) rfl (by rw [hml]; rfl) (argsL := []) (rest := []) (lenOf own_pd4 rfl) rfl (by show 2 * 0 + _ ≤ _; exact Nat.le_of_eq rfl) (hb hby own_d316) rfl e0 (kc := 0) (ks := 0) rfl rfl (by decide) (by decide)
  obtain ⟨rfl, N107q, e107⟩ := hQ107
  have N107 := Fr.app N0 N107q
  refine own_via (mkF m 4 #[rv sb] [(.int cn)]) st107 ?_
  exact own_retI X107 hx Bd.returns hlk (hb hby own_d317) (by decide) (by decide) (by rw [e107]; exact ⟨rfl, N107, rfl⟩)
def own_QGB (Z : State) (vb : Addr) (kv : ClassId) (us' : List Value) (h0 : Heap) (n0 : Nat) (v : Option Value) (h : Heap) (L : List Loc) : Prop := v = none ∧ Fr n0 L ∧ Keep h0 h [vb] ∧ Arv Z h vb kv .byte (16 : Int32) us' (.int (0 : Int32))
def own_QBD (Z : State) (sb : Addr) (cn : Int32) (vb : Addr) (kv : ClassId) (us' : List Value) (h0 : Heap) (n0 : Nat) (v : Option Value) (h : Heap) (L : List Loc) : Prop := v = some (.ref sb) ∧ Fr n0 L ∧ Keep h0 h [sb, vb] ∧ Exa Z h sb "java/lang/StringBuilder" ∧ Fld Z h sb "java/lang/AbstractStringBuilder" "value" "[B" (.ref vb) ∧ Fld Z h sb "java/lang/AbstractStringBuilder" "coder" "B" (.int (0 : Int32)) ∧ Fld Z h sb "java/lang/AbstractStringBuilder" "count" "I" (.int cn) ∧ Arv Z h vb kv .byte (16 : Int32) us' (.int (0 : Int32))
set_option maxRecDepth 65536 in
set_option maxHeartbeats 40000000 in
theorem own_rmGB_0_7 (l : Launch) (Z : State) (a0 : Array Value) (hw : ∀ d ∈ tables_1, d.before a0 Z = true) (ws : List Jvm.Cond) (G1 : Int32) (vb : Addr) (kv : ClassId) (sx t : Addr) (kt : ClassId) (u0 u1 u2 u3 u4 u5 u6 u7 u8 u9 u10 u11 u12 u13 u14 u15 : Int32) (s0 s1 s2 s3 s4 s5 s6 : Int32) (h0 : Heap) (n0 : Nat) (Z0 : n0 ≤ h0.size) (OL : Old Z n0 h0) (ge_vb : n0 ≤ vb) (ne_sx_vb : sx ≠ vb) (ne_t_vb : t ≠ vb) (Vb : Arv Z h0 vb kv .byte (16 : Int32) [(.int u0), (.int u1), (.int u2), (.int u3), (.int u4), (.int u5), (.int u6), (.int u7), (.int u8), (.int u9), (.int u10), (.int u11), (.int u12), (.int u13), (.int u14), (.int u15)] (.int (0 : Int32))) (E_sx : Exa Z h0 sx "java/lang/String") (Fv : Fld Z h0 sx "java/lang/String" "value" "[B" (.ref t)) (Fc : Fld Z h0 sx "java/lang/String" "coder" "B" (.int (0 : Int32))) (Vt : Arv Z h0 t kt .byte (7 : Int32) [(.int s0), (.int s1), (.int s2), (.int s3), (.int s4), (.int s5), (.int s6)] (.int (0 : Int32))) (O2 : Sta Z Z.heap "java/lang/String" "COMPACT_STRINGS" "Z" (.int G1)) (P5 : ¬ (G1 = (0 : Int32))) :
    own_MF l (⟨"java/lang/String", "getBytes", "([BIB)V"⟩ : MethodName) (Jvm.Cond.code (⟨"java/lang/String", "getBytes", "([BIB)V"⟩ : MethodName) jdk_42_method_147_code 4 none :: ws) ({ frames := 1, cells := 0, slots := 0, locals := 40 } : Room) #[(.ref sx), (.ref vb), (.int (0 : Int32)), (.int (0 : Int32))] Z h0 (own_QGB Z vb kv [(.int s0), (.int s1), (.int s2), (.int s3), (.int s4), (.int s5), (.int s6), (.int u7), (.int u8), (.int u9), (.int u10), (.int u11), (.int u12), (.int u13), (.int u14), (.int u15)] h0 n0) := by
  refine MetFree.of_bodySF (plainFor_of_name own_pn0) hisR ?_
  intro p e s m args below meth c s₁ Bd hml0 hP hK
  obtain ⟨rfl, hZ, hh⟩ := hP
  have hx := Bd.exec
  have hby := Bd.bytes
  have hlk : meth.locks = false := BodyLoose.notSynchronized Bd
  have hml : c.maxLocals = 4 := hml0
  have hown : s.vm.findClass "java/lang/String" = some m.cls := findClass_of_methodNamed Bd.named
  have hnm := (name_of_methodNamed Bd.named Bd.method).1
  have X0 : Stand p l e ({ frames := 1, cells := 0, slots := 0, locals := 40 } : Room) s m #[(.ref sx), (.ref vb), (.int (0 : Int32)), (.int (0 : Int32))] below meth c s₁ [] 0 0 := Stand.of_body Bd
  have e0 : s₁.heap = h0 := by rw [← hh, Bd.state]; rfl
  have N0 := Fr.nil n0
  have KP : Keep h0 h0 [vb] := Keep.refl _ _
  refine own_start (Fin := (own_Fin s (own_QGB Z vb kv [(.int s0), (.int s1), (.int s2), (.int s3), (.int s4), (.int s5), (.int s6), (.int u7), (.int u8), (.int u9), (.int u10), (.int u11), (.int u12), (.int u13), (.int u14), (.int u15)] h0 n0) ({ frames := 1, cells := 0, slots := 0, locals := 40 } : Room).cells ({ frames := 1, cells := 0, slots := 0, locals := 40 } : Room).slots)) (own_from (mkF m 0 #[rv sx, rv vb, iv 0, iv 0] []) (castTop (own_ef_GB_0_7 m sx vb (0 : Int32) (0 : Int32))) ?_)
  refine own_aln 1 X0 hx (hb hby own_d318) rfl rfl rfl ?_
  obtain ⟨cq108, kq108, q108a, q108b, q108c⟩ := isOf hZ e0 E_sx
  obtain ⟨_, T108, Lc108, X108, hQ108, st108⟩ := own_virtual X0 hx (y := (⟨"java/lang/String", "coder", "()B"⟩ : MethodName)) (z := (⟨"java/lang/String", "coder", "()B"⟩ : MethodName)) hown (mvT hZ (own_w hw 114 rfl)) (mvT hZ (own_w hw 115 rfl)) (notFace_of_selects (args := #[]) (mvT hZ (own_w hw 117 rfl))) (mvT hZ (own_w hw 117 rfl)) (mvT hZ (own_w hw 116 rfl)) (by decide) (backOf (W := 0) (own_rmCD_0 l Z a0 hw [] G1 sx h0 n0 (Nat.le_trans Z0 KP.1) OL Fc O2 P5) hZ (own_w hw 118 rfl) (own_w hw 10 rfl) (by decide) (by decide)) q108a q108c (g := (mkF m 1 #[rv sx, rv vb, iv 0, iv 0] [(.ref sx)])) rfl (by rw [hml]; rfl) (argsL := []) (rest := []) (lenOf own_pd3 rfl) rfl (by show 2 * 0 + _ ≤ _; exact Nat.le_of_eq rfl) (hb hby own_d319) rfl e0 (kc := 0) (ks := 0) rfl rfl (by decide) (by decide)
  obtain ⟨rfl, N108q, e108⟩ := hQ108
  have N108 := Fr.app N0 N108q
  refine own_via (mkF m 4 #[rv sx, rv vb, iv 0, iv 0] [(.int (0 : Int32))]) st108 ?_
  refine own_iln 5 X108 hx (hb hby own_d320) rfl rfl ?_
  refine own_icN 8 X108 hx (hb hby own_d321) (teq (by decide : (0 : Int32) = (0 : Int32))).2 rfl ?_
  refine own_aln 9 X108 hx (hb hby own_d322) rfl rfl rfl ?_
  obtain ⟨T109, X109, e109, st109⟩ := getF X108 hx hZ hown (host := "") (Or.inl (own_w hw 28 rfl)) Via.refl e108 Fv (g := (mkF m 9 #[rv sx, rv vb, iv 0, iv 0] [(.ref sx)])) rfl rfl (hb hby own_d323)
  refine own_to (mkF m 12 #[rv sx, rv vb, iv 0, iv 0] [(.ref t)]) st109 ?_
  refine own_ic 13 0 X109 hx (hb hby own_d324) rfl rfl ?_
  refine own_aln 14 X109 hx (hb hby own_d325) rfl rfl rfl ?_
  refine own_iln 15 X109 hx (hb hby own_d326) rfl rfl ?_
  refine own_iln 16 X109 hx (hb hby own_d327) rfl rfl ?_
  refine own_ishl 17 X109 hx (hb hby own_d328) (z := (0 : Int32)) rfl rfl ?_
  refine own_aln 18 X109 hx (hb hby own_d329) rfl rfl rfl ?_
  obtain ⟨T110, X110, e110, st110⟩ := getF X109 hx hZ hown (host := "") (Or.inl (own_w hw 28 rfl)) Via.refl e109 Fv (g := (mkF m 18 #[rv sx, rv vb, iv 0, iv 0] [(.ref sx), (.int (0 : Int32)), (.ref vb), (.int (0 : Int32)), (.ref t)])) rfl rfl (hb hby own_d330)
  refine own_to (mkF m 21 #[rv sx, rv vb, iv 0, iv 0] [(.ref t), (.int (0 : Int32)), (.ref vb), (.int (0 : Int32)), (.ref t)]) st110 ?_
  obtain ⟨cl111, Ar111, -, S111, M111, -, -⟩ := id Vt
  refine own_to (mkF m 22 #[rv sx, rv vb, iv 0, iv 0] [(.int (7 : Int32)), (.int (0 : Int32)), (.ref vb), (.int (0 : Int32)), (.ref t)]) (by have q := X110.arraylength hx (by rw [e110]; exact Ar111.1) (State.isArrayOf_alike hZ.alike Ar111.2.1) (g := (mkF m 21 #[rv sx, rv vb, iv 0, iv 0] [(.ref t), (.int (0 : Int32)), (.ref vb), (.int (0 : Int32)), (.ref t)])) rfl rfl (hb hby own_d331); rw [len_of S111 M111] at q; exact q) ?_
  obtain ⟨T112, h112, L112, X112, e112, N112, K112, A112, st112⟩ := cpA X110 hx hZ hown (own_w hw 136 rfl) (own_w hw 139 rfl) (own_w hw 137 rfl) (own_w hw 138 rfl) e110 Vt Vb (us := [(.int s0), (.int s1), (.int s2), (.int s3), (.int s4), (.int s5), (.int s6)]) (Or.inl ⟨rfl, rfl⟩) (by decide) (by decide) (by decide) (by decide) (by decide) rfl (Nat.le_of_ble_eq_true rfl) N108 ge_vb (g := (mkF m 22 #[rv sx, rv vb, iv 0, iv 0] [(.int (7 : Int32)), (.int (0 : Int32)), (.ref vb), (.int (0 : Int32)), (.ref t)])) rfl (by rw [hml]; rfl) rfl (hb hby own_d332) (by decide) (W := 0) (by show 2 * 0 + _ ≤ _; exact Nat.le_of_eq rfl) (by decide)
  have OL := OL.keep K112 (allS ge_vb all0)
  have KP := KP.trans K112 (allS (Or.inl (List.mem_of_getElem? (i := 0) rfl)) all0)
  have E_sx := E_sx.keep K112
  have Fv := Fv.keep K112 (ninS ne_sx_vb nin0)
  have Fc := Fc.keep K112 (ninS ne_sx_vb nin0)
  have Vt := Vt.keep K112 (ninS ne_t_vb nin0)
  have Vb : Arv Z h112 vb kv .byte (16 : Int32) [(.int s0), (.int s1), (.int s2), (.int s3), (.int s4), (.int s5), (.int s6), (.int u7), (.int u8), (.int u9), (.int u10), (.int u11), (.int u12), (.int u13), (.int u14), (.int u15)] (.int (0 : Int32)) := A112
  refine own_to (mkF m 25 #[rv sx, rv vb, iv 0, iv 0] []) st112 ?_
  refine own_go 43 X112 hx (hb hby own_d333) (by decide) (by decide) ?_
  exact own_ret0 X112 hx Bd.returns hlk (hb hby own_d334) (by decide) (by decide) (by rw [e112]; exact ⟨rfl, N112, KP, Vb⟩)
set_option maxRecDepth 65536 in
set_option maxHeartbeats 40000000 in
theorem own_rmGB_7_0 (l : Launch) (Z : State) (a0 : Array Value) (hw : ∀ d ∈ tables_1, d.before a0 Z = true) (ws : List Jvm.Cond) (G1 : Int32) (vb : Addr) (kv : ClassId) (sx t : Addr) (kt : ClassId) (u0 u1 u2 u3 u4 u5 u6 u7 u8 u9 u10 u11 u12 u13 u14 u15 : Int32)  (h0 : Heap) (n0 : Nat) (Z0 : n0 ≤ h0.size) (OL : Old Z n0 h0) (ge_vb : n0 ≤ vb) (ne_sx_vb : sx ≠ vb) (ne_t_vb : t ≠ vb) (Vb : Arv Z h0 vb kv .byte (16 : Int32) [(.int u0), (.int u1), (.int u2), (.int u3), (.int u4), (.int u5), (.int u6), (.int u7), (.int u8), (.int u9), (.int u10), (.int u11), (.int u12), (.int u13), (.int u14), (.int u15)] (.int (0 : Int32))) (E_sx : Exa Z h0 sx "java/lang/String") (Fv : Fld Z h0 sx "java/lang/String" "value" "[B" (.ref t)) (Fc : Fld Z h0 sx "java/lang/String" "coder" "B" (.int (0 : Int32))) (Vt : Arv Z h0 t kt .byte (0 : Int32) [] (.int (0 : Int32))) (O2 : Sta Z Z.heap "java/lang/String" "COMPACT_STRINGS" "Z" (.int G1)) (P5 : ¬ (G1 = (0 : Int32))) :
    own_MF l (⟨"java/lang/String", "getBytes", "([BIB)V"⟩ : MethodName) (Jvm.Cond.code (⟨"java/lang/String", "getBytes", "([BIB)V"⟩ : MethodName) jdk_42_method_147_code 4 none :: ws) ({ frames := 1, cells := 0, slots := 0, locals := 40 } : Room) #[(.ref sx), (.ref vb), (.int (7 : Int32)), (.int (0 : Int32))] Z h0 (own_QGB Z vb kv [(.int u0), (.int u1), (.int u2), (.int u3), (.int u4), (.int u5), (.int u6), (.int u7), (.int u8), (.int u9), (.int u10), (.int u11), (.int u12), (.int u13), (.int u14), (.int u15)] h0 n0) := by
  refine MetFree.of_bodySF (plainFor_of_name own_pn0) hisR ?_
  intro p e s m args below meth c s₁ Bd hml0 hP hK
  obtain ⟨rfl, hZ, hh⟩ := hP
  have hx := Bd.exec
  have hby := Bd.bytes
  have hlk : meth.locks = false := BodyLoose.notSynchronized Bd
  have hml : c.maxLocals = 4 := hml0
  have hown : s.vm.findClass "java/lang/String" = some m.cls := findClass_of_methodNamed Bd.named
  have hnm := (name_of_methodNamed Bd.named Bd.method).1
  have X0 : Stand p l e ({ frames := 1, cells := 0, slots := 0, locals := 40 } : Room) s m #[(.ref sx), (.ref vb), (.int (7 : Int32)), (.int (0 : Int32))] below meth c s₁ [] 0 0 := Stand.of_body Bd
  have e0 : s₁.heap = h0 := by rw [← hh, Bd.state]; rfl
  have N0 := Fr.nil n0
  have KP : Keep h0 h0 [vb] := Keep.refl _ _
  refine own_start (Fin := (own_Fin s (own_QGB Z vb kv [(.int u0), (.int u1), (.int u2), (.int u3), (.int u4), (.int u5), (.int u6), (.int u7), (.int u8), (.int u9), (.int u10), (.int u11), (.int u12), (.int u13), (.int u14), (.int u15)] h0 n0) ({ frames := 1, cells := 0, slots := 0, locals := 40 } : Room).cells ({ frames := 1, cells := 0, slots := 0, locals := 40 } : Room).slots)) (own_from (mkF m 0 #[rv sx, rv vb, iv 7, iv 0] []) (castTop (own_ef_GB_7_0 m sx vb (7 : Int32) (0 : Int32))) ?_)
  refine own_aln 1 X0 hx (hb hby own_d318) rfl rfl rfl ?_
  obtain ⟨cq113, kq113, q113a, q113b, q113c⟩ := isOf hZ e0 E_sx
  obtain ⟨_, T113, Lc113, X113, hQ113, st113⟩ := own_virtual X0 hx (y := (⟨"java/lang/String", "coder", "()B"⟩ : MethodName)) (z := (⟨"java/lang/String", "coder", "()B"⟩ : MethodName)) hown (mvT hZ (own_w hw 114 rfl)) (mvT hZ (own_w hw 115 rfl)) (notFace_of_selects (args := #[]) (mvT hZ (own_w hw 117 rfl))) (mvT hZ (own_w hw 117 rfl)) (mvT hZ (own_w hw 116 rfl)) (by decide) (backOf (W := 0) (own_rmCD_0 l Z a0 hw [] G1 sx h0 n0 (Nat.le_trans Z0 KP.1) OL Fc O2 P5) hZ (own_w hw 118 rfl) (own_w hw 10 rfl) (by decide) (by decide)) q113a q113c (g := (mkF m 1 #[rv sx, rv vb, iv 7, iv 0] [(.ref sx)])) rfl (by rw [hml]; rfl) (argsL := []) (rest := []) (lenOf own_pd3 rfl) rfl (by show 2 * 0 + _ ≤ _; exact Nat.le_of_eq rfl) (hb hby own_d319) rfl e0 (kc := 0) (ks := 0) rfl rfl (by decide) (by decide)
  obtain ⟨rfl, N113q, e113⟩ := hQ113
  have N113 := Fr.app N0 N113q
  refine own_via (mkF m 4 #[rv sx, rv vb, iv 7, iv 0] [(.int (0 : Int32))]) st113 ?_
  refine own_iln 5 X113 hx (hb hby own_d320) rfl rfl ?_
  refine own_icN 8 X113 hx (hb hby own_d321) (teq (by decide : (0 : Int32) = (0 : Int32))).2 rfl ?_
  refine own_aln 9 X113 hx (hb hby own_d322) rfl rfl rfl ?_
  obtain ⟨T114, X114, e114, st114⟩ := getF X113 hx hZ hown (host := "") (Or.inl (own_w hw 28 rfl)) Via.refl e113 Fv (g := (mkF m 9 #[rv sx, rv vb, iv 7, iv 0] [(.ref sx)])) rfl rfl (hb hby own_d323)
  refine own_to (mkF m 12 #[rv sx, rv vb, iv 7, iv 0] [(.ref t)]) st114 ?_
  refine own_ic 13 0 X114 hx (hb hby own_d324) rfl rfl ?_
  refine own_aln 14 X114 hx (hb hby own_d325) rfl rfl rfl ?_
  refine own_iln 15 X114 hx (hb hby own_d326) rfl rfl ?_
  refine own_iln 16 X114 hx (hb hby own_d327) rfl rfl ?_
  refine own_ishl 17 X114 hx (hb hby own_d328) (z := (7 : Int32)) rfl rfl ?_
  refine own_aln 18 X114 hx (hb hby own_d329) rfl rfl rfl ?_
  obtain ⟨T115, X115, e115, st115⟩ := getF X114 hx hZ hown (host := "") (Or.inl (own_w hw 28 rfl)) Via.refl e114 Fv (g := (mkF m 18 #[rv sx, rv vb, iv 7, iv 0] [(.ref sx), (.int (7 : Int32)), (.ref vb), (.int (0 : Int32)), (.ref t)])) rfl rfl (hb hby own_d330)
  refine own_to (mkF m 21 #[rv sx, rv vb, iv 7, iv 0] [(.ref t), (.int (7 : Int32)), (.ref vb), (.int (0 : Int32)), (.ref t)]) st115 ?_
  obtain ⟨cl116, Ar116, -, S116, M116, -, -⟩ := id Vt
  refine own_to (mkF m 22 #[rv sx, rv vb, iv 7, iv 0] [(.int (0 : Int32)), (.int (7 : Int32)), (.ref vb), (.int (0 : Int32)), (.ref t)]) (by have q := X115.arraylength hx (by rw [e115]; exact Ar116.1) (State.isArrayOf_alike hZ.alike Ar116.2.1) (g := (mkF m 21 #[rv sx, rv vb, iv 7, iv 0] [(.ref t), (.int (7 : Int32)), (.ref vb), (.int (0 : Int32)), (.ref t)])) rfl rfl (hb hby own_d331); rw [len_of S116 M116] at q; exact q) ?_
  obtain ⟨T117, h117, L117, X117, e117, N117, K117, A117, st117⟩ := cpA X115 hx hZ hown (own_w hw 136 rfl) (own_w hw 139 rfl) (own_w hw 137 rfl) (own_w hw 138 rfl) e115 Vt Vb (us := []) (Or.inl ⟨rfl, rfl⟩) (by decide) (by decide) (by decide) (by decide) (by decide) rfl (Nat.le_of_ble_eq_true rfl) N113 ge_vb (g := (mkF m 22 #[rv sx, rv vb, iv 7, iv 0] [(.int (0 : Int32)), (.int (7 : Int32)), (.ref vb), (.int (0 : Int32)), (.ref t)])) rfl (by rw [hml]; rfl) rfl (hb hby own_d332) (by decide) (W := 0) (by show 2 * 0 + _ ≤ _; exact Nat.le_of_eq rfl) (by decide)
  have OL := OL.keep K117 (allS ge_vb all0)
  have KP := KP.trans K117 (allS (Or.inl (List.mem_of_getElem? (i := 0) rfl)) all0)
  have E_sx := E_sx.keep K117
  have Fv := Fv.keep K117 (ninS ne_sx_vb nin0)
  have Fc := Fc.keep K117 (ninS ne_sx_vb nin0)
  have Vt := Vt.keep K117 (ninS ne_t_vb nin0)
  have Vb : Arv Z h117 vb kv .byte (16 : Int32) [(.int u0), (.int u1), (.int u2), (.int u3), (.int u4), (.int u5), (.int u6), (.int u7), (.int u8), (.int u9), (.int u10), (.int u11), (.int u12), (.int u13), (.int u14), (.int u15)] (.int (0 : Int32)) := A117
  refine own_to (mkF m 25 #[rv sx, rv vb, iv 7, iv 0] []) st117 ?_
  refine own_go 43 X117 hx (hb hby own_d333) (by decide) (by decide) ?_
  exact own_ret0 X117 hx Bd.returns hlk (hb hby own_d334) (by decide) (by decide) (by rw [e117]; exact ⟨rfl, N117, KP, Vb⟩)
set_option maxRecDepth 65536 in
set_option maxHeartbeats 40000000 in
theorem own_rmGB_7_1 (l : Launch) (Z : State) (a0 : Array Value) (hw : ∀ d ∈ tables_1, d.before a0 Z = true) (ws : List Jvm.Cond) (G1 : Int32) (vb : Addr) (kv : ClassId) (sx t : Addr) (kt : ClassId) (u0 u1 u2 u3 u4 u5 u6 u7 u8 u9 u10 u11 u12 u13 u14 u15 : Int32) (s0 : Int32) (h0 : Heap) (n0 : Nat) (Z0 : n0 ≤ h0.size) (OL : Old Z n0 h0) (ge_vb : n0 ≤ vb) (ne_sx_vb : sx ≠ vb) (ne_t_vb : t ≠ vb) (Vb : Arv Z h0 vb kv .byte (16 : Int32) [(.int u0), (.int u1), (.int u2), (.int u3), (.int u4), (.int u5), (.int u6), (.int u7), (.int u8), (.int u9), (.int u10), (.int u11), (.int u12), (.int u13), (.int u14), (.int u15)] (.int (0 : Int32))) (E_sx : Exa Z h0 sx "java/lang/String") (Fv : Fld Z h0 sx "java/lang/String" "value" "[B" (.ref t)) (Fc : Fld Z h0 sx "java/lang/String" "coder" "B" (.int (0 : Int32))) (Vt : Arv Z h0 t kt .byte (1 : Int32) [(.int s0)] (.int (0 : Int32))) (O2 : Sta Z Z.heap "java/lang/String" "COMPACT_STRINGS" "Z" (.int G1)) (P5 : ¬ (G1 = (0 : Int32))) :
    own_MF l (⟨"java/lang/String", "getBytes", "([BIB)V"⟩ : MethodName) (Jvm.Cond.code (⟨"java/lang/String", "getBytes", "([BIB)V"⟩ : MethodName) jdk_42_method_147_code 4 none :: ws) ({ frames := 1, cells := 0, slots := 0, locals := 40 } : Room) #[(.ref sx), (.ref vb), (.int (7 : Int32)), (.int (0 : Int32))] Z h0 (own_QGB Z vb kv [(.int u0), (.int u1), (.int u2), (.int u3), (.int u4), (.int u5), (.int u6), (.int s0), (.int u8), (.int u9), (.int u10), (.int u11), (.int u12), (.int u13), (.int u14), (.int u15)] h0 n0) := by
  refine MetFree.of_bodySF (plainFor_of_name own_pn0) hisR ?_
  intro p e s m args below meth c s₁ Bd hml0 hP hK
  obtain ⟨rfl, hZ, hh⟩ := hP
  have hx := Bd.exec
  have hby := Bd.bytes
  have hlk : meth.locks = false := BodyLoose.notSynchronized Bd
  have hml : c.maxLocals = 4 := hml0
  have hown : s.vm.findClass "java/lang/String" = some m.cls := findClass_of_methodNamed Bd.named
  have hnm := (name_of_methodNamed Bd.named Bd.method).1
  have X0 : Stand p l e ({ frames := 1, cells := 0, slots := 0, locals := 40 } : Room) s m #[(.ref sx), (.ref vb), (.int (7 : Int32)), (.int (0 : Int32))] below meth c s₁ [] 0 0 := Stand.of_body Bd
  have e0 : s₁.heap = h0 := by rw [← hh, Bd.state]; rfl
  have N0 := Fr.nil n0
  have KP : Keep h0 h0 [vb] := Keep.refl _ _
  refine own_start (Fin := (own_Fin s (own_QGB Z vb kv [(.int u0), (.int u1), (.int u2), (.int u3), (.int u4), (.int u5), (.int u6), (.int s0), (.int u8), (.int u9), (.int u10), (.int u11), (.int u12), (.int u13), (.int u14), (.int u15)] h0 n0) ({ frames := 1, cells := 0, slots := 0, locals := 40 } : Room).cells ({ frames := 1, cells := 0, slots := 0, locals := 40 } : Room).slots)) (own_from (mkF m 0 #[rv sx, rv vb, iv 7, iv 0] []) (castTop (own_ef_GB_7_1 m sx vb (7 : Int32) (0 : Int32))) ?_)
  refine own_aln 1 X0 hx (hb hby own_d318) rfl rfl rfl ?_
  obtain ⟨cq118, kq118, q118a, q118b, q118c⟩ := isOf hZ e0 E_sx
  obtain ⟨_, T118, Lc118, X118, hQ118, st118⟩ := own_virtual X0 hx (y := (⟨"java/lang/String", "coder", "()B"⟩ : MethodName)) (z := (⟨"java/lang/String", "coder", "()B"⟩ : MethodName)) hown (mvT hZ (own_w hw 114 rfl)) (mvT hZ (own_w hw 115 rfl)) (notFace_of_selects (args := #[]) (mvT hZ (own_w hw 117 rfl))) (mvT hZ (own_w hw 117 rfl)) (mvT hZ (own_w hw 116 rfl)) (by decide) (backOf (W := 0) (own_rmCD_0 l Z a0 hw [] G1 sx h0 n0 (Nat.le_trans Z0 KP.1) OL Fc O2 P5) hZ (own_w hw 118 rfl) (own_w hw 10 rfl) (by decide) (by decide)) q118a q118c (g := (mkF m 1 #[rv sx, rv vb, iv 7, iv 0] [(.ref sx)])) rfl (by rw [hml]; rfl) (argsL := []) (rest := []) (lenOf own_pd3 rfl) rfl (by show 2 * 0 + _ ≤ _; exact Nat.le_of_eq rfl) (hb hby own_d319) rfl e0 (kc := 0) (ks := 0) rfl rfl (by decide) (by decide)
  obtain ⟨rfl, N118q, e118⟩ := hQ118
  have N118 := Fr.app N0 N118q
  refine own_via (mkF m 4 #[rv sx, rv vb, iv 7, iv 0] [(.int (0 : Int32))]) st118 ?_
  refine own_iln 5 X118 hx (hb hby own_d320) rfl rfl ?_
  refine own_icN 8 X118 hx (hb hby own_d321) (teq (by decide : (0 : Int32) = (0 : Int32))).2 rfl ?_
  refine own_aln 9 X118 hx (hb hby own_d322) rfl rfl rfl ?_
  obtain ⟨T119, X119, e119, st119⟩ := getF X118 hx hZ hown (host := "") (Or.inl (own_w hw 28 rfl)) Via.refl e118 Fv (g := (mkF m 9 #[rv sx, rv vb, iv 7, iv 0] [(.ref sx)])) rfl rfl (hb hby own_d323)
  refine own_to (mkF m 12 #[rv sx, rv vb, iv 7, iv 0] [(.ref t)]) st119 ?_
  refine own_ic 13 0 X119 hx (hb hby own_d324) rfl rfl ?_
  refine own_aln 14 X119 hx (hb hby own_d325) rfl rfl rfl ?_
  refine own_iln 15 X119 hx (hb hby own_d326) rfl rfl ?_
  refine own_iln 16 X119 hx (hb hby own_d327) rfl rfl ?_
  refine own_ishl 17 X119 hx (hb hby own_d328) (z := (7 : Int32)) rfl rfl ?_
  refine own_aln 18 X119 hx (hb hby own_d329) rfl rfl rfl ?_
  obtain ⟨T120, X120, e120, st120⟩ := getF X119 hx hZ hown (host := "") (Or.inl (own_w hw 28 rfl)) Via.refl e119 Fv (g := (mkF m 18 #[rv sx, rv vb, iv 7, iv 0] [(.ref sx), (.int (7 : Int32)), (.ref vb), (.int (0 : Int32)), (.ref t)])) rfl rfl (hb hby own_d330)
  refine own_to (mkF m 21 #[rv sx, rv vb, iv 7, iv 0] [(.ref t), (.int (7 : Int32)), (.ref vb), (.int (0 : Int32)), (.ref t)]) st120 ?_
  obtain ⟨cl121, Ar121, -, S121, M121, -, -⟩ := id Vt
  refine own_to (mkF m 22 #[rv sx, rv vb, iv 7, iv 0] [(.int (1 : Int32)), (.int (7 : Int32)), (.ref vb), (.int (0 : Int32)), (.ref t)]) (by have q := X120.arraylength hx (by rw [e120]; exact Ar121.1) (State.isArrayOf_alike hZ.alike Ar121.2.1) (g := (mkF m 21 #[rv sx, rv vb, iv 7, iv 0] [(.ref t), (.int (7 : Int32)), (.ref vb), (.int (0 : Int32)), (.ref t)])) rfl rfl (hb hby own_d331); rw [len_of S121 M121] at q; exact q) ?_
  obtain ⟨T122, h122, L122, X122, e122, N122, K122, A122, st122⟩ := cpA X120 hx hZ hown (own_w hw 136 rfl) (own_w hw 139 rfl) (own_w hw 137 rfl) (own_w hw 138 rfl) e120 Vt Vb (us := [(.int s0)]) (Or.inl ⟨rfl, rfl⟩) (by decide) (by decide) (by decide) (by decide) (by decide) rfl (Nat.le_of_ble_eq_true rfl) N118 ge_vb (g := (mkF m 22 #[rv sx, rv vb, iv 7, iv 0] [(.int (1 : Int32)), (.int (7 : Int32)), (.ref vb), (.int (0 : Int32)), (.ref t)])) rfl (by rw [hml]; rfl) rfl (hb hby own_d332) (by decide) (W := 0) (by show 2 * 0 + _ ≤ _; exact Nat.le_of_eq rfl) (by decide)
  have OL := OL.keep K122 (allS ge_vb all0)
  have KP := KP.trans K122 (allS (Or.inl (List.mem_of_getElem? (i := 0) rfl)) all0)
  have E_sx := E_sx.keep K122
  have Fv := Fv.keep K122 (ninS ne_sx_vb nin0)
  have Fc := Fc.keep K122 (ninS ne_sx_vb nin0)
  have Vt := Vt.keep K122 (ninS ne_t_vb nin0)
  have Vb : Arv Z h122 vb kv .byte (16 : Int32) [(.int u0), (.int u1), (.int u2), (.int u3), (.int u4), (.int u5), (.int u6), (.int s0), (.int u8), (.int u9), (.int u10), (.int u11), (.int u12), (.int u13), (.int u14), (.int u15)] (.int (0 : Int32)) := A122
  refine own_to (mkF m 25 #[rv sx, rv vb, iv 7, iv 0] []) st122 ?_
  refine own_go 43 X122 hx (hb hby own_d333) (by decide) (by decide) ?_
  exact own_ret0 X122 hx Bd.returns hlk (hb hby own_d334) (by decide) (by decide) (by rw [e122]; exact ⟨rfl, N122, KP, Vb⟩)
set_option maxRecDepth 65536 in
set_option maxHeartbeats 40000000 in
theorem own_rmGB_7_2 (l : Launch) (Z : State) (a0 : Array Value) (hw : ∀ d ∈ tables_1, d.before a0 Z = true) (ws : List Jvm.Cond) (G1 : Int32) (vb : Addr) (kv : ClassId) (sx t : Addr) (kt : ClassId) (u0 u1 u2 u3 u4 u5 u6 u7 u8 u9 u10 u11 u12 u13 u14 u15 : Int32) (s0 s1 : Int32) (h0 : Heap) (n0 : Nat) (Z0 : n0 ≤ h0.size) (OL : Old Z n0 h0) (ge_vb : n0 ≤ vb) (ne_sx_vb : sx ≠ vb) (ne_t_vb : t ≠ vb) (Vb : Arv Z h0 vb kv .byte (16 : Int32) [(.int u0), (.int u1), (.int u2), (.int u3), (.int u4), (.int u5), (.int u6), (.int u7), (.int u8), (.int u9), (.int u10), (.int u11), (.int u12), (.int u13), (.int u14), (.int u15)] (.int (0 : Int32))) (E_sx : Exa Z h0 sx "java/lang/String") (Fv : Fld Z h0 sx "java/lang/String" "value" "[B" (.ref t)) (Fc : Fld Z h0 sx "java/lang/String" "coder" "B" (.int (0 : Int32))) (Vt : Arv Z h0 t kt .byte (2 : Int32) [(.int s0), (.int s1)] (.int (0 : Int32))) (O2 : Sta Z Z.heap "java/lang/String" "COMPACT_STRINGS" "Z" (.int G1)) (P5 : ¬ (G1 = (0 : Int32))) :
    own_MF l (⟨"java/lang/String", "getBytes", "([BIB)V"⟩ : MethodName) (Jvm.Cond.code (⟨"java/lang/String", "getBytes", "([BIB)V"⟩ : MethodName) jdk_42_method_147_code 4 none :: ws) ({ frames := 1, cells := 0, slots := 0, locals := 40 } : Room) #[(.ref sx), (.ref vb), (.int (7 : Int32)), (.int (0 : Int32))] Z h0 (own_QGB Z vb kv [(.int u0), (.int u1), (.int u2), (.int u3), (.int u4), (.int u5), (.int u6), (.int s0), (.int s1), (.int u9), (.int u10), (.int u11), (.int u12), (.int u13), (.int u14), (.int u15)] h0 n0) := by
  refine MetFree.of_bodySF (plainFor_of_name own_pn0) hisR ?_
  intro p e s m args below meth c s₁ Bd hml0 hP hK
  obtain ⟨rfl, hZ, hh⟩ := hP
  have hx := Bd.exec
  have hby := Bd.bytes
  have hlk : meth.locks = false := BodyLoose.notSynchronized Bd
  have hml : c.maxLocals = 4 := hml0
  have hown : s.vm.findClass "java/lang/String" = some m.cls := findClass_of_methodNamed Bd.named
  have hnm := (name_of_methodNamed Bd.named Bd.method).1
  have X0 : Stand p l e ({ frames := 1, cells := 0, slots := 0, locals := 40 } : Room) s m #[(.ref sx), (.ref vb), (.int (7 : Int32)), (.int (0 : Int32))] below meth c s₁ [] 0 0 := Stand.of_body Bd
  have e0 : s₁.heap = h0 := by rw [← hh, Bd.state]; rfl
  have N0 := Fr.nil n0
  have KP : Keep h0 h0 [vb] := Keep.refl _ _
  refine own_start (Fin := (own_Fin s (own_QGB Z vb kv [(.int u0), (.int u1), (.int u2), (.int u3), (.int u4), (.int u5), (.int u6), (.int s0), (.int s1), (.int u9), (.int u10), (.int u11), (.int u12), (.int u13), (.int u14), (.int u15)] h0 n0) ({ frames := 1, cells := 0, slots := 0, locals := 40 } : Room).cells ({ frames := 1, cells := 0, slots := 0, locals := 40 } : Room).slots)) (own_from (mkF m 0 #[rv sx, rv vb, iv 7, iv 0] []) (castTop (own_ef_GB_7_2 m sx vb (7 : Int32) (0 : Int32))) ?_)
  refine own_aln 1 X0 hx (hb hby own_d318) rfl rfl rfl ?_
  obtain ⟨cq123, kq123, q123a, q123b, q123c⟩ := isOf hZ e0 E_sx
  obtain ⟨_, T123, Lc123, X123, hQ123, st123⟩ := own_virtual X0 hx (y := (⟨"java/lang/String", "coder", "()B"⟩ : MethodName)) (z := (⟨"java/lang/String", "coder", "()B"⟩ : MethodName)) hown (mvT hZ (own_w hw 114 rfl)) (mvT hZ (own_w hw 115 rfl)) (notFace_of_selects (args := #[]) (mvT hZ (own_w hw 117 rfl))) (mvT hZ (own_w hw 117 rfl)) (mvT hZ (own_w hw 116 rfl)) (by decide) (backOf (W := 0) (own_rmCD_0 l Z a0 hw [] G1 sx h0 n0 (Nat.le_trans Z0 KP.1) OL Fc O2 P5) hZ (own_w hw 118 rfl) (own_w hw 10 rfl) (by decide) (by decide)) q123a q123c (g := (mkF m 1 #[rv sx, rv vb, iv 7, iv 0] [(.ref sx)])) rfl (by rw [hml]; rfl) (argsL := []) (rest := []) (lenOf own_pd3 rfl) rfl (by show 2 * 0 + _ ≤ _; exact Nat.le_of_eq rfl) (hb hby own_d319) rfl e0 (kc := 0) (ks := 0) rfl rfl (by decide) (by decide)
  obtain ⟨rfl, N123q, e123⟩ := hQ123
  have N123 := Fr.app N0 N123q
  refine own_via (mkF m 4 #[rv sx, rv vb, iv 7, iv 0] [(.int (0 : Int32))]) st123 ?_
  refine own_iln 5 X123 hx (hb hby own_d320) rfl rfl ?_
  refine own_icN 8 X123 hx (hb hby own_d321) (teq (by decide : (0 : Int32) = (0 : Int32))).2 rfl ?_
  refine own_aln 9 X123 hx (hb hby own_d322) rfl rfl rfl ?_
  obtain ⟨T124, X124, e124, st124⟩ := getF X123 hx hZ hown (host := "") (Or.inl (own_w hw 28 rfl)) Via.refl e123 Fv (g := (mkF m 9 #[rv sx, rv vb, iv 7, iv 0] [(.ref sx)])) rfl rfl (hb hby own_d323)
  refine own_to (mkF m 12 #[rv sx, rv vb, iv 7, iv 0] [(.ref t)]) st124 ?_
  refine own_ic 13 0 X124 hx (hb hby own_d324) rfl rfl ?_
  refine own_aln 14 X124 hx (hb hby own_d325) rfl rfl rfl ?_
  refine own_iln 15 X124 hx (hb hby own_d326) rfl rfl ?_
  refine own_iln 16 X124 hx (hb hby own_d327) rfl rfl ?_
  refine own_ishl 17 X124 hx (hb hby own_d328) (z := (7 : Int32)) rfl rfl ?_
  refine own_aln 18 X124 hx (hb hby own_d329) rfl rfl rfl ?_
  obtain ⟨T125, X125, e125, st125⟩ := getF X124 hx hZ hown (host := "") (Or.inl (own_w hw 28 rfl)) Via.refl e124 Fv (g := (mkF m 18 #[rv sx, rv vb, iv 7, iv 0] [(.ref sx), (.int (7 : Int32)), (.ref vb), (.int (0 : Int32)), (.ref t)])) rfl rfl (hb hby own_d330)
  refine own_to (mkF m 21 #[rv sx, rv vb, iv 7, iv 0] [(.ref t), (.int (7 : Int32)), (.ref vb), (.int (0 : Int32)), (.ref t)]) st125 ?_
  obtain ⟨cl126, Ar126, -, S126, M126, -, -⟩ := id Vt
  refine own_to (mkF m 22 #[rv sx, rv vb, iv 7, iv 0] [(.int (2 : Int32)), (.int (7 : Int32)), (.ref vb), (.int (0 : Int32)), (.ref t)]) (by have q := X125.arraylength hx (by rw [e125]; exact Ar126.1) (State.isArrayOf_alike hZ.alike Ar126.2.1) (g := (mkF m 21 #[rv sx, rv vb, iv 7, iv 0] [(.ref t), (.int (7 : Int32)), (.ref vb), (.int (0 : Int32)), (.ref t)])) rfl rfl (hb hby own_d331); rw [len_of S126 M126] at q; exact q) ?_
  obtain ⟨T127, h127, L127, X127, e127, N127, K127, A127, st127⟩ := cpA X125 hx hZ hown (own_w hw 136 rfl) (own_w hw 139 rfl) (own_w hw 137 rfl) (own_w hw 138 rfl) e125 Vt Vb (us := [(.int s0), (.int s1)]) (Or.inl ⟨rfl, rfl⟩) (by decide) (by decide) (by decide) (by decide) (by decide) rfl (Nat.le_of_ble_eq_true rfl) N123 ge_vb (g := (mkF m 22 #[rv sx, rv vb, iv 7, iv 0] [(.int (2 : Int32)), (.int (7 : Int32)), (.ref vb), (.int (0 : Int32)), (.ref t)])) rfl (by rw [hml]; rfl) rfl (hb hby own_d332) (by decide) (W := 0) (by show 2 * 0 + _ ≤ _; exact Nat.le_of_eq rfl) (by decide)
  have OL := OL.keep K127 (allS ge_vb all0)
  have KP := KP.trans K127 (allS (Or.inl (List.mem_of_getElem? (i := 0) rfl)) all0)
  have E_sx := E_sx.keep K127
  have Fv := Fv.keep K127 (ninS ne_sx_vb nin0)
  have Fc := Fc.keep K127 (ninS ne_sx_vb nin0)
  have Vt := Vt.keep K127 (ninS ne_t_vb nin0)
  have Vb : Arv Z h127 vb kv .byte (16 : Int32) [(.int u0), (.int u1), (.int u2), (.int u3), (.int u4), (.int u5), (.int u6), (.int s0), (.int s1), (.int u9), (.int u10), (.int u11), (.int u12), (.int u13), (.int u14), (.int u15)] (.int (0 : Int32)) := A127
  refine own_to (mkF m 25 #[rv sx, rv vb, iv 7, iv 0] []) st127 ?_
  refine own_go 43 X127 hx (hb hby own_d333) (by decide) (by decide) ?_
  exact own_ret0 X127 hx Bd.returns hlk (hb hby own_d334) (by decide) (by decide) (by rw [e127]; exact ⟨rfl, N127, KP, Vb⟩)
set_option maxRecDepth 65536 in
set_option maxHeartbeats 40000000 in
theorem own_rmGB_1_0 (l : Launch) (Z : State) (a0 : Array Value) (hw : ∀ d ∈ tables_1, d.before a0 Z = true) (ws : List Jvm.Cond) (G1 : Int32) (vb : Addr) (kv : ClassId) (sx t : Addr) (kt : ClassId) (u0 u1 u2 u3 u4 u5 u6 u7 u8 u9 u10 u11 u12 u13 u14 u15 : Int32)  (h0 : Heap) (n0 : Nat) (Z0 : n0 ≤ h0.size) (OL : Old Z n0 h0) (ge_vb : n0 ≤ vb) (ne_sx_vb : sx ≠ vb) (ne_t_vb : t ≠ vb) (Vb : Arv Z h0 vb kv .byte (16 : Int32) [(.int u0), (.int u1), (.int u2), (.int u3), (.int u4), (.int u5), (.int u6), (.int u7), (.int u8), (.int u9), (.int u10), (.int u11), (.int u12), (.int u13), (.int u14), (.int u15)] (.int (0 : Int32))) (E_sx : Exa Z h0 sx "java/lang/String") (Fv : Fld Z h0 sx "java/lang/String" "value" "[B" (.ref t)) (Fc : Fld Z h0 sx "java/lang/String" "coder" "B" (.int (0 : Int32))) (Vt : Arv Z h0 t kt .byte (0 : Int32) [] (.int (0 : Int32))) (O2 : Sta Z Z.heap "java/lang/String" "COMPACT_STRINGS" "Z" (.int G1)) (P5 : ¬ (G1 = (0 : Int32))) :
    own_MF l (⟨"java/lang/String", "getBytes", "([BIB)V"⟩ : MethodName) (Jvm.Cond.code (⟨"java/lang/String", "getBytes", "([BIB)V"⟩ : MethodName) jdk_42_method_147_code 4 none :: ws) ({ frames := 1, cells := 0, slots := 0, locals := 40 } : Room) #[(.ref sx), (.ref vb), (.int (1 : Int32)), (.int (0 : Int32))] Z h0 (own_QGB Z vb kv [(.int u0), (.int u1), (.int u2), (.int u3), (.int u4), (.int u5), (.int u6), (.int u7), (.int u8), (.int u9), (.int u10), (.int u11), (.int u12), (.int u13), (.int u14), (.int u15)] h0 n0) := by
  refine MetFree.of_bodySF (plainFor_of_name own_pn0) hisR ?_
  intro p e s m args below meth c s₁ Bd hml0 hP hK
  obtain ⟨rfl, hZ, hh⟩ := hP
  have hx := Bd.exec
  have hby := Bd.bytes
  have hlk : meth.locks = false := BodyLoose.notSynchronized Bd
  have hml : c.maxLocals = 4 := hml0
  have hown : s.vm.findClass "java/lang/String" = some m.cls := findClass_of_methodNamed Bd.named
  have hnm := (name_of_methodNamed Bd.named Bd.method).1
  have X0 : Stand p l e ({ frames := 1, cells := 0, slots := 0, locals := 40 } : Room) s m #[(.ref sx), (.ref vb), (.int (1 : Int32)), (.int (0 : Int32))] below meth c s₁ [] 0 0 := Stand.of_body Bd
  have e0 : s₁.heap = h0 := by rw [← hh, Bd.state]; rfl
  have N0 := Fr.nil n0
  have KP : Keep h0 h0 [vb] := Keep.refl _ _
  refine own_start (Fin := (own_Fin s (own_QGB Z vb kv [(.int u0), (.int u1), (.int u2), (.int u3), (.int u4), (.int u5), (.int u6), (.int u7), (.int u8), (.int u9), (.int u10), (.int u11), (.int u12), (.int u13), (.int u14), (.int u15)] h0 n0) ({ frames := 1, cells := 0, slots := 0, locals := 40 } : Room).cells ({ frames := 1, cells := 0, slots := 0, locals := 40 } : Room).slots)) (own_from (mkF m 0 #[rv sx, rv vb, iv 1, iv 0] []) (castTop (own_ef_GB_1_0 m sx vb (1 : Int32) (0 : Int32))) ?_)
  refine own_aln 1 X0 hx (hb hby own_d318) rfl rfl rfl ?_
  obtain ⟨cq128, kq128, q128a, q128b, q128c⟩ := isOf hZ e0 E_sx
  obtain ⟨_, T128, Lc128, X128, hQ128, st128⟩ := own_virtual X0 hx (y := (⟨"java/lang/String", "coder", "()B"⟩ : MethodName)) (z := (⟨"java/lang/String", "coder", "()B"⟩ : MethodName)) hown (mvT hZ (own_w hw 114 rfl)) (mvT hZ (own_w hw 115 rfl)) (notFace_of_selects (args := #[]) (mvT hZ (own_w hw 117 rfl))) (mvT hZ (own_w hw 117 rfl)) (mvT hZ (own_w hw 116 rfl)) (by decide) (backOf (W := 0) (own_rmCD_0 l Z a0 hw [] G1 sx h0 n0 (Nat.le_trans Z0 KP.1) OL Fc O2 P5) hZ (own_w hw 118 rfl) (own_w hw 10 rfl) (by decide) (by decide)) q128a q128c (g := (mkF m 1 #[rv sx, rv vb, iv 1, iv 0] [(.ref sx)])) rfl (by rw [hml]; rfl) (argsL := []) (rest := []) (lenOf own_pd3 rfl) rfl (by show 2 * 0 + _ ≤ _; exact Nat.le_of_eq rfl) (hb hby own_d319) rfl e0 (kc := 0) (ks := 0) rfl rfl (by decide) (by decide)
  obtain ⟨rfl, N128q, e128⟩ := hQ128
  have N128 := Fr.app N0 N128q
  refine own_via (mkF m 4 #[rv sx, rv vb, iv 1, iv 0] [(.int (0 : Int32))]) st128 ?_
  refine own_iln 5 X128 hx (hb hby own_d320) rfl rfl ?_
  refine own_icN 8 X128 hx (hb hby own_d321) (teq (by decide : (0 : Int32) = (0 : Int32))).2 rfl ?_
  refine own_aln 9 X128 hx (hb hby own_d322) rfl rfl rfl ?_
  obtain ⟨T129, X129, e129, st129⟩ := getF X128 hx hZ hown (host := "") (Or.inl (own_w hw 28 rfl)) Via.refl e128 Fv (g := (mkF m 9 #[rv sx, rv vb, iv 1, iv 0] [(.ref sx)])) rfl rfl (hb hby own_d323)
  refine own_to (mkF m 12 #[rv sx, rv vb, iv 1, iv 0] [(.ref t)]) st129 ?_
  refine own_ic 13 0 X129 hx (hb hby own_d324) rfl rfl ?_
  refine own_aln 14 X129 hx (hb hby own_d325) rfl rfl rfl ?_
  refine own_iln 15 X129 hx (hb hby own_d326) rfl rfl ?_
  refine own_iln 16 X129 hx (hb hby own_d327) rfl rfl ?_
  refine own_ishl 17 X129 hx (hb hby own_d328) (z := (1 : Int32)) rfl rfl ?_
  refine own_aln 18 X129 hx (hb hby own_d329) rfl rfl rfl ?_
  obtain ⟨T130, X130, e130, st130⟩ := getF X129 hx hZ hown (host := "") (Or.inl (own_w hw 28 rfl)) Via.refl e129 Fv (g := (mkF m 18 #[rv sx, rv vb, iv 1, iv 0] [(.ref sx), (.int (1 : Int32)), (.ref vb), (.int (0 : Int32)), (.ref t)])) rfl rfl (hb hby own_d330)
  refine own_to (mkF m 21 #[rv sx, rv vb, iv 1, iv 0] [(.ref t), (.int (1 : Int32)), (.ref vb), (.int (0 : Int32)), (.ref t)]) st130 ?_
  obtain ⟨cl131, Ar131, -, S131, M131, -, -⟩ := id Vt
  refine own_to (mkF m 22 #[rv sx, rv vb, iv 1, iv 0] [(.int (0 : Int32)), (.int (1 : Int32)), (.ref vb), (.int (0 : Int32)), (.ref t)]) (by have q := X130.arraylength hx (by rw [e130]; exact Ar131.1) (State.isArrayOf_alike hZ.alike Ar131.2.1) (g := (mkF m 21 #[rv sx, rv vb, iv 1, iv 0] [(.ref t), (.int (1 : Int32)), (.ref vb), (.int (0 : Int32)), (.ref t)])) rfl rfl (hb hby own_d331); rw [len_of S131 M131] at q; exact q) ?_
  obtain ⟨T132, h132, L132, X132, e132, N132, K132, A132, st132⟩ := cpA X130 hx hZ hown (own_w hw 136 rfl) (own_w hw 139 rfl) (own_w hw 137 rfl) (own_w hw 138 rfl) e130 Vt Vb (us := []) (Or.inl ⟨rfl, rfl⟩) (by decide) (by decide) (by decide) (by decide) (by decide) rfl (Nat.le_of_ble_eq_true rfl) N128 ge_vb (g := (mkF m 22 #[rv sx, rv vb, iv 1, iv 0] [(.int (0 : Int32)), (.int (1 : Int32)), (.ref vb), (.int (0 : Int32)), (.ref t)])) rfl (by rw [hml]; rfl) rfl (hb hby own_d332) (by decide) (W := 0) (by show 2 * 0 + _ ≤ _; exact Nat.le_of_eq rfl) (by decide)
  have OL := OL.keep K132 (allS ge_vb all0)
  have KP := KP.trans K132 (allS (Or.inl (List.mem_of_getElem? (i := 0) rfl)) all0)
  have E_sx := E_sx.keep K132
  have Fv := Fv.keep K132 (ninS ne_sx_vb nin0)
  have Fc := Fc.keep K132 (ninS ne_sx_vb nin0)
  have Vt := Vt.keep K132 (ninS ne_t_vb nin0)
  have Vb : Arv Z h132 vb kv .byte (16 : Int32) [(.int u0), (.int u1), (.int u2), (.int u3), (.int u4), (.int u5), (.int u6), (.int u7), (.int u8), (.int u9), (.int u10), (.int u11), (.int u12), (.int u13), (.int u14), (.int u15)] (.int (0 : Int32)) := A132
  refine own_to (mkF m 25 #[rv sx, rv vb, iv 1, iv 0] []) st132 ?_
  refine own_go 43 X132 hx (hb hby own_d333) (by decide) (by decide) ?_
  exact own_ret0 X132 hx Bd.returns hlk (hb hby own_d334) (by decide) (by decide) (by rw [e132]; exact ⟨rfl, N132, KP, Vb⟩)
set_option maxRecDepth 65536 in
set_option maxHeartbeats 40000000 in
theorem own_rmGB_1_1 (l : Launch) (Z : State) (a0 : Array Value) (hw : ∀ d ∈ tables_1, d.before a0 Z = true) (ws : List Jvm.Cond) (G1 : Int32) (vb : Addr) (kv : ClassId) (sx t : Addr) (kt : ClassId) (u0 u1 u2 u3 u4 u5 u6 u7 u8 u9 u10 u11 u12 u13 u14 u15 : Int32) (s0 : Int32) (h0 : Heap) (n0 : Nat) (Z0 : n0 ≤ h0.size) (OL : Old Z n0 h0) (ge_vb : n0 ≤ vb) (ne_sx_vb : sx ≠ vb) (ne_t_vb : t ≠ vb) (Vb : Arv Z h0 vb kv .byte (16 : Int32) [(.int u0), (.int u1), (.int u2), (.int u3), (.int u4), (.int u5), (.int u6), (.int u7), (.int u8), (.int u9), (.int u10), (.int u11), (.int u12), (.int u13), (.int u14), (.int u15)] (.int (0 : Int32))) (E_sx : Exa Z h0 sx "java/lang/String") (Fv : Fld Z h0 sx "java/lang/String" "value" "[B" (.ref t)) (Fc : Fld Z h0 sx "java/lang/String" "coder" "B" (.int (0 : Int32))) (Vt : Arv Z h0 t kt .byte (1 : Int32) [(.int s0)] (.int (0 : Int32))) (O2 : Sta Z Z.heap "java/lang/String" "COMPACT_STRINGS" "Z" (.int G1)) (P5 : ¬ (G1 = (0 : Int32))) :
    own_MF l (⟨"java/lang/String", "getBytes", "([BIB)V"⟩ : MethodName) (Jvm.Cond.code (⟨"java/lang/String", "getBytes", "([BIB)V"⟩ : MethodName) jdk_42_method_147_code 4 none :: ws) ({ frames := 1, cells := 0, slots := 0, locals := 40 } : Room) #[(.ref sx), (.ref vb), (.int (1 : Int32)), (.int (0 : Int32))] Z h0 (own_QGB Z vb kv [(.int u0), (.int s0), (.int u2), (.int u3), (.int u4), (.int u5), (.int u6), (.int u7), (.int u8), (.int u9), (.int u10), (.int u11), (.int u12), (.int u13), (.int u14), (.int u15)] h0 n0) := by
  refine MetFree.of_bodySF (plainFor_of_name own_pn0) hisR ?_
  intro p e s m args below meth c s₁ Bd hml0 hP hK
  obtain ⟨rfl, hZ, hh⟩ := hP
  have hx := Bd.exec
  have hby := Bd.bytes
  have hlk : meth.locks = false := BodyLoose.notSynchronized Bd
  have hml : c.maxLocals = 4 := hml0
  have hown : s.vm.findClass "java/lang/String" = some m.cls := findClass_of_methodNamed Bd.named
  have hnm := (name_of_methodNamed Bd.named Bd.method).1
  have X0 : Stand p l e ({ frames := 1, cells := 0, slots := 0, locals := 40 } : Room) s m #[(.ref sx), (.ref vb), (.int (1 : Int32)), (.int (0 : Int32))] below meth c s₁ [] 0 0 := Stand.of_body Bd
  have e0 : s₁.heap = h0 := by rw [← hh, Bd.state]; rfl
  have N0 := Fr.nil n0
  have KP : Keep h0 h0 [vb] := Keep.refl _ _
  refine own_start (Fin := (own_Fin s (own_QGB Z vb kv [(.int u0), (.int s0), (.int u2), (.int u3), (.int u4), (.int u5), (.int u6), (.int u7), (.int u8), (.int u9), (.int u10), (.int u11), (.int u12), (.int u13), (.int u14), (.int u15)] h0 n0) ({ frames := 1, cells := 0, slots := 0, locals := 40 } : Room).cells ({ frames := 1, cells := 0, slots := 0, locals := 40 } : Room).slots)) (own_from (mkF m 0 #[rv sx, rv vb, iv 1, iv 0] []) (castTop (own_ef_GB_1_1 m sx vb (1 : Int32) (0 : Int32))) ?_)
  refine own_aln 1 X0 hx (hb hby own_d318) rfl rfl rfl ?_
  obtain ⟨cq133, kq133, q133a, q133b, q133c⟩ := isOf hZ e0 E_sx
  obtain ⟨_, T133, Lc133, X133, hQ133, st133⟩ := own_virtual X0 hx (y := (⟨"java/lang/String", "coder", "()B"⟩ : MethodName)) (z := (⟨"java/lang/String", "coder", "()B"⟩ : MethodName)) hown (mvT hZ (own_w hw 114 rfl)) (mvT hZ (own_w hw 115 rfl)) (notFace_of_selects (args := #[]) (mvT hZ (own_w hw 117 rfl))) (mvT hZ (own_w hw 117 rfl)) (mvT hZ (own_w hw 116 rfl)) (by decide) (backOf (W := 0) (own_rmCD_0 l Z a0 hw [] G1 sx h0 n0 (Nat.le_trans Z0 KP.1) OL Fc O2 P5) hZ (own_w hw 118 rfl) (own_w hw 10 rfl) (by decide) (by decide)) q133a q133c (g := (mkF m 1 #[rv sx, rv vb, iv 1, iv 0] [(.ref sx)])) rfl (by rw [hml]; rfl) (argsL := []) (rest := []) (lenOf own_pd3 rfl) rfl (by show 2 * 0 + _ ≤ _; exact Nat.le_of_eq rfl) (hb hby own_d319) rfl e0 (kc := 0) (ks := 0) rfl rfl (by decide) (by decide)
  obtain ⟨rfl, N133q, e133⟩ := hQ133
  have N133 := Fr.app N0 N133q
  refine own_via (mkF m 4 #[rv sx, rv vb, iv 1, iv 0] [(.int (0 : Int32))]) st133 ?_
  refine own_iln 5 X133 hx (hb hby own_d320) rfl rfl ?_
  refine own_icN 8 X133 hx (hb hby own_d321) (teq (by decide : (0 : Int32) = (0 : Int32))).2 rfl ?_
  refine own_aln 9 X133 hx (hb hby own_d322) rfl rfl rfl ?_
  obtain ⟨T134, X134, e134, st134⟩ := getF X133 hx hZ hown (host := "") (Or.inl (own_w hw 28 rfl)) Via.refl e133 Fv (g := (mkF m 9 #[rv sx, rv vb, iv 1, iv 0] [(.ref sx)])) rfl rfl (hb hby own_d323)
  refine own_to (mkF m 12 #[rv sx, rv vb, iv 1, iv 0] [(.ref t)]) st134 ?_
  refine own_ic 13 0 X134 hx (hb hby own_d324) rfl rfl ?_
  refine own_aln 14 X134 hx (hb hby own_d325) rfl rfl rfl ?_
  refine own_iln 15 X134 hx (hb hby own_d326) rfl rfl ?_
  refine own_iln 16 X134 hx (hb hby own_d327) rfl rfl ?_
  refine own_ishl 17 X134 hx (hb hby own_d328) (z := (1 : Int32)) rfl rfl ?_
  refine own_aln 18 X134 hx (hb hby own_d329) rfl rfl rfl ?_
  obtain ⟨T135, X135, e135, st135⟩ := getF X134 hx hZ hown (host := "") (Or.inl (own_w hw 28 rfl)) Via.refl e134 Fv (g := (mkF m 18 #[rv sx, rv vb, iv 1, iv 0] [(.ref sx), (.int (1 : Int32)), (.ref vb), (.int (0 : Int32)), (.ref t)])) rfl rfl (hb hby own_d330)
  refine own_to (mkF m 21 #[rv sx, rv vb, iv 1, iv 0] [(.ref t), (.int (1 : Int32)), (.ref vb), (.int (0 : Int32)), (.ref t)]) st135 ?_
  obtain ⟨cl136, Ar136, -, S136, M136, -, -⟩ := id Vt
  refine own_to (mkF m 22 #[rv sx, rv vb, iv 1, iv 0] [(.int (1 : Int32)), (.int (1 : Int32)), (.ref vb), (.int (0 : Int32)), (.ref t)]) (by have q := X135.arraylength hx (by rw [e135]; exact Ar136.1) (State.isArrayOf_alike hZ.alike Ar136.2.1) (g := (mkF m 21 #[rv sx, rv vb, iv 1, iv 0] [(.ref t), (.int (1 : Int32)), (.ref vb), (.int (0 : Int32)), (.ref t)])) rfl rfl (hb hby own_d331); rw [len_of S136 M136] at q; exact q) ?_
  obtain ⟨T137, h137, L137, X137, e137, N137, K137, A137, st137⟩ := cpA X135 hx hZ hown (own_w hw 136 rfl) (own_w hw 139 rfl) (own_w hw 137 rfl) (own_w hw 138 rfl) e135 Vt Vb (us := [(.int s0)]) (Or.inl ⟨rfl, rfl⟩) (by decide) (by decide) (by decide) (by decide) (by decide) rfl (Nat.le_of_ble_eq_true rfl) N133 ge_vb (g := (mkF m 22 #[rv sx, rv vb, iv 1, iv 0] [(.int (1 : Int32)), (.int (1 : Int32)), (.ref vb), (.int (0 : Int32)), (.ref t)])) rfl (by rw [hml]; rfl) rfl (hb hby own_d332) (by decide) (W := 0) (by show 2 * 0 + _ ≤ _; exact Nat.le_of_eq rfl) (by decide)
  have OL := OL.keep K137 (allS ge_vb all0)
  have KP := KP.trans K137 (allS (Or.inl (List.mem_of_getElem? (i := 0) rfl)) all0)
  have E_sx := E_sx.keep K137
  have Fv := Fv.keep K137 (ninS ne_sx_vb nin0)
  have Fc := Fc.keep K137 (ninS ne_sx_vb nin0)
  have Vt := Vt.keep K137 (ninS ne_t_vb nin0)
  have Vb : Arv Z h137 vb kv .byte (16 : Int32) [(.int u0), (.int s0), (.int u2), (.int u3), (.int u4), (.int u5), (.int u6), (.int u7), (.int u8), (.int u9), (.int u10), (.int u11), (.int u12), (.int u13), (.int u14), (.int u15)] (.int (0 : Int32)) := A137
  refine own_to (mkF m 25 #[rv sx, rv vb, iv 1, iv 0] []) st137 ?_
  refine own_go 43 X137 hx (hb hby own_d333) (by decide) (by decide) ?_
  exact own_ret0 X137 hx Bd.returns hlk (hb hby own_d334) (by decide) (by decide) (by rw [e137]; exact ⟨rfl, N137, KP, Vb⟩)
set_option maxRecDepth 65536 in
set_option maxHeartbeats 40000000 in
theorem own_rmGB_1_2 (l : Launch) (Z : State) (a0 : Array Value) (hw : ∀ d ∈ tables_1, d.before a0 Z = true) (ws : List Jvm.Cond) (G1 : Int32) (vb : Addr) (kv : ClassId) (sx t : Addr) (kt : ClassId) (u0 u1 u2 u3 u4 u5 u6 u7 u8 u9 u10 u11 u12 u13 u14 u15 : Int32) (s0 s1 : Int32) (h0 : Heap) (n0 : Nat) (Z0 : n0 ≤ h0.size) (OL : Old Z n0 h0) (ge_vb : n0 ≤ vb) (ne_sx_vb : sx ≠ vb) (ne_t_vb : t ≠ vb) (Vb : Arv Z h0 vb kv .byte (16 : Int32) [(.int u0), (.int u1), (.int u2), (.int u3), (.int u4), (.int u5), (.int u6), (.int u7), (.int u8), (.int u9), (.int u10), (.int u11), (.int u12), (.int u13), (.int u14), (.int u15)] (.int (0 : Int32))) (E_sx : Exa Z h0 sx "java/lang/String") (Fv : Fld Z h0 sx "java/lang/String" "value" "[B" (.ref t)) (Fc : Fld Z h0 sx "java/lang/String" "coder" "B" (.int (0 : Int32))) (Vt : Arv Z h0 t kt .byte (2 : Int32) [(.int s0), (.int s1)] (.int (0 : Int32))) (O2 : Sta Z Z.heap "java/lang/String" "COMPACT_STRINGS" "Z" (.int G1)) (P5 : ¬ (G1 = (0 : Int32))) :
    own_MF l (⟨"java/lang/String", "getBytes", "([BIB)V"⟩ : MethodName) (Jvm.Cond.code (⟨"java/lang/String", "getBytes", "([BIB)V"⟩ : MethodName) jdk_42_method_147_code 4 none :: ws) ({ frames := 1, cells := 0, slots := 0, locals := 40 } : Room) #[(.ref sx), (.ref vb), (.int (1 : Int32)), (.int (0 : Int32))] Z h0 (own_QGB Z vb kv [(.int u0), (.int s0), (.int s1), (.int u3), (.int u4), (.int u5), (.int u6), (.int u7), (.int u8), (.int u9), (.int u10), (.int u11), (.int u12), (.int u13), (.int u14), (.int u15)] h0 n0) := by
  refine MetFree.of_bodySF (plainFor_of_name own_pn0) hisR ?_
  intro p e s m args below meth c s₁ Bd hml0 hP hK
  obtain ⟨rfl, hZ, hh⟩ := hP
  have hx := Bd.exec
  have hby := Bd.bytes
  have hlk : meth.locks = false := BodyLoose.notSynchronized Bd
  have hml : c.maxLocals = 4 := hml0
  have hown : s.vm.findClass "java/lang/String" = some m.cls := findClass_of_methodNamed Bd.named
  have hnm := (name_of_methodNamed Bd.named Bd.method).1
  have X0 : Stand p l e ({ frames := 1, cells := 0, slots := 0, locals := 40 } : Room) s m #[(.ref sx), (.ref vb), (.int (1 : Int32)), (.int (0 : Int32))] below meth c s₁ [] 0 0 := Stand.of_body Bd
  have e0 : s₁.heap = h0 := by rw [← hh, Bd.state]; rfl
  have N0 := Fr.nil n0
  have KP : Keep h0 h0 [vb] := Keep.refl _ _
  refine own_start (Fin := (own_Fin s (own_QGB Z vb kv [(.int u0), (.int s0), (.int s1), (.int u3), (.int u4), (.int u5), (.int u6), (.int u7), (.int u8), (.int u9), (.int u10), (.int u11), (.int u12), (.int u13), (.int u14), (.int u15)] h0 n0) ({ frames := 1, cells := 0, slots := 0, locals := 40 } : Room).cells ({ frames := 1, cells := 0, slots := 0, locals := 40 } : Room).slots)) (own_from (mkF m 0 #[rv sx, rv vb, iv 1, iv 0] []) (castTop (own_ef_GB_1_2 m sx vb (1 : Int32) (0 : Int32))) ?_)
  refine own_aln 1 X0 hx (hb hby own_d318) rfl rfl rfl ?_
  obtain ⟨cq138, kq138, q138a, q138b, q138c⟩ := isOf hZ e0 E_sx
  obtain ⟨_, T138, Lc138, X138, hQ138, st138⟩ := own_virtual X0 hx (y := (⟨"java/lang/String", "coder", "()B"⟩ : MethodName)) (z := (⟨"java/lang/String", "coder", "()B"⟩ : MethodName)) hown (mvT hZ (own_w hw 114 rfl)) (mvT hZ (own_w hw 115 rfl)) (notFace_of_selects (args := #[]) (mvT hZ (own_w hw 117 rfl))) (mvT hZ (own_w hw 117 rfl)) (mvT hZ (own_w hw 116 rfl)) (by decide) (backOf (W := 0) (own_rmCD_0 l Z a0 hw [] G1 sx h0 n0 (Nat.le_trans Z0 KP.1) OL Fc O2 P5) hZ (own_w hw 118 rfl) (own_w hw 10 rfl) (by decide) (by decide)) q138a q138c (g := (mkF m 1 #[rv sx, rv vb, iv 1, iv 0] [(.ref sx)])) rfl (by rw [hml]; rfl) (argsL := []) (rest := []) (lenOf own_pd3 rfl) rfl (by show 2 * 0 + _ ≤ _; exact Nat.le_of_eq rfl) (hb hby own_d319) rfl e0 (kc := 0) (ks := 0) rfl rfl (by decide) (by decide)
  obtain ⟨rfl, N138q, e138⟩ := hQ138
  have N138 := Fr.app N0 N138q
  refine own_via (mkF m 4 #[rv sx, rv vb, iv 1, iv 0] [(.int (0 : Int32))]) st138 ?_
  refine own_iln 5 X138 hx (hb hby own_d320) rfl rfl ?_
  refine own_icN 8 X138 hx (hb hby own_d321) (teq (by decide : (0 : Int32) = (0 : Int32))).2 rfl ?_
  refine own_aln 9 X138 hx (hb hby own_d322) rfl rfl rfl ?_
  obtain ⟨T139, X139, e139, st139⟩ := getF X138 hx hZ hown (host := "") (Or.inl (own_w hw 28 rfl)) Via.refl e138 Fv (g := (mkF m 9 #[rv sx, rv vb, iv 1, iv 0] [(.ref sx)])) rfl rfl (hb hby own_d323)
  refine own_to (mkF m 12 #[rv sx, rv vb, iv 1, iv 0] [(.ref t)]) st139 ?_
  refine own_ic 13 0 X139 hx (hb hby own_d324) rfl rfl ?_
  refine own_aln 14 X139 hx (hb hby own_d325) rfl rfl rfl ?_
  refine own_iln 15 X139 hx (hb hby own_d326) rfl rfl ?_
  refine own_iln 16 X139 hx (hb hby own_d327) rfl rfl ?_
  refine own_ishl 17 X139 hx (hb hby own_d328) (z := (1 : Int32)) rfl rfl ?_
  refine own_aln 18 X139 hx (hb hby own_d329) rfl rfl rfl ?_
  obtain ⟨T140, X140, e140, st140⟩ := getF X139 hx hZ hown (host := "") (Or.inl (own_w hw 28 rfl)) Via.refl e139 Fv (g := (mkF m 18 #[rv sx, rv vb, iv 1, iv 0] [(.ref sx), (.int (1 : Int32)), (.ref vb), (.int (0 : Int32)), (.ref t)])) rfl rfl (hb hby own_d330)
  refine own_to (mkF m 21 #[rv sx, rv vb, iv 1, iv 0] [(.ref t), (.int (1 : Int32)), (.ref vb), (.int (0 : Int32)), (.ref t)]) st140 ?_
  obtain ⟨cl141, Ar141, -, S141, M141, -, -⟩ := id Vt
  refine own_to (mkF m 22 #[rv sx, rv vb, iv 1, iv 0] [(.int (2 : Int32)), (.int (1 : Int32)), (.ref vb), (.int (0 : Int32)), (.ref t)]) (by have q := X140.arraylength hx (by rw [e140]; exact Ar141.1) (State.isArrayOf_alike hZ.alike Ar141.2.1) (g := (mkF m 21 #[rv sx, rv vb, iv 1, iv 0] [(.ref t), (.int (1 : Int32)), (.ref vb), (.int (0 : Int32)), (.ref t)])) rfl rfl (hb hby own_d331); rw [len_of S141 M141] at q; exact q) ?_
  obtain ⟨T142, h142, L142, X142, e142, N142, K142, A142, st142⟩ := cpA X140 hx hZ hown (own_w hw 136 rfl) (own_w hw 139 rfl) (own_w hw 137 rfl) (own_w hw 138 rfl) e140 Vt Vb (us := [(.int s0), (.int s1)]) (Or.inl ⟨rfl, rfl⟩) (by decide) (by decide) (by decide) (by decide) (by decide) rfl (Nat.le_of_ble_eq_true rfl) N138 ge_vb (g := (mkF m 22 #[rv sx, rv vb, iv 1, iv 0] [(.int (2 : Int32)), (.int (1 : Int32)), (.ref vb), (.int (0 : Int32)), (.ref t)])) rfl (by rw [hml]; rfl) rfl (hb hby own_d332) (by decide) (W := 0) (by show 2 * 0 + _ ≤ _; exact Nat.le_of_eq rfl) (by decide)
  have OL := OL.keep K142 (allS ge_vb all0)
  have KP := KP.trans K142 (allS (Or.inl (List.mem_of_getElem? (i := 0) rfl)) all0)
  have E_sx := E_sx.keep K142
  have Fv := Fv.keep K142 (ninS ne_sx_vb nin0)
  have Fc := Fc.keep K142 (ninS ne_sx_vb nin0)
  have Vt := Vt.keep K142 (ninS ne_t_vb nin0)
  have Vb : Arv Z h142 vb kv .byte (16 : Int32) [(.int u0), (.int s0), (.int s1), (.int u3), (.int u4), (.int u5), (.int u6), (.int u7), (.int u8), (.int u9), (.int u10), (.int u11), (.int u12), (.int u13), (.int u14), (.int u15)] (.int (0 : Int32)) := A142
  refine own_to (mkF m 25 #[rv sx, rv vb, iv 1, iv 0] []) st142 ?_
  refine own_go 43 X142 hx (hb hby own_d333) (by decide) (by decide) ?_
  exact own_ret0 X142 hx Bd.returns hlk (hb hby own_d334) (by decide) (by decide) (by rw [e142]; exact ⟨rfl, N142, KP, Vb⟩)
def own_QLX (Z : State) (G1 : Int32) (sx t : Addr) (kt : ClassId) (mm : Int32) (ss : List Value) (h0 : Heap) (n0 : Nat) (v : Option Value) (h : Heap) (L : List Loc) : Prop := v = some (.int mm) ∧ Fr n0 L ∧ h = h0
set_option maxRecDepth 65536 in
set_option maxHeartbeats 40000000 in
theorem own_rmLX (l : Launch) (Z : State) (a0 : Array Value) (hw : ∀ d ∈ tables_1, d.before a0 Z = true) (ws : List Jvm.Cond) (G1 : Int32) (sx t : Addr) (kt : ClassId) (mm : Int32) (ss : List Value) (h0 : Heap) (n0 : Nat) (Z0 : n0 ≤ h0.size) (OL : Old Z n0 h0) (E_sx : Exa Z h0 sx "java/lang/String") (Fv : Fld Z h0 sx "java/lang/String" "value" "[B" (.ref t)) (Fc : Fld Z h0 sx "java/lang/String" "coder" "B" (.int (0 : Int32))) (Vt : Arv Z h0 t kt .byte mm ss (.int (0 : Int32))) (O2 : Sta Z Z.heap "java/lang/String" "COMPACT_STRINGS" "Z" (.int G1)) (P5 : ¬ (G1 = (0 : Int32))) :
    own_MF l (⟨"java/lang/String", "length", "()I"⟩ : MethodName) (Jvm.Cond.code (⟨"java/lang/String", "length", "()I"⟩ : MethodName) jdk_42_method_54_code 1 (some .int) :: ws) ({ frames := 1, cells := 0, slots := 0, locals := 20 } : Room) #[(.ref sx)] Z h0 (own_QLX Z G1 sx t kt mm ss h0 n0) := by
  refine MetFree.of_bodySF (plainFor_of_name own_pn0) hisR ?_
  intro p e s m args below meth c s₁ Bd hml0 hP hK
  obtain ⟨rfl, hZ, hh⟩ := hP
  have hx := Bd.exec
  have hby := Bd.bytes
  have hlk : meth.locks = false := BodyLoose.notSynchronized Bd
  have hml : c.maxLocals = 1 := hml0
  have hown : s.vm.findClass "java/lang/String" = some m.cls := findClass_of_methodNamed Bd.named
  have hnm := (name_of_methodNamed Bd.named Bd.method).1
  have X0 : Stand p l e ({ frames := 1, cells := 0, slots := 0, locals := 20 } : Room) s m #[(.ref sx)] below meth c s₁ [] 0 0 := Stand.of_body Bd
  have e0 : s₁.heap = h0 := by rw [← hh, Bd.state]; rfl
  have N0 := Fr.nil n0
  have KP : Keep h0 h0 [] := Keep.refl _ _
  refine own_start (Fin := (own_Fin s (own_QLX Z G1 sx t kt mm ss h0 n0) ({ frames := 1, cells := 0, slots := 0, locals := 20 } : Room).cells ({ frames := 1, cells := 0, slots := 0, locals := 20 } : Room).slots)) (own_from (mkF m 0 #[rv sx] []) (castTop (own_ef_LX m sx)) ?_)
  refine own_aln 1 X0 hx (hb hby own_d335) rfl rfl rfl ?_
  obtain ⟨T143, X143, e143, st143⟩ := getF X0 hx hZ hown (host := "") (Or.inl (own_w hw 28 rfl)) Via.refl e0 Fv (g := (mkF m 1 #[rv sx] [(.ref sx)])) rfl rfl (hb hby own_d336)
  refine own_to (mkF m 4 #[rv sx] [(.ref t)]) st143 ?_
  obtain ⟨cl144, Ar144, -, S144, M144, -, -⟩ := id Vt
  refine own_to (mkF m 5 #[rv sx] [(.int mm)]) (by have q := X143.arraylength hx (by rw [e143]; exact Ar144.1) (State.isArrayOf_alike hZ.alike Ar144.2.1) (g := (mkF m 4 #[rv sx] [(.ref t)])) rfl rfl (hb hby own_d337); rw [len_of S144 M144] at q; exact q) ?_
  refine own_aln 6 X143 hx (hb hby own_d338) rfl rfl rfl ?_
  obtain ⟨cq145, kq145, q145a, q145b, q145c⟩ := isOf hZ e143 E_sx
  obtain ⟨_, T145, Lc145, X145, hQ145, st145⟩ := own_virtual X143 hx (y := (⟨"java/lang/String", "coder", "()B"⟩ : MethodName)) (z := (⟨"java/lang/String", "coder", "()B"⟩ : MethodName)) hown (mvT hZ (own_w hw 114 rfl)) (mvT hZ (own_w hw 115 rfl)) (notFace_of_selects (args := #[]) (mvT hZ (own_w hw 117 rfl))) (mvT hZ (own_w hw 117 rfl)) (mvT hZ (own_w hw 116 rfl)) (by decide) (backOf (W := 1) (own_rmCD_0 l Z a0 hw [] G1 sx h0 n0 (Nat.le_trans Z0 KP.1) OL Fc O2 P5) hZ (own_w hw 118 rfl) (own_w hw 10 rfl) (by decide) (by decide)) q145a q145c (g := (mkF m 6 #[rv sx] [(.ref sx), (.int mm)])) rfl (by rw [hml]; rfl) (argsL := []) (rest := [(.int mm)]) (lenOf own_pd3 rfl) rfl (by show 2 * 0 + _ ≤ _; exact Nat.le_of_eq rfl) (hb hby own_d339) rfl e143 (kc := 0) (ks := 0) rfl rfl (by decide) (by decide)
  obtain ⟨rfl, N145q, e145⟩ := hQ145
  have N145 := Fr.app N0 N145q
  refine own_via (mkF m 9 #[rv sx] [(.int (0 : Int32)), (.int mm)]) st145 ?_
  refine own_ishr 10 X145 hx (hb hby own_d340) rfl rfl ?_
  exact own_retI X145 hx Bd.returns hlk (hb hby own_d341) (by decide) (by decide) (by rw [e145]; exact ⟨by rw [own_shr0], N145, rfl⟩)
set_option maxRecDepth 65536 in
set_option maxHeartbeats 40000000 in
theorem own_rmPS (l : Launch) (Z : State) (a0 : Array Value) (hw : ∀ d ∈ tables_1, d.before a0 Z = true) (ws : List Jvm.Cond) (G1 : Int32) (sb sx : Addr) (kk : Int32) (vb : Addr) (kv : ClassId) (us' : List Value) (h0 : Heap) (n0 : Nat) (Z0 : n0 ≤ h0.size) (OL : Old Z n0 h0) (E_sb : Exa Z h0 sb "java/lang/StringBuilder") (FV : Fld Z h0 sb "java/lang/AbstractStringBuilder" "value" "[B" (.ref vb)) (FC : Fld Z h0 sb "java/lang/AbstractStringBuilder" "coder" "B" (.int (0 : Int32))) (E_sx : Exa Z h0 sx "java/lang/String") (Fc : Fld Z h0 sx "java/lang/String" "coder" "B" (.int (0 : Int32))) (ge_vb : n0 ≤ vb) (ne_sb_vb : sb ≠ vb) (ne_sx_vb : sx ≠ vb) (O2 : Sta Z Z.heap "java/lang/String" "COMPACT_STRINGS" "Z" (.int G1)) (P5 : ¬ (G1 = (0 : Int32))) (hGB : own_MF l (⟨"java/lang/String", "getBytes", "([BIB)V"⟩ : MethodName) [Jvm.Cond.code (⟨"java/lang/String", "getBytes", "([BIB)V"⟩ : MethodName) jdk_42_method_147_code 4 none] ({ frames := 1, cells := 0, slots := 0, locals := 40 } : Room) #[(.ref sx), (.ref vb), (.int kk), (.int (0 : Int32))] Z h0 (own_QGB Z vb kv us' h0 n0)) :
    own_MF l (⟨"java/lang/AbstractStringBuilder", "putStringAt", "(ILjava/lang/String;)V"⟩ : MethodName) (Jvm.Cond.code (⟨"java/lang/AbstractStringBuilder", "putStringAt", "(ILjava/lang/String;)V"⟩ : MethodName) jdk_68_method_73_code 3 none :: ws) ({ frames := 2, cells := 0, slots := 0, locals := 60 } : Room) #[(.ref sb), (.int kk), (.ref sx)] Z h0 (own_QGB Z vb kv us' h0 n0) := by
  refine MetFree.of_bodySF (plainFor_of_name own_pn3) hisR ?_
  intro p e s m args below meth c s₁ Bd hml0 hP hK
  obtain ⟨rfl, hZ, hh⟩ := hP
  have hx := Bd.exec
  have hby := Bd.bytes
  have hlk : meth.locks = false := BodyLoose.notSynchronized Bd
  have hml : c.maxLocals = 3 := hml0
  have hown : s.vm.findClass "java/lang/AbstractStringBuilder" = some m.cls := findClass_of_methodNamed Bd.named
  have hnm := (name_of_methodNamed Bd.named Bd.method).1
  have X0 : Stand p l e ({ frames := 2, cells := 0, slots := 0, locals := 60 } : Room) s m #[(.ref sb), (.int kk), (.ref sx)] below meth c s₁ [] 0 0 := Stand.of_body Bd
  have e0 : s₁.heap = h0 := by rw [← hh, Bd.state]; rfl
  have N0 := Fr.nil n0
  have KP : Keep h0 h0 [vb] := Keep.refl _ _
  refine own_start (Fin := (own_Fin s (own_QGB Z vb kv us' h0 n0) ({ frames := 2, cells := 0, slots := 0, locals := 60 } : Room).cells ({ frames := 2, cells := 0, slots := 0, locals := 60 } : Room).slots)) (own_from (mkF m 0 #[rv sb, iv kk, rv sx] []) (castTop (own_ef_PS m sb kk sx)) ?_)
  refine own_aln 1 X0 hx (hb hby own_d342) rfl rfl rfl ?_
  refine own_aln 2 X0 hx (hb hby own_d343) rfl rfl rfl ?_
  obtain ⟨_, T146, Lc146, X146, hQ146, st146⟩ := own_priv X0 hx (y := (⟨"java/lang/AbstractStringBuilder", "inflateIfNeededFor", "(Ljava/lang/String;)V"⟩ : MethodName)) hown (mvT hZ (own_w hw 125 rfl)) (mvT hZ (own_w hw 126 rfl)) (mvT hZ (own_w hw 128 rfl)) (mvP hZ (own_w hw 127 rfl)) (mvT hZ (own_w hw 129 rfl)) (by decide) (backOf (W := 0) (own_rmIF l Z a0 hw [] G1 sb sx h0 n0 (Nat.le_trans Z0 KP.1) OL FC E_sx Fc O2 P5) hZ (own_w hw 129 rfl) (own_w hw 66 rfl) (by decide) (by decide)) (Exa.cell E_sb) (g := (mkF m 2 #[rv sb, iv kk, rv sx] [(.ref sx), (.ref sb)])) rfl (by rw [hml]; rfl) (argsL := [(.ref sx)]) (rest := []) (lenOf own_pd5 rfl) rfl (by show 2 * 0 + _ ≤ _; exact Nat.le_of_eq rfl) (hb hby own_d344) rfl e0 (kc := 0) (ks := 0) rfl rfl (by decide) (by decide)
  obtain ⟨rfl, N146q, e146⟩ := hQ146
  have N146 := Fr.app N0 N146q
  refine own_via (mkF m 5 #[rv sb, iv kk, rv sx] []) st146 ?_
  refine own_aln 6 X146 hx (hb hby own_d345) rfl rfl rfl ?_
  refine own_aln 7 X146 hx (hb hby own_d346) rfl rfl rfl ?_
  obtain ⟨T147, X147, e147, st147⟩ := getF X146 hx hZ hown (host := "") (Or.inl (own_w hw 70 rfl)) Via.refl e146 FV (g := (mkF m 7 #[rv sb, iv kk, rv sx] [(.ref sb), (.ref sx)])) rfl rfl (hb hby own_d347)
  refine own_to (mkF m 10 #[rv sb, iv kk, rv sx] [(.ref vb), (.ref sx)]) st147 ?_
  refine own_iln 11 X147 hx (hb hby own_d348) rfl rfl ?_
  refine own_aln 12 X147 hx (hb hby own_d349) rfl rfl rfl ?_
  obtain ⟨T148, X148, e148, st148⟩ := getF X147 hx hZ hown (host := "") (Or.inl (own_w hw 72 rfl)) Via.refl e147 FC (g := (mkF m 12 #[rv sb, iv kk, rv sx] [(.ref sb), (.int kk), (.ref vb), (.ref sx)])) rfl rfl (hb hby own_d350)
  refine own_to (mkF m 15 #[rv sb, iv kk, rv sx] [(.int (0 : Int32)), (.int kk), (.ref vb), (.ref sx)]) st148 ?_
  obtain ⟨cq149, kq149, q149a, q149b, q149c⟩ := isOf hZ e148 E_sx
  obtain ⟨_, T149, Lc149, X149, hQ149, st149⟩ := own_virtual X148 hx (y := (⟨"java/lang/String", "getBytes", "([BIB)V"⟩ : MethodName)) (z := (⟨"java/lang/String", "getBytes", "([BIB)V"⟩ : MethodName)) hown (mvT hZ (own_w hw 131 rfl)) (mvT hZ (own_w hw 132 rfl)) (notFace_of_selects (args := #[]) (mvT hZ (own_w hw 134 rfl))) (mvT hZ (own_w hw 134 rfl)) (mvT hZ (own_w hw 133 rfl)) (by decide) (backOf (W := 0) hGB hZ (own_w hw 135 rfl) (own_w hw 10 rfl) (by decide) (by decide)) q149a q149c (g := (mkF m 15 #[rv sb, iv kk, rv sx] [(.int (0 : Int32)), (.int kk), (.ref vb), (.ref sx)])) rfl (by rw [hml]; rfl) (argsL := [(.ref vb), (.int kk), (.int (0 : Int32))]) (rest := []) (lenOf own_pd6 rfl) rfl (by show 2 * 0 + _ ≤ _; exact Nat.le_of_eq rfl) (hb hby own_d351) rfl e148 (kc := 0) (ks := 0) rfl rfl (by decide) (by decide)
  obtain ⟨rfl, N149q, K149, VB149⟩ := hQ149
  have N149 := Fr.app N146 N149q
  have OL := OL.keep K149 (allS ge_vb all0)
  have KP := KP.trans K149 (allS (Or.inl (List.mem_of_getElem? (i := 0) rfl)) all0)
  have E_sb := E_sb.keep K149
  have FV := FV.keep K149 (ninS ne_sb_vb nin0)
  have FC := FC.keep K149 (ninS ne_sb_vb nin0)
  have E_sx := E_sx.keep K149
  have Fc := Fc.keep K149 (ninS ne_sx_vb nin0)
  refine own_via (mkF m 18 #[rv sb, iv kk, rv sx] []) st149 ?_
  exact own_ret0 X149 hx Bd.returns hlk (hb hby own_d352) (by decide) (by decide) (by exact ⟨rfl, N149, KP, VB149⟩)
set_option maxRecDepth 65536 in
set_option maxHeartbeats 40000000 in
theorem own_rmAS (l : Launch) (Z : State) (a0 : Array Value) (hw : ∀ d ∈ tables_1, d.before a0 Z = true) (ws : List Jvm.Cond) (G1 : Int32) (sb sx t : Addr) (kt : ClassId) (kk mm : Int32) (ss us : List Value) (vb : Addr) (kv : ClassId) (us' : List Value) (h0 : Heap) (n0 : Nat) (Z0 : n0 ≤ h0.size) (OL : Old Z n0 h0) (ge_sb : n0 ≤ sb) (E_sb : Exa Z h0 sb "java/lang/StringBuilder") (FV : Fld Z h0 sb "java/lang/AbstractStringBuilder" "value" "[B" (.ref vb)) (FC : Fld Z h0 sb "java/lang/AbstractStringBuilder" "coder" "B" (.int (0 : Int32))) (FN : Fld Z h0 sb "java/lang/AbstractStringBuilder" "count" "I" (.int kk)) (Vb : Arv Z h0 vb kv .byte (16 : Int32) us (.int (0 : Int32))) (E_sx : Exa Z h0 sx "java/lang/String") (Fv : Fld Z h0 sx "java/lang/String" "value" "[B" (.ref t)) (Fc : Fld Z h0 sx "java/lang/String" "coder" "B" (.int (0 : Int32))) (Vt : Arv Z h0 t kt .byte mm ss (.int (0 : Int32))) (ge_vb : n0 ≤ vb) (ne_sb_vb : sb ≠ vb) (ne_sx_vb : sx ≠ vb) (hmc : ¬ ((0 : Int32) < ((kk + mm) - (16 : Int32)))) (O2 : Sta Z Z.heap "java/lang/String" "COMPACT_STRINGS" "Z" (.int G1)) (P5 : ¬ (G1 = (0 : Int32))) (hGB : own_MF l (⟨"java/lang/String", "getBytes", "([BIB)V"⟩ : MethodName) [Jvm.Cond.code (⟨"java/lang/String", "getBytes", "([BIB)V"⟩ : MethodName) jdk_42_method_147_code 4 none] ({ frames := 1, cells := 0, slots := 0, locals := 40 } : Room) #[(.ref sx), (.ref vb), (.int kk), (.int (0 : Int32))] Z h0 (own_QGB Z vb kv us' h0 n0)) :
    own_MF l (⟨"java/lang/AbstractStringBuilder", "append", "(Ljava/lang/String;)Ljava/lang/AbstractStringBuilder;"⟩ : MethodName) (Jvm.Cond.code (⟨"java/lang/AbstractStringBuilder", "append", "(Ljava/lang/String;)Ljava/lang/AbstractStringBuilder;"⟩ : MethodName) jdk_68_method_22_code 3 (some (.object "java/lang/AbstractStringBuilder")) :: ws) ({ frames := 3, cells := 0, slots := 0, locals := 80 } : Room) #[(.ref sb), (.ref sx)] Z h0 (own_QBD Z sb (kk + mm) vb kv us' h0 n0) := by
  refine MetFree.of_bodySF (plainFor_of_name own_pn3) hisR ?_
  intro p e s m args below meth c s₁ Bd hml0 hP hK
  obtain ⟨rfl, hZ, hh⟩ := hP
  have hx := Bd.exec
  have hby := Bd.bytes
  have hlk : meth.locks = false := BodyLoose.notSynchronized Bd
  have hml : c.maxLocals = 3 := hml0
  have hown : s.vm.findClass "java/lang/AbstractStringBuilder" = some m.cls := findClass_of_methodNamed Bd.named
  have hnm := (name_of_methodNamed Bd.named Bd.method).1
  have X0 : Stand p l e ({ frames := 3, cells := 0, slots := 0, locals := 80 } : Room) s m #[(.ref sb), (.ref sx)] below meth c s₁ [] 0 0 := Stand.of_body Bd
  have e0 : s₁.heap = h0 := by rw [← hh, Bd.state]; rfl
  have N0 := Fr.nil n0
  have KP : Keep h0 h0 [sb, vb] := Keep.refl _ _
  refine own_start (Fin := (own_Fin s (own_QBD Z sb (kk + mm) vb kv us' h0 n0) ({ frames := 3, cells := 0, slots := 0, locals := 80 } : Room).cells ({ frames := 3, cells := 0, slots := 0, locals := 80 } : Room).slots)) (own_from (mkF m 0 #[rv sb, rv sx, .unset] []) (castTop (own_ef_AS m sb sx)) ?_)
  refine own_aln 1 X0 hx (hb hby own_d353) rfl rfl rfl ?_
  refine own_to (T' := s₁) (mkF m 9 #[rv sb, rv sx, .unset] []) (fun _ k => XS.ifnonnullYes X0.here hx rfl (pc0 := 1) (pc' := 9) rfl (hb hby own_d354) rfl (by decide) (by decide) k) ?_
  refine own_aln 10 X0 hx (hb hby own_d355) rfl rfl rfl ?_
  obtain ⟨cq150, kq150, q150a, q150b, q150c⟩ := isOf hZ e0 E_sx
  obtain ⟨_, T150, Lc150, X150, hQ150, st150⟩ := own_virtual X0 hx (y := (⟨"java/lang/String", "length", "()I"⟩ : MethodName)) (z := (⟨"java/lang/String", "length", "()I"⟩ : MethodName)) hown (mvT hZ (own_w hw 109 rfl)) (mvT hZ (own_w hw 110 rfl)) (notFace_of_selects (args := #[]) (mvT hZ (own_w hw 112 rfl))) (mvT hZ (own_w hw 112 rfl)) (mvT hZ (own_w hw 111 rfl)) (by decide) (backOf (W := 0) (own_rmLX l Z a0 hw [] G1 sx t kt mm ss h0 n0 (Nat.le_trans Z0 KP.1) OL E_sx Fv Fc Vt O2 P5) hZ (own_w hw 113 rfl) (own_w hw 10 rfl) (by decide) (by decide)) q150a q150c (g := (mkF m 10 #[rv sb, rv sx, .unset] [(.ref sx)])) rfl (by rw [hml]; rfl) (argsL := []) (rest := []) (lenOf own_pd4 rfl) rfl (by show 2 * 0 + _ ≤ _; exact Nat.le_of_eq rfl) (hb hby own_d356) rfl e0 (kc := 0) (ks := 0) rfl rfl (by decide) (by decide)
  obtain ⟨rfl, N150q, e150⟩ := hQ150
  have N150 := Fr.app N0 N150q
  refine own_via (mkF m 13 #[rv sb, rv sx, .unset] [(.int mm)]) st150 ?_
  refine own_isn 14 #[rv sb, rv sx, iv mm] X150 hx (hb hby own_d357) rfl rfl ?_
  refine own_aln 15 X150 hx (hb hby own_d358) rfl rfl rfl ?_
  refine own_aln 16 X150 hx (hb hby own_d359) rfl rfl rfl ?_
  obtain ⟨T151, X151, e151, st151⟩ := getF X150 hx hZ hown (host := "") (Or.inl (own_w hw 84 rfl)) Via.refl e150 FN (g := (mkF m 16 #[rv sb, rv sx, iv mm] [(.ref sb), (.ref sb)])) rfl rfl (hb hby own_d360)
  refine own_to (mkF m 19 #[rv sb, rv sx, iv mm] [(.int kk), (.ref sb)]) st151 ?_
  refine own_iln 20 X151 hx (hb hby own_d361) rfl rfl ?_
  refine own_iadd 21 X151 hx (hb hby own_d362) rfl rfl ?_
  obtain ⟨_, T152, Lc152, X152, hQ152, st152⟩ := own_priv X151 hx (y := (⟨"java/lang/AbstractStringBuilder", "ensureCapacityInternal", "(I)V"⟩ : MethodName)) hown (mvT hZ (own_w hw 86 rfl)) (mvT hZ (own_w hw 87 rfl)) (mvT hZ (own_w hw 89 rfl)) (mvP hZ (own_w hw 88 rfl)) (mvT hZ (own_w hw 90 rfl)) (by decide) (backOf (W := 0) (own_rmEC l Z a0 hw [] sb vb kv us (kk + mm) h0 n0 (Nat.le_trans Z0 KP.1) OL E_sb FV FC Vb hmc) hZ (own_w hw 90 rfl) (own_w hw 66 rfl) (by decide) (by decide)) (Exa.cell E_sb) (g := (mkF m 21 #[rv sb, rv sx, iv mm] [(.int (kk + mm)), (.ref sb)])) rfl (by rw [hml]; rfl) (argsL := [(.int (kk + mm))]) (rest := []) (lenOf own_pd2 rfl) rfl (by show 2 * 0 + _ ≤ _; exact Nat.le_of_eq rfl) (hb hby own_d363) rfl e151 (kc := 0) (ks := 0) rfl rfl (by decide) (by decide)
  obtain ⟨rfl, N152q, e152⟩ := hQ152
  have N152 := Fr.app N150 N152q
  refine own_via (mkF m 24 #[rv sb, rv sx, iv mm] []) st152 ?_
  refine own_aln 25 X152 hx (hb hby own_d364) rfl rfl rfl ?_
  refine own_aln 26 X152 hx (hb hby own_d365) rfl rfl rfl ?_
  obtain ⟨T153, X153, e153, st153⟩ := getF X152 hx hZ hown (host := "") (Or.inl (own_w hw 84 rfl)) Via.refl e152 FN (g := (mkF m 26 #[rv sb, rv sx, iv mm] [(.ref sb), (.ref sb)])) rfl rfl (hb hby own_d366)
  refine own_to (mkF m 29 #[rv sb, rv sx, iv mm] [(.int kk), (.ref sb)]) st153 ?_
  refine own_aln 30 X153 hx (hb hby own_d367) rfl rfl rfl ?_
  obtain ⟨_, T154, Lc154, X154, hQ154, st154⟩ := own_priv X153 hx (y := (⟨"java/lang/AbstractStringBuilder", "putStringAt", "(ILjava/lang/String;)V"⟩ : MethodName)) hown (mvT hZ (own_w hw 120 rfl)) (mvT hZ (own_w hw 121 rfl)) (mvT hZ (own_w hw 123 rfl)) (mvP hZ (own_w hw 122 rfl)) (mvT hZ (own_w hw 124 rfl)) (by decide) (backOf (W := 0) (own_rmPS l Z a0 hw [] G1 sb sx kk vb kv us' h0 n0 (Nat.le_trans Z0 KP.1) OL E_sb FV FC E_sx Fc ge_vb ne_sb_vb ne_sx_vb O2 P5 hGB) hZ (own_w hw 124 rfl) (own_w hw 66 rfl) (by decide) (by decide)) (Exa.cell E_sb) (g := (mkF m 30 #[rv sb, rv sx, iv mm] [(.ref sx), (.int kk), (.ref sb)])) rfl (by rw [hml]; rfl) (argsL := [(.int kk), (.ref sx)]) (rest := []) (lenOf own_pd7 rfl) rfl (by show 2 * 0 + _ ≤ _; exact Nat.le_of_eq rfl) (hb hby own_d368) rfl e153 (kc := 0) (ks := 0) rfl rfl (by decide) (by decide)
  obtain ⟨rfl, N154q, K154, VB154⟩ := hQ154
  have N154 := Fr.app N152 N154q
  have OL := OL.keep K154 (allS ge_vb all0)
  have KP := KP.trans K154 (allS (Or.inl (List.mem_of_getElem? (i := 1) rfl)) all0)
  have E_sb := E_sb.keep K154
  have FV := FV.keep K154 (ninS ne_sb_vb nin0)
  have FC := FC.keep K154 (ninS ne_sb_vb nin0)
  have FN := FN.keep K154 (ninS ne_sb_vb nin0)
  have E_sx := E_sx.keep K154
  refine own_via (mkF m 33 #[rv sb, rv sx, iv mm] []) st154 ?_
  refine own_aln 34 X154 hx (hb hby own_d369) rfl rfl rfl ?_
  refine own_dup 35 X154 hx (hb hby own_d370) rfl rfl ?_
  obtain ⟨T155, X155, e155, st155⟩ := getF X154 hx hZ hown (host := "") (Or.inl (own_w hw 84 rfl)) Via.refl rfl FN (g := (mkF m 35 #[rv sb, rv sx, iv mm] [(.ref sb), (.ref sb)])) rfl rfl (hb hby own_d371)
  refine own_to (mkF m 38 #[rv sb, rv sx, iv mm] [(.int kk), (.ref sb)]) st155 ?_
  refine own_iln 39 X155 hx (hb hby own_d372) rfl rfl ?_
  refine own_iadd 40 X155 hx (hb hby own_d373) rfl rfl ?_
  obtain ⟨T156, h156, X156, e156, W156, st156⟩ := putF X155 hx hZ hown (host := "") (Or.inl (own_w hw 84 rfl)) Via.refl e155 FN E_sb (Or.inl (own_w hw 85 rfl)) (own_w hw 57 rfl) (ty := .int) (by decide) rfl rfl (g := (mkF m 40 #[rv sb, rv sx, iv mm] [(.int (kk + mm)), (.ref sb)])) rfl rfl (hb hby own_d374)
  refine own_to (mkF m 43 #[rv sb, rv sx, iv mm] []) st156 ?_
  have N156 := Fr.snoc X156 N154 ge_sb
  have tmp156 : Fld Z h156 sb "java/lang/AbstractStringBuilder" "count" "I" (.int (kk + mm)) := FN.same W156
  have OL := OL.wr W156 ge_sb
  have KP := KP.wr W156 (Or.inl (List.mem_of_getElem? (i := 0) rfl))
  have E_sb := E_sb.wr W156
  have FV := FV.other W156 (Or.inr (slot_ne (Or.inl (own_w hw 71 rfl)) (Or.inl (own_w hw 85 rfl)) (by decide) (t := (.array .byte)) (t' := .int) (by decide) (by decide)))
  have FC := FC.other W156 (Or.inr (slot_ne (Or.inl (own_w hw 73 rfl)) (Or.inl (own_w hw 85 rfl)) (by decide) (t := .byte) (t' := .int) (by decide) (by decide)))
  have E_sx := E_sx.wr W156
  have VB154 := VB154.other W156 (Ne.symm ne_sb_vb)
  have FN := tmp156
  refine own_aln 44 X156 hx (hb hby own_d375) rfl rfl rfl ?_
  exact own_retA X156 hx Bd.returns rfl hlk (hb hby own_d376) rfl (by decide) (by decide) (by rw [e156]; exact ⟨rfl, N156, KP, E_sb, FV, FC, FN, VB154⟩)
set_option maxRecDepth 65536 in
set_option maxHeartbeats 40000000 in
theorem own_rmSS (l : Launch) (Z : State) (a0 : Array Value) (hw : ∀ d ∈ tables_1, d.before a0 Z = true) (ws : List Jvm.Cond) (G1 : Int32) (sb sx t : Addr) (kt : ClassId) (kk mm : Int32) (ss us : List Value) (vb : Addr) (kv : ClassId) (us' : List Value) (h0 : Heap) (n0 : Nat) (Z0 : n0 ≤ h0.size) (OL : Old Z n0 h0) (ge_sb : n0 ≤ sb) (E_sb : Exa Z h0 sb "java/lang/StringBuilder") (FV : Fld Z h0 sb "java/lang/AbstractStringBuilder" "value" "[B" (.ref vb)) (FC : Fld Z h0 sb "java/lang/AbstractStringBuilder" "coder" "B" (.int (0 : Int32))) (FN : Fld Z h0 sb "java/lang/AbstractStringBuilder" "count" "I" (.int kk)) (Vb : Arv Z h0 vb kv .byte (16 : Int32) us (.int (0 : Int32))) (E_sx : Exa Z h0 sx "java/lang/String") (Fv : Fld Z h0 sx "java/lang/String" "value" "[B" (.ref t)) (Fc : Fld Z h0 sx "java/lang/String" "coder" "B" (.int (0 : Int32))) (Vt : Arv Z h0 t kt .byte mm ss (.int (0 : Int32))) (ge_vb : n0 ≤ vb) (ne_sb_vb : sb ≠ vb) (ne_sx_vb : sx ≠ vb) (hmc : ¬ ((0 : Int32) < ((kk + mm) - (16 : Int32)))) (O2 : Sta Z Z.heap "java/lang/String" "COMPACT_STRINGS" "Z" (.int G1)) (P5 : ¬ (G1 = (0 : Int32))) (hGB : own_MF l (⟨"java/lang/String", "getBytes", "([BIB)V"⟩ : MethodName) [Jvm.Cond.code (⟨"java/lang/String", "getBytes", "([BIB)V"⟩ : MethodName) jdk_42_method_147_code 4 none] ({ frames := 1, cells := 0, slots := 0, locals := 40 } : Room) #[(.ref sx), (.ref vb), (.int kk), (.int (0 : Int32))] Z h0 (own_QGB Z vb kv us' h0 n0)) :
    own_MF l (⟨"java/lang/StringBuilder", "append", "(Ljava/lang/String;)Ljava/lang/StringBuilder;"⟩ : MethodName) (Jvm.Cond.code (⟨"java/lang/StringBuilder", "append", "(Ljava/lang/String;)Ljava/lang/StringBuilder;"⟩ : MethodName) jdk_67_method_7_code 2 (some (.object "java/lang/StringBuilder")) :: ws) ({ frames := 4, cells := 0, slots := 0, locals := 96 } : Room) #[(.ref sb), (.ref sx)] Z h0 (own_QBD Z sb (kk + mm) vb kv us' h0 n0) := by
  refine MetFree.of_bodySF (plainFor_of_name own_pn4) hisR ?_
  intro p e s m args below meth c s₁ Bd hml0 hP hK
  obtain ⟨rfl, hZ, hh⟩ := hP
  have hx := Bd.exec
  have hby := Bd.bytes
  have hlk : meth.locks = false := BodyLoose.notSynchronized Bd
  have hml : c.maxLocals = 2 := hml0
  have hown : s.vm.findClass "java/lang/StringBuilder" = some m.cls := findClass_of_methodNamed Bd.named
  have hnm := (name_of_methodNamed Bd.named Bd.method).1
  have X0 : Stand p l e ({ frames := 4, cells := 0, slots := 0, locals := 96 } : Room) s m #[(.ref sb), (.ref sx)] below meth c s₁ [] 0 0 := Stand.of_body Bd
  have e0 : s₁.heap = h0 := by rw [← hh, Bd.state]; rfl
  have N0 := Fr.nil n0
  have KP : Keep h0 h0 [sb, vb] := Keep.refl _ _
  refine own_start (Fin := (own_Fin s (own_QBD Z sb (kk + mm) vb kv us' h0 n0) ({ frames := 4, cells := 0, slots := 0, locals := 96 } : Room).cells ({ frames := 4, cells := 0, slots := 0, locals := 96 } : Room).slots)) (own_from (mkF m 0 #[rv sb, rv sx] []) (castTop (own_ef_SS m sb sx)) ?_)
  refine own_aln 1 X0 hx (hb hby own_d377) rfl rfl rfl ?_
  refine own_aln 2 X0 hx (hb hby own_d378) rfl rfl rfl ?_
  obtain ⟨_, T157, Lc157, X157, hQ157, st157⟩ := own_super X0 hx hZ (y := (⟨"java/lang/AbstractStringBuilder", "append", "(Ljava/lang/String;)Ljava/lang/AbstractStringBuilder;"⟩ : MethodName)) hown (own_w hw 105 rfl) (own_sameM (own_w hw 106 rfl) (own_w hw 89 rfl) rfl (by decide)) (own_w hw 106 rfl) (own_w hw 81 rfl) (by decide) (own_w hw 108 rfl) (backOf (W := 0) (own_rmAS l Z a0 hw [] G1 sb sx t kt kk mm ss us vb kv us' h0 n0 (Nat.le_trans Z0 KP.1) OL ge_sb E_sb FV FC FN Vb E_sx Fv Fc Vt ge_vb ne_sb_vb ne_sx_vb hmc O2 P5 hGB) hZ (own_w hw 108 rfl) (own_w hw 66 rfl) (by decide) (by decide)) (Ins.self E_sb) (g := (mkF m 2 #[rv sb, rv sx] [(.ref sx), (.ref sb)])) rfl (by rw [hml]; rfl) (argsL := [(.ref sx)]) (rest := []) (lenOf own_pd8 rfl) rfl (by show 2 * 0 + _ ≤ _; exact Nat.le_of_eq rfl) (hb hby own_d379) rfl e0 (kc := 0) (ks := 0) rfl rfl (by decide) (by decide)
  obtain ⟨rfl, N157q, K157, hrest157⟩ := hQ157
  have N157 := Fr.app N0 N157q
  have OL := OL.keep K157 (allS ge_sb (allS ge_vb all0))
  have KP := KP.trans K157 (allS (Or.inl (List.mem_of_getElem? (i := 0) rfl)) (allS (Or.inl (List.mem_of_getElem? (i := 1) rfl)) all0))
  have E_sb := E_sb.keep K157
  refine own_via (mkF m 5 #[rv sb, rv sx] [(.ref sb)]) st157 ?_
  refine own_to (T' := T157) (mkF m 6 #[rv sb, rv sx] []) (fun _ k => XS.pop X157.here hx rfl (hb hby own_d380) rfl rfl k) ?_
  refine own_aln 7 X157 hx (hb hby own_d381) rfl rfl rfl ?_
  exact own_retA X157 hx Bd.returns rfl hlk (hb hby own_d382) rfl (by decide) (by decide) (by exact ⟨rfl, N157, KP, hrest157⟩)
set_option maxRecDepth 65536 in
set_option maxHeartbeats 40000000 in
theorem own_rmAC_0 (l : Launch) (Z : State) (a0 : Array Value) (hw : ∀ d ∈ tables_1, d.before a0 Z = true) (ws : List Jvm.Cond) (G1 : Int32) (sb vb : Addr) (kv : ClassId) (u0 u1 u2 u3 u4 u5 u6 u7 u8 u9 u10 u11 u12 u13 u14 u15 : Int32) (h0 : Heap) (n0 : Nat) (Z0 : n0 ≤ h0.size) (OL : Old Z n0 h0) (ge_sb : n0 ≤ sb) (ge_vb : n0 ≤ vb) (ne_sb_vb : sb ≠ vb) (E_sb : Exa Z h0 sb "java/lang/StringBuilder") (FV : Fld Z h0 sb "java/lang/AbstractStringBuilder" "value" "[B" (.ref vb)) (FC : Fld Z h0 sb "java/lang/AbstractStringBuilder" "coder" "B" (.int (0 : Int32))) (FN : Fld Z h0 sb "java/lang/AbstractStringBuilder" "count" "I" (.int (0 : Int32))) (Vb : Arv Z h0 vb kv .byte (16 : Int32) [(.int u0), (.int u1), (.int u2), (.int u3), (.int u4), (.int u5), (.int u6), (.int u7), (.int u8), (.int u9), (.int u10), (.int u11), (.int u12), (.int u13), (.int u14), (.int u15)] (.int (0 : Int32))) (O2 : Sta Z Z.heap "java/lang/String" "COMPACT_STRINGS" "Z" (.int G1)) (P5 : ¬ (G1 = (0 : Int32))) :
    own_MF l (⟨"java/lang/AbstractStringBuilder", "append", "(C)Ljava/lang/AbstractStringBuilder;"⟩ : MethodName) (Jvm.Cond.code (⟨"java/lang/AbstractStringBuilder", "append", "(C)Ljava/lang/AbstractStringBuilder;"⟩ : MethodName) jdk_68_method_31_code 2 (some (.object "java/lang/AbstractStringBuilder")) :: ws) ({ frames := 1, cells := 0, slots := 0, locals := 16 } : Room) #[(.ref sb), (.int (34 : Int32))] Z h0 (own_QBD Z sb (1 : Int32) vb kv [(.int ((34 : Int32).toInt8.toInt32)), (.int u1), (.int u2), (.int u3), (.int u4), (.int u5), (.int u6), (.int u7), (.int u8), (.int u9), (.int u10), (.int u11), (.int u12), (.int u13), (.int u14), (.int u15)] h0 n0) := by
  refine MetFree.of_bodySF (plainFor_of_name own_pn3) hisR ?_
  intro p e s m args below meth c s₁ Bd hml0 hP hK
  obtain ⟨rfl, hZ, hh⟩ := hP
  have hx := Bd.exec
  have hby := Bd.bytes
  have hlk : meth.locks = false := BodyLoose.notSynchronized Bd
  have hml : c.maxLocals = 2 := hml0
  have hown : s.vm.findClass "java/lang/AbstractStringBuilder" = some m.cls := findClass_of_methodNamed Bd.named
  have hnm := (name_of_methodNamed Bd.named Bd.method).1
  have X0 : Stand p l e ({ frames := 1, cells := 0, slots := 0, locals := 16 } : Room) s m #[(.ref sb), (.int (34 : Int32))] below meth c s₁ [] 0 0 := Stand.of_body Bd
  have e0 : s₁.heap = h0 := by rw [← hh, Bd.state]; rfl
  have N0 := Fr.nil n0
  have KP : Keep h0 h0 [sb, vb] := Keep.refl _ _
  refine own_start (Fin := (own_Fin s (own_QBD Z sb (1 : Int32) vb kv [(.int ((34 : Int32).toInt8.toInt32)), (.int u1), (.int u2), (.int u3), (.int u4), (.int u5), (.int u6), (.int u7), (.int u8), (.int u9), (.int u10), (.int u11), (.int u12), (.int u13), (.int u14), (.int u15)] h0 n0) ({ frames := 1, cells := 0, slots := 0, locals := 16 } : Room).cells ({ frames := 1, cells := 0, slots := 0, locals := 16 } : Room).slots)) (own_from (mkF m 0 #[rv sb, iv 34] []) (castTop (own_ef_AC_0 m sb (34 : Int32))) ?_)
  refine own_aln 1 X0 hx (hb hby own_d383) rfl rfl rfl ?_
  refine own_aln 2 X0 hx (hb hby own_d384) rfl rfl rfl ?_
  obtain ⟨T158, X158, e158, st158⟩ := getF X0 hx hZ hown (host := "") (Or.inl (own_w hw 84 rfl)) Via.refl e0 FN (g := (mkF m 2 #[rv sb, iv 34] [(.ref sb), (.ref sb)])) rfl rfl (hb hby own_d385)
  refine own_to (mkF m 5 #[rv sb, iv 34] [(.int (0 : Int32)), (.ref sb)]) st158 ?_
  refine own_ic 6 1 X158 hx (hb hby own_d386) rfl rfl ?_
  refine own_iadd 7 X158 hx (hb hby own_d387) (z := (1 : Int32)) rfl rfl ?_
  obtain ⟨_, T159, Lc159, X159, hQ159, st159⟩ := own_priv X158 hx (y := (⟨"java/lang/AbstractStringBuilder", "ensureCapacityInternal", "(I)V"⟩ : MethodName)) hown (mvT hZ (own_w hw 86 rfl)) (mvT hZ (own_w hw 87 rfl)) (mvT hZ (own_w hw 89 rfl)) (mvP hZ (own_w hw 88 rfl)) (mvT hZ (own_w hw 90 rfl)) (by decide) (backOf (W := 0) (own_rmEC l Z a0 hw [] sb vb kv _ (1 : Int32) h0 n0 (Nat.le_trans Z0 KP.1) OL E_sb FV FC Vb (by decide)) hZ (own_w hw 90 rfl) (own_w hw 66 rfl) (by decide) (by decide)) (Exa.cell E_sb) (g := (mkF m 7 #[rv sb, iv 34] [(.int (1 : Int32)), (.ref sb)])) rfl (by rw [hml]; rfl) (argsL := [(.int (1 : Int32))]) (rest := []) (lenOf own_pd2 rfl) rfl (by show 2 * 0 + _ ≤ _; exact Nat.le_of_eq rfl) (hb hby own_d388) rfl e158 (kc := 0) (ks := 0) rfl rfl (by decide) (by decide)
  obtain ⟨rfl, N159q, e159⟩ := hQ159
  have N159 := Fr.app N0 N159q
  refine own_via (mkF m 10 #[rv sb, iv 34] []) st159 ?_
  refine own_aln 11 X159 hx (hb hby own_d389) rfl rfl rfl ?_
  obtain ⟨cq160, kq160, q160a, q160b, q160c⟩ := isOf hZ e159 E_sb
  obtain ⟨_, T160, Lc160, X160, hQ160, st160⟩ := own_virtual X159 hx (y := (⟨"java/lang/AbstractStringBuilder", "isLatin1", "()Z"⟩ : MethodName)) (z := (⟨"java/lang/AbstractStringBuilder", "isLatin1", "()Z"⟩ : MethodName)) hown (mvT hZ (own_w hw 91 rfl)) (mvT hZ (own_w hw 92 rfl)) (notFace_of_selects (args := #[]) (mvT hZ (own_w hw 94 rfl))) (mvT hZ (own_w hw 94 rfl)) (mvT hZ (own_w hw 93 rfl)) (by decide) (backOf (W := 0) (own_rmA1 l Z a0 hw [] G1 sb h0 n0 (Nat.le_trans Z0 KP.1) OL FC O2 P5) hZ (own_w hw 95 rfl) (own_w hw 66 rfl) (by decide) (by decide)) q160a q160c (g := (mkF m 11 #[rv sb, iv 34] [(.ref sb)])) rfl (by rw [hml]; rfl) (argsL := []) (rest := []) (lenOf own_pd9 rfl) rfl (by show 2 * 0 + _ ≤ _; exact Nat.le_of_eq rfl) (hb hby own_d390) rfl e159 (kc := 0) (ks := 0) rfl rfl (by decide) (by decide)
  obtain ⟨rfl, N160q, e160⟩ := hQ160
  have N160 := Fr.app N159 N160q
  refine own_via (mkF m 14 #[rv sb, iv 34] [(.int (1 : Int32))]) st160 ?_
  refine own_ifN 17 X160 hx (hb hby own_d391) ((if0 _ _).trans (feq (by decide : ¬ ((1 : Int32) = (0 : Int32)))).1) rfl ?_
  refine own_iln 18 X160 hx (hb hby own_d392) rfl rfl ?_
  obtain ⟨_, T161, Lc161, X161, hQ161, st161⟩ := own_callS X160 hx (y := (⟨"java/lang/StringLatin1", "canEncode", "(C)Z"⟩ : MethodName)) hown (mvT hZ (own_w hw 96 rfl)) (mvT hZ (own_w hw 97 rfl)) (mvT hZ (own_w hw 98 rfl)) (mvT hZ (own_w hw 99 rfl)) (by decide) (backOf (W := 0) (own_rmCE l Z a0 hw []  h0 n0 (Nat.le_trans Z0 KP.1) OL ) hZ (own_w hw 99 rfl) (own_w hw 98 rfl) (by decide) (by decide)) (g := (mkF m 18 #[rv sb, iv 34] [(.int (34 : Int32))])) rfl (by rw [hml]; rfl) (argsL := [(.int (34 : Int32))]) (rest := []) (lenOf own_pd10 rfl) rfl (by show 2 * 0 + _ ≤ _; exact Nat.le_of_eq rfl) (hb hby own_d393) rfl e160 (kc := 0) (ks := 0) rfl rfl (by decide) (by decide)
  obtain ⟨rfl, N161q, e161⟩ := hQ161
  have N161 := Fr.app N160 N161q
  refine own_to (mkF m 21 #[rv sb, iv 34] [(.int (1 : Int32))]) st161 ?_
  refine own_ifN 24 X161 hx (hb hby own_d394) ((if0 _ _).trans (feq (by decide : ¬ ((1 : Int32) = (0 : Int32)))).1) rfl ?_
  refine own_aln 25 X161 hx (hb hby own_d395) rfl rfl rfl ?_
  obtain ⟨T162, X162, e162, st162⟩ := getF X161 hx hZ hown (host := "") (Or.inl (own_w hw 70 rfl)) Via.refl e161 FV (g := (mkF m 25 #[rv sb, iv 34] [(.ref sb)])) rfl rfl (hb hby own_d396)
  refine own_to (mkF m 28 #[rv sb, iv 34] [(.ref vb)]) st162 ?_
  refine own_aln 29 X162 hx (hb hby own_d397) rfl rfl rfl ?_
  refine own_dup 30 X162 hx (hb hby own_d398) rfl rfl ?_
  obtain ⟨T163, X163, e163, st163⟩ := getF X162 hx hZ hown (host := "") (Or.inl (own_w hw 84 rfl)) Via.refl e162 FN (g := (mkF m 30 #[rv sb, iv 34] [(.ref sb), (.ref sb), (.ref vb)])) rfl rfl (hb hby own_d399)
  refine own_to (mkF m 33 #[rv sb, iv 34] [(.int (0 : Int32)), (.ref sb), (.ref vb)]) st163 ?_
  refine own_to (T' := T163) (mkF m 34 #[rv sb, iv 34] [(.int (0 : Int32)), (.ref sb), (.int (0 : Int32)), (.ref vb)]) (fun _ k => XS.dupX1 X163.here hx rfl (hb hby own_d400) rfl rfl rfl k) ?_
  refine own_ic 35 1 X163 hx (hb hby own_d401) rfl rfl ?_
  refine own_iadd 36 X163 hx (hb hby own_d402) (z := (1 : Int32)) rfl rfl ?_
  obtain ⟨T164, h164, X164, e164, W164, st164⟩ := putF X163 hx hZ hown (host := "") (Or.inl (own_w hw 84 rfl)) Via.refl e163 FN E_sb (Or.inl (own_w hw 85 rfl)) (own_w hw 57 rfl) (ty := .int) (by decide) rfl rfl (g := (mkF m 36 #[rv sb, iv 34] [(.int (1 : Int32)), (.ref sb), (.int (0 : Int32)), (.ref vb)])) rfl rfl (hb hby own_d403)
  refine own_to (mkF m 39 #[rv sb, iv 34] [(.int (0 : Int32)), (.ref vb)]) st164 ?_
  have N164 := Fr.snoc X164 N161 ge_sb
  have tmp164 : Fld Z h164 sb "java/lang/AbstractStringBuilder" "count" "I" (.int (1 : Int32)) := FN.same W164
  have OL := OL.wr W164 ge_sb
  have KP := KP.wr W164 (Or.inl (List.mem_of_getElem? (i := 0) rfl))
  have E_sb := E_sb.wr W164
  have FV := FV.other W164 (Or.inr (slot_ne (Or.inl (own_w hw 71 rfl)) (Or.inl (own_w hw 85 rfl)) (by decide) (t := (.array .byte)) (t' := .int) (by decide) (by decide)))
  have FC := FC.other W164 (Or.inr (slot_ne (Or.inl (own_w hw 73 rfl)) (Or.inl (own_w hw 85 rfl)) (by decide) (t := .byte) (t' := .int) (by decide) (by decide)))
  have Vb := Vb.other W164 (Ne.symm ne_sb_vb)
  have FN := tmp164
  refine own_iln 40 X164 hx (hb hby own_d404) rfl rfl ?_
  refine own_i2b 41 X164 hx (hb hby own_d405) rfl rfl ?_
  obtain ⟨cl165, Ar165, q165, S165, M165, H165, G165⟩ := id Vb
  obtain ⟨T165, h165, X165, e165, W165, st165⟩ := stB X164 hx hZ e164 Ar165 (j := (0 : Int32)) (inb_of S165 ⟨by decide, by decide⟩) (g := (mkF m 41 #[rv sb, iv 34] [(.int ((34 : Int32).toInt8.toInt32)), (.int (0 : Int32)), (.ref vb)])) rfl rfl (hb hby own_d406)
  refine own_to (mkF m 42 #[rv sb, iv 34] []) st165 ?_
  have N165 := Fr.snoc X165 N164 ge_vb
  have tmp165 : Arv Z h165 vb kv .byte (16 : Int32) [(.int (((34 : Int32).toInt8.toInt32).toInt8.toInt32)), (.int u1), (.int u2), (.int u3), (.int u4), (.int u5), (.int u6), (.int u7), (.int u8), (.int u9), (.int u10), (.int u11), (.int u12), (.int u13), (.int u14), (.int u15)] (.int (0 : Int32)) := Arv.set Ar165 q165 S165 M165 H165 G165 (fits_nar_byte _) W165 0 rfl (Nat.le_of_ble_eq_true rfl)
  rw [own_b8] at tmp165
  have OL := OL.wr W165 ge_vb
  have KP := KP.wr W165 (Or.inl (List.mem_of_getElem? (i := 1) rfl))
  have E_sb := E_sb.wr W165
  have FV := FV.other W165 (Or.inl ne_sb_vb)
  have FC := FC.other W165 (Or.inl ne_sb_vb)
  have FN := FN.other W165 (Or.inl ne_sb_vb)
  have Vb := tmp165
  refine own_go 75 X165 hx (hb hby own_d407) (by decide) (by decide) ?_
  refine own_aln 76 X165 hx (hb hby own_d408) rfl rfl rfl ?_
  exact own_retA X165 hx Bd.returns rfl hlk (hb hby own_d409) rfl (by decide) (by decide) (by rw [e165]; exact ⟨rfl, N165, KP, E_sb, FV, FC, FN, Vb⟩)
set_option maxRecDepth 65536 in
set_option maxHeartbeats 40000000 in
theorem own_rmAC_1 (l : Launch) (Z : State) (a0 : Array Value) (hw : ∀ d ∈ tables_1, d.before a0 Z = true) (ws : List Jvm.Cond) (G1 : Int32) (sb vb : Addr) (kv : ClassId) (u0 u1 u2 u3 u4 u5 u6 u7 u8 u9 u10 u11 u12 u13 u14 u15 : Int32) (h0 : Heap) (n0 : Nat) (Z0 : n0 ≤ h0.size) (OL : Old Z n0 h0) (ge_sb : n0 ≤ sb) (ge_vb : n0 ≤ vb) (ne_sb_vb : sb ≠ vb) (E_sb : Exa Z h0 sb "java/lang/StringBuilder") (FV : Fld Z h0 sb "java/lang/AbstractStringBuilder" "value" "[B" (.ref vb)) (FC : Fld Z h0 sb "java/lang/AbstractStringBuilder" "coder" "B" (.int (0 : Int32))) (FN : Fld Z h0 sb "java/lang/AbstractStringBuilder" "count" "I" (.int (1 : Int32))) (Vb : Arv Z h0 vb kv .byte (16 : Int32) [(.int u0), (.int u1), (.int u2), (.int u3), (.int u4), (.int u5), (.int u6), (.int u7), (.int u8), (.int u9), (.int u10), (.int u11), (.int u12), (.int u13), (.int u14), (.int u15)] (.int (0 : Int32))) (O2 : Sta Z Z.heap "java/lang/String" "COMPACT_STRINGS" "Z" (.int G1)) (P5 : ¬ (G1 = (0 : Int32))) :
    own_MF l (⟨"java/lang/AbstractStringBuilder", "append", "(C)Ljava/lang/AbstractStringBuilder;"⟩ : MethodName) (Jvm.Cond.code (⟨"java/lang/AbstractStringBuilder", "append", "(C)Ljava/lang/AbstractStringBuilder;"⟩ : MethodName) jdk_68_method_31_code 2 (some (.object "java/lang/AbstractStringBuilder")) :: ws) ({ frames := 1, cells := 0, slots := 0, locals := 16 } : Room) #[(.ref sb), (.int (34 : Int32))] Z h0 (own_QBD Z sb (2 : Int32) vb kv [(.int u0), (.int ((34 : Int32).toInt8.toInt32)), (.int u2), (.int u3), (.int u4), (.int u5), (.int u6), (.int u7), (.int u8), (.int u9), (.int u10), (.int u11), (.int u12), (.int u13), (.int u14), (.int u15)] h0 n0) := by
  refine MetFree.of_bodySF (plainFor_of_name own_pn3) hisR ?_
  intro p e s m args below meth c s₁ Bd hml0 hP hK
  obtain ⟨rfl, hZ, hh⟩ := hP
  have hx := Bd.exec
  have hby := Bd.bytes
  have hlk : meth.locks = false := BodyLoose.notSynchronized Bd
  have hml : c.maxLocals = 2 := hml0
  have hown : s.vm.findClass "java/lang/AbstractStringBuilder" = some m.cls := findClass_of_methodNamed Bd.named
  have hnm := (name_of_methodNamed Bd.named Bd.method).1
  have X0 : Stand p l e ({ frames := 1, cells := 0, slots := 0, locals := 16 } : Room) s m #[(.ref sb), (.int (34 : Int32))] below meth c s₁ [] 0 0 := Stand.of_body Bd
  have e0 : s₁.heap = h0 := by rw [← hh, Bd.state]; rfl
  have N0 := Fr.nil n0
  have KP : Keep h0 h0 [sb, vb] := Keep.refl _ _
  refine own_start (Fin := (own_Fin s (own_QBD Z sb (2 : Int32) vb kv [(.int u0), (.int ((34 : Int32).toInt8.toInt32)), (.int u2), (.int u3), (.int u4), (.int u5), (.int u6), (.int u7), (.int u8), (.int u9), (.int u10), (.int u11), (.int u12), (.int u13), (.int u14), (.int u15)] h0 n0) ({ frames := 1, cells := 0, slots := 0, locals := 16 } : Room).cells ({ frames := 1, cells := 0, slots := 0, locals := 16 } : Room).slots)) (own_from (mkF m 0 #[rv sb, iv 34] []) (castTop (own_ef_AC_1 m sb (34 : Int32))) ?_)
  refine own_aln 1 X0 hx (hb hby own_d383) rfl rfl rfl ?_
  refine own_aln 2 X0 hx (hb hby own_d384) rfl rfl rfl ?_
  obtain ⟨T166, X166, e166, st166⟩ := getF X0 hx hZ hown (host := "") (Or.inl (own_w hw 84 rfl)) Via.refl e0 FN (g := (mkF m 2 #[rv sb, iv 34] [(.ref sb), (.ref sb)])) rfl rfl (hb hby own_d385)
  refine own_to (mkF m 5 #[rv sb, iv 34] [(.int (1 : Int32)), (.ref sb)]) st166 ?_
  refine own_ic 6 1 X166 hx (hb hby own_d386) rfl rfl ?_
  refine own_iadd 7 X166 hx (hb hby own_d387) (z := (2 : Int32)) rfl rfl ?_
  obtain ⟨_, T167, Lc167, X167, hQ167, st167⟩ := own_priv X166 hx (y := (⟨"java/lang/AbstractStringBuilder", "ensureCapacityInternal", "(I)V"⟩ : MethodName)) hown (mvT hZ (own_w hw 86 rfl)) (mvT hZ (own_w hw 87 rfl)) (mvT hZ (own_w hw 89 rfl)) (mvP hZ (own_w hw 88 rfl)) (mvT hZ (own_w hw 90 rfl)) (by decide) (backOf (W := 0) (own_rmEC l Z a0 hw [] sb vb kv _ (2 : Int32) h0 n0 (Nat.le_trans Z0 KP.1) OL E_sb FV FC Vb (by decide)) hZ (own_w hw 90 rfl) (own_w hw 66 rfl) (by decide) (by decide)) (Exa.cell E_sb) (g := (mkF m 7 #[rv sb, iv 34] [(.int (2 : Int32)), (.ref sb)])) rfl (by rw [hml]; rfl) (argsL := [(.int (2 : Int32))]) (rest := []) (lenOf own_pd2 rfl) rfl (by show 2 * 0 + _ ≤ _; exact Nat.le_of_eq rfl) (hb hby own_d388) rfl e166 (kc := 0) (ks := 0) rfl rfl (by decide) (by decide)
  obtain ⟨rfl, N167q, e167⟩ := hQ167
  have N167 := Fr.app N0 N167q
  refine own_via (mkF m 10 #[rv sb, iv 34] []) st167 ?_
  refine own_aln 11 X167 hx (hb hby own_d389) rfl rfl rfl ?_
  obtain ⟨cq168, kq168, q168a, q168b, q168c⟩ := isOf hZ e167 E_sb
  obtain ⟨_, T168, Lc168, X168, hQ168, st168⟩ := own_virtual X167 hx (y := (⟨"java/lang/AbstractStringBuilder", "isLatin1", "()Z"⟩ : MethodName)) (z := (⟨"java/lang/AbstractStringBuilder", "isLatin1", "()Z"⟩ : MethodName)) hown (mvT hZ (own_w hw 91 rfl)) (mvT hZ (own_w hw 92 rfl)) (notFace_of_selects (args := #[]) (mvT hZ (own_w hw 94 rfl))) (mvT hZ (own_w hw 94 rfl)) (mvT hZ (own_w hw 93 rfl)) (by decide) (backOf (W := 0) (own_rmA1 l Z a0 hw [] G1 sb h0 n0 (Nat.le_trans Z0 KP.1) OL FC O2 P5) hZ (own_w hw 95 rfl) (own_w hw 66 rfl) (by decide) (by decide)) q168a q168c (g := (mkF m 11 #[rv sb, iv 34] [(.ref sb)])) rfl (by rw [hml]; rfl) (argsL := []) (rest := []) (lenOf own_pd9 rfl) rfl (by show 2 * 0 + _ ≤ _; exact Nat.le_of_eq rfl) (hb hby own_d390) rfl e167 (kc := 0) (ks := 0) rfl rfl (by decide) (by decide)
  obtain ⟨rfl, N168q, e168⟩ := hQ168
  have N168 := Fr.app N167 N168q
  refine own_via (mkF m 14 #[rv sb, iv 34] [(.int (1 : Int32))]) st168 ?_
  refine own_ifN 17 X168 hx (hb hby own_d391) ((if0 _ _).trans (feq (by decide : ¬ ((1 : Int32) = (0 : Int32)))).1) rfl ?_
  refine own_iln 18 X168 hx (hb hby own_d392) rfl rfl ?_
  obtain ⟨_, T169, Lc169, X169, hQ169, st169⟩ := own_callS X168 hx (y := (⟨"java/lang/StringLatin1", "canEncode", "(C)Z"⟩ : MethodName)) hown (mvT hZ (own_w hw 96 rfl)) (mvT hZ (own_w hw 97 rfl)) (mvT hZ (own_w hw 98 rfl)) (mvT hZ (own_w hw 99 rfl)) (by decide) (backOf (W := 0) (own_rmCE l Z a0 hw []  h0 n0 (Nat.le_trans Z0 KP.1) OL ) hZ (own_w hw 99 rfl) (own_w hw 98 rfl) (by decide) (by decide)) (g := (mkF m 18 #[rv sb, iv 34] [(.int (34 : Int32))])) rfl (by rw [hml]; rfl) (argsL := [(.int (34 : Int32))]) (rest := []) (lenOf own_pd10 rfl) rfl (by show 2 * 0 + _ ≤ _; exact Nat.le_of_eq rfl) (hb hby own_d393) rfl e168 (kc := 0) (ks := 0) rfl rfl (by decide) (by decide)
  obtain ⟨rfl, N169q, e169⟩ := hQ169
  have N169 := Fr.app N168 N169q
  refine own_to (mkF m 21 #[rv sb, iv 34] [(.int (1 : Int32))]) st169 ?_
  refine own_ifN 24 X169 hx (hb hby own_d394) ((if0 _ _).trans (feq (by decide : ¬ ((1 : Int32) = (0 : Int32)))).1) rfl ?_
  refine own_aln 25 X169 hx (hb hby own_d395) rfl rfl rfl ?_
  obtain ⟨T170, X170, e170, st170⟩ := getF X169 hx hZ hown (host := "") (Or.inl (own_w hw 70 rfl)) Via.refl e169 FV (g := (mkF m 25 #[rv sb, iv 34] [(.ref sb)])) rfl rfl (hb hby own_d396)
  refine own_to (mkF m 28 #[rv sb, iv 34] [(.ref vb)]) st170 ?_
  refine own_aln 29 X170 hx (hb hby own_d397) rfl rfl rfl ?_
  refine own_dup 30 X170 hx (hb hby own_d398) rfl rfl ?_
  obtain ⟨T171, X171, e171, st171⟩ := getF X170 hx hZ hown (host := "") (Or.inl (own_w hw 84 rfl)) Via.refl e170 FN (g := (mkF m 30 #[rv sb, iv 34] [(.ref sb), (.ref sb), (.ref vb)])) rfl rfl (hb hby own_d399)
  refine own_to (mkF m 33 #[rv sb, iv 34] [(.int (1 : Int32)), (.ref sb), (.ref vb)]) st171 ?_
  refine own_to (T' := T171) (mkF m 34 #[rv sb, iv 34] [(.int (1 : Int32)), (.ref sb), (.int (1 : Int32)), (.ref vb)]) (fun _ k => XS.dupX1 X171.here hx rfl (hb hby own_d400) rfl rfl rfl k) ?_
  refine own_ic 35 1 X171 hx (hb hby own_d401) rfl rfl ?_
  refine own_iadd 36 X171 hx (hb hby own_d402) (z := (2 : Int32)) rfl rfl ?_
  obtain ⟨T172, h172, X172, e172, W172, st172⟩ := putF X171 hx hZ hown (host := "") (Or.inl (own_w hw 84 rfl)) Via.refl e171 FN E_sb (Or.inl (own_w hw 85 rfl)) (own_w hw 57 rfl) (ty := .int) (by decide) rfl rfl (g := (mkF m 36 #[rv sb, iv 34] [(.int (2 : Int32)), (.ref sb), (.int (1 : Int32)), (.ref vb)])) rfl rfl (hb hby own_d403)
  refine own_to (mkF m 39 #[rv sb, iv 34] [(.int (1 : Int32)), (.ref vb)]) st172 ?_
  have N172 := Fr.snoc X172 N169 ge_sb
  have tmp172 : Fld Z h172 sb "java/lang/AbstractStringBuilder" "count" "I" (.int (2 : Int32)) := FN.same W172
  have OL := OL.wr W172 ge_sb
  have KP := KP.wr W172 (Or.inl (List.mem_of_getElem? (i := 0) rfl))
  have E_sb := E_sb.wr W172
  have FV := FV.other W172 (Or.inr (slot_ne (Or.inl (own_w hw 71 rfl)) (Or.inl (own_w hw 85 rfl)) (by decide) (t := (.array .byte)) (t' := .int) (by decide) (by decide)))
  have FC := FC.other W172 (Or.inr (slot_ne (Or.inl (own_w hw 73 rfl)) (Or.inl (own_w hw 85 rfl)) (by decide) (t := .byte) (t' := .int) (by decide) (by decide)))
  have Vb := Vb.other W172 (Ne.symm ne_sb_vb)
  have FN := tmp172
  refine own_iln 40 X172 hx (hb hby own_d404) rfl rfl ?_
  refine own_i2b 41 X172 hx (hb hby own_d405) rfl rfl ?_
  obtain ⟨cl173, Ar173, q173, S173, M173, H173, G173⟩ := id Vb
  obtain ⟨T173, h173, X173, e173, W173, st173⟩ := stB X172 hx hZ e172 Ar173 (j := (1 : Int32)) (inb_of S173 ⟨by decide, by decide⟩) (g := (mkF m 41 #[rv sb, iv 34] [(.int ((34 : Int32).toInt8.toInt32)), (.int (1 : Int32)), (.ref vb)])) rfl rfl (hb hby own_d406)
  refine own_to (mkF m 42 #[rv sb, iv 34] []) st173 ?_
  have N173 := Fr.snoc X173 N172 ge_vb
  have tmp173 : Arv Z h173 vb kv .byte (16 : Int32) [(.int u0), (.int (((34 : Int32).toInt8.toInt32).toInt8.toInt32)), (.int u2), (.int u3), (.int u4), (.int u5), (.int u6), (.int u7), (.int u8), (.int u9), (.int u10), (.int u11), (.int u12), (.int u13), (.int u14), (.int u15)] (.int (0 : Int32)) := Arv.set Ar173 q173 S173 M173 H173 G173 (fits_nar_byte _) W173 1 rfl (Nat.le_of_ble_eq_true rfl)
  rw [own_b8] at tmp173
  have OL := OL.wr W173 ge_vb
  have KP := KP.wr W173 (Or.inl (List.mem_of_getElem? (i := 1) rfl))
  have E_sb := E_sb.wr W173
  have FV := FV.other W173 (Or.inl ne_sb_vb)
  have FC := FC.other W173 (Or.inl ne_sb_vb)
  have FN := FN.other W173 (Or.inl ne_sb_vb)
  have Vb := tmp173
  refine own_go 75 X173 hx (hb hby own_d407) (by decide) (by decide) ?_
  refine own_aln 76 X173 hx (hb hby own_d408) rfl rfl rfl ?_
  exact own_retA X173 hx Bd.returns rfl hlk (hb hby own_d409) rfl (by decide) (by decide) (by rw [e173]; exact ⟨rfl, N173, KP, E_sb, FV, FC, FN, Vb⟩)
set_option maxRecDepth 65536 in
set_option maxHeartbeats 40000000 in
theorem own_rmAC_2 (l : Launch) (Z : State) (a0 : Array Value) (hw : ∀ d ∈ tables_1, d.before a0 Z = true) (ws : List Jvm.Cond) (G1 : Int32) (sb vb : Addr) (kv : ClassId) (u0 u1 u2 u3 u4 u5 u6 u7 u8 u9 u10 u11 u12 u13 u14 u15 : Int32) (h0 : Heap) (n0 : Nat) (Z0 : n0 ≤ h0.size) (OL : Old Z n0 h0) (ge_sb : n0 ≤ sb) (ge_vb : n0 ≤ vb) (ne_sb_vb : sb ≠ vb) (E_sb : Exa Z h0 sb "java/lang/StringBuilder") (FV : Fld Z h0 sb "java/lang/AbstractStringBuilder" "value" "[B" (.ref vb)) (FC : Fld Z h0 sb "java/lang/AbstractStringBuilder" "coder" "B" (.int (0 : Int32))) (FN : Fld Z h0 sb "java/lang/AbstractStringBuilder" "count" "I" (.int (2 : Int32))) (Vb : Arv Z h0 vb kv .byte (16 : Int32) [(.int u0), (.int u1), (.int u2), (.int u3), (.int u4), (.int u5), (.int u6), (.int u7), (.int u8), (.int u9), (.int u10), (.int u11), (.int u12), (.int u13), (.int u14), (.int u15)] (.int (0 : Int32))) (O2 : Sta Z Z.heap "java/lang/String" "COMPACT_STRINGS" "Z" (.int G1)) (P5 : ¬ (G1 = (0 : Int32))) :
    own_MF l (⟨"java/lang/AbstractStringBuilder", "append", "(C)Ljava/lang/AbstractStringBuilder;"⟩ : MethodName) (Jvm.Cond.code (⟨"java/lang/AbstractStringBuilder", "append", "(C)Ljava/lang/AbstractStringBuilder;"⟩ : MethodName) jdk_68_method_31_code 2 (some (.object "java/lang/AbstractStringBuilder")) :: ws) ({ frames := 1, cells := 0, slots := 0, locals := 16 } : Room) #[(.ref sb), (.int (34 : Int32))] Z h0 (own_QBD Z sb (3 : Int32) vb kv [(.int u0), (.int u1), (.int ((34 : Int32).toInt8.toInt32)), (.int u3), (.int u4), (.int u5), (.int u6), (.int u7), (.int u8), (.int u9), (.int u10), (.int u11), (.int u12), (.int u13), (.int u14), (.int u15)] h0 n0) := by
  refine MetFree.of_bodySF (plainFor_of_name own_pn3) hisR ?_
  intro p e s m args below meth c s₁ Bd hml0 hP hK
  obtain ⟨rfl, hZ, hh⟩ := hP
  have hx := Bd.exec
  have hby := Bd.bytes
  have hlk : meth.locks = false := BodyLoose.notSynchronized Bd
  have hml : c.maxLocals = 2 := hml0
  have hown : s.vm.findClass "java/lang/AbstractStringBuilder" = some m.cls := findClass_of_methodNamed Bd.named
  have hnm := (name_of_methodNamed Bd.named Bd.method).1
  have X0 : Stand p l e ({ frames := 1, cells := 0, slots := 0, locals := 16 } : Room) s m #[(.ref sb), (.int (34 : Int32))] below meth c s₁ [] 0 0 := Stand.of_body Bd
  have e0 : s₁.heap = h0 := by rw [← hh, Bd.state]; rfl
  have N0 := Fr.nil n0
  have KP : Keep h0 h0 [sb, vb] := Keep.refl _ _
  refine own_start (Fin := (own_Fin s (own_QBD Z sb (3 : Int32) vb kv [(.int u0), (.int u1), (.int ((34 : Int32).toInt8.toInt32)), (.int u3), (.int u4), (.int u5), (.int u6), (.int u7), (.int u8), (.int u9), (.int u10), (.int u11), (.int u12), (.int u13), (.int u14), (.int u15)] h0 n0) ({ frames := 1, cells := 0, slots := 0, locals := 16 } : Room).cells ({ frames := 1, cells := 0, slots := 0, locals := 16 } : Room).slots)) (own_from (mkF m 0 #[rv sb, iv 34] []) (castTop (own_ef_AC_2 m sb (34 : Int32))) ?_)
  refine own_aln 1 X0 hx (hb hby own_d383) rfl rfl rfl ?_
  refine own_aln 2 X0 hx (hb hby own_d384) rfl rfl rfl ?_
  obtain ⟨T174, X174, e174, st174⟩ := getF X0 hx hZ hown (host := "") (Or.inl (own_w hw 84 rfl)) Via.refl e0 FN (g := (mkF m 2 #[rv sb, iv 34] [(.ref sb), (.ref sb)])) rfl rfl (hb hby own_d385)
  refine own_to (mkF m 5 #[rv sb, iv 34] [(.int (2 : Int32)), (.ref sb)]) st174 ?_
  refine own_ic 6 1 X174 hx (hb hby own_d386) rfl rfl ?_
  refine own_iadd 7 X174 hx (hb hby own_d387) (z := (3 : Int32)) rfl rfl ?_
  obtain ⟨_, T175, Lc175, X175, hQ175, st175⟩ := own_priv X174 hx (y := (⟨"java/lang/AbstractStringBuilder", "ensureCapacityInternal", "(I)V"⟩ : MethodName)) hown (mvT hZ (own_w hw 86 rfl)) (mvT hZ (own_w hw 87 rfl)) (mvT hZ (own_w hw 89 rfl)) (mvP hZ (own_w hw 88 rfl)) (mvT hZ (own_w hw 90 rfl)) (by decide) (backOf (W := 0) (own_rmEC l Z a0 hw [] sb vb kv _ (3 : Int32) h0 n0 (Nat.le_trans Z0 KP.1) OL E_sb FV FC Vb (by decide)) hZ (own_w hw 90 rfl) (own_w hw 66 rfl) (by decide) (by decide)) (Exa.cell E_sb) (g := (mkF m 7 #[rv sb, iv 34] [(.int (3 : Int32)), (.ref sb)])) rfl (by rw [hml]; rfl) (argsL := [(.int (3 : Int32))]) (rest := []) (lenOf own_pd2 rfl) rfl (by show 2 * 0 + _ ≤ _; exact Nat.le_of_eq rfl) (hb hby own_d388) rfl e174 (kc := 0) (ks := 0) rfl rfl (by decide) (by decide)
  obtain ⟨rfl, N175q, e175⟩ := hQ175
  have N175 := Fr.app N0 N175q
  refine own_via (mkF m 10 #[rv sb, iv 34] []) st175 ?_
  refine own_aln 11 X175 hx (hb hby own_d389) rfl rfl rfl ?_
  obtain ⟨cq176, kq176, q176a, q176b, q176c⟩ := isOf hZ e175 E_sb
  obtain ⟨_, T176, Lc176, X176, hQ176, st176⟩ := own_virtual X175 hx (y := (⟨"java/lang/AbstractStringBuilder", "isLatin1", "()Z"⟩ : MethodName)) (z := (⟨"java/lang/AbstractStringBuilder", "isLatin1", "()Z"⟩ : MethodName)) hown (mvT hZ (own_w hw 91 rfl)) (mvT hZ (own_w hw 92 rfl)) (notFace_of_selects (args := #[]) (mvT hZ (own_w hw 94 rfl))) (mvT hZ (own_w hw 94 rfl)) (mvT hZ (own_w hw 93 rfl)) (by decide) (backOf (W := 0) (own_rmA1 l Z a0 hw [] G1 sb h0 n0 (Nat.le_trans Z0 KP.1) OL FC O2 P5) hZ (own_w hw 95 rfl) (own_w hw 66 rfl) (by decide) (by decide)) q176a q176c (g := (mkF m 11 #[rv sb, iv 34] [(.ref sb)])) rfl (by rw [hml]; rfl) (argsL := []) (rest := []) (lenOf own_pd9 rfl) rfl (by show 2 * 0 + _ ≤ _; exact Nat.le_of_eq rfl) (hb hby own_d390) rfl e175 (kc := 0) (ks := 0) rfl rfl (by decide) (by decide)
  obtain ⟨rfl, N176q, e176⟩ := hQ176
  have N176 := Fr.app N175 N176q
  refine own_via (mkF m 14 #[rv sb, iv 34] [(.int (1 : Int32))]) st176 ?_
  refine own_ifN 17 X176 hx (hb hby own_d391) ((if0 _ _).trans (feq (by decide : ¬ ((1 : Int32) = (0 : Int32)))).1) rfl ?_
  refine own_iln 18 X176 hx (hb hby own_d392) rfl rfl ?_
  obtain ⟨_, T177, Lc177, X177, hQ177, st177⟩ := own_callS X176 hx (y := (⟨"java/lang/StringLatin1", "canEncode", "(C)Z"⟩ : MethodName)) hown (mvT hZ (own_w hw 96 rfl)) (mvT hZ (own_w hw 97 rfl)) (mvT hZ (own_w hw 98 rfl)) (mvT hZ (own_w hw 99 rfl)) (by decide) (backOf (W := 0) (own_rmCE l Z a0 hw []  h0 n0 (Nat.le_trans Z0 KP.1) OL ) hZ (own_w hw 99 rfl) (own_w hw 98 rfl) (by decide) (by decide)) (g := (mkF m 18 #[rv sb, iv 34] [(.int (34 : Int32))])) rfl (by rw [hml]; rfl) (argsL := [(.int (34 : Int32))]) (rest := []) (lenOf own_pd10 rfl) rfl (by show 2 * 0 + _ ≤ _; exact Nat.le_of_eq rfl) (hb hby own_d393) rfl e176 (kc := 0) (ks := 0) rfl rfl (by decide) (by decide)
  obtain ⟨rfl, N177q, e177⟩ := hQ177
  have N177 := Fr.app N176 N177q
  refine own_to (mkF m 21 #[rv sb, iv 34] [(.int (1 : Int32))]) st177 ?_
  refine own_ifN 24 X177 hx (hb hby own_d394) ((if0 _ _).trans (feq (by decide : ¬ ((1 : Int32) = (0 : Int32)))).1) rfl ?_
  refine own_aln 25 X177 hx (hb hby own_d395) rfl rfl rfl ?_
  obtain ⟨T178, X178, e178, st178⟩ := getF X177 hx hZ hown (host := "") (Or.inl (own_w hw 70 rfl)) Via.refl e177 FV (g := (mkF m 25 #[rv sb, iv 34] [(.ref sb)])) rfl rfl (hb hby own_d396)
  refine own_to (mkF m 28 #[rv sb, iv 34] [(.ref vb)]) st178 ?_
  refine own_aln 29 X178 hx (hb hby own_d397) rfl rfl rfl ?_
  refine own_dup 30 X178 hx (hb hby own_d398) rfl rfl ?_
  obtain ⟨T179, X179, e179, st179⟩ := getF X178 hx hZ hown (host := "") (Or.inl (own_w hw 84 rfl)) Via.refl e178 FN (g := (mkF m 30 #[rv sb, iv 34] [(.ref sb), (.ref sb), (.ref vb)])) rfl rfl (hb hby own_d399)
  refine own_to (mkF m 33 #[rv sb, iv 34] [(.int (2 : Int32)), (.ref sb), (.ref vb)]) st179 ?_
  refine own_to (T' := T179) (mkF m 34 #[rv sb, iv 34] [(.int (2 : Int32)), (.ref sb), (.int (2 : Int32)), (.ref vb)]) (fun _ k => XS.dupX1 X179.here hx rfl (hb hby own_d400) rfl rfl rfl k) ?_
  refine own_ic 35 1 X179 hx (hb hby own_d401) rfl rfl ?_
  refine own_iadd 36 X179 hx (hb hby own_d402) (z := (3 : Int32)) rfl rfl ?_
  obtain ⟨T180, h180, X180, e180, W180, st180⟩ := putF X179 hx hZ hown (host := "") (Or.inl (own_w hw 84 rfl)) Via.refl e179 FN E_sb (Or.inl (own_w hw 85 rfl)) (own_w hw 57 rfl) (ty := .int) (by decide) rfl rfl (g := (mkF m 36 #[rv sb, iv 34] [(.int (3 : Int32)), (.ref sb), (.int (2 : Int32)), (.ref vb)])) rfl rfl (hb hby own_d403)
  refine own_to (mkF m 39 #[rv sb, iv 34] [(.int (2 : Int32)), (.ref vb)]) st180 ?_
  have N180 := Fr.snoc X180 N177 ge_sb
  have tmp180 : Fld Z h180 sb "java/lang/AbstractStringBuilder" "count" "I" (.int (3 : Int32)) := FN.same W180
  have OL := OL.wr W180 ge_sb
  have KP := KP.wr W180 (Or.inl (List.mem_of_getElem? (i := 0) rfl))
  have E_sb := E_sb.wr W180
  have FV := FV.other W180 (Or.inr (slot_ne (Or.inl (own_w hw 71 rfl)) (Or.inl (own_w hw 85 rfl)) (by decide) (t := (.array .byte)) (t' := .int) (by decide) (by decide)))
  have FC := FC.other W180 (Or.inr (slot_ne (Or.inl (own_w hw 73 rfl)) (Or.inl (own_w hw 85 rfl)) (by decide) (t := .byte) (t' := .int) (by decide) (by decide)))
  have Vb := Vb.other W180 (Ne.symm ne_sb_vb)
  have FN := tmp180
  refine own_iln 40 X180 hx (hb hby own_d404) rfl rfl ?_
  refine own_i2b 41 X180 hx (hb hby own_d405) rfl rfl ?_
  obtain ⟨cl181, Ar181, q181, S181, M181, H181, G181⟩ := id Vb
  obtain ⟨T181, h181, X181, e181, W181, st181⟩ := stB X180 hx hZ e180 Ar181 (j := (2 : Int32)) (inb_of S181 ⟨by decide, by decide⟩) (g := (mkF m 41 #[rv sb, iv 34] [(.int ((34 : Int32).toInt8.toInt32)), (.int (2 : Int32)), (.ref vb)])) rfl rfl (hb hby own_d406)
  refine own_to (mkF m 42 #[rv sb, iv 34] []) st181 ?_
  have N181 := Fr.snoc X181 N180 ge_vb
  have tmp181 : Arv Z h181 vb kv .byte (16 : Int32) [(.int u0), (.int u1), (.int (((34 : Int32).toInt8.toInt32).toInt8.toInt32)), (.int u3), (.int u4), (.int u5), (.int u6), (.int u7), (.int u8), (.int u9), (.int u10), (.int u11), (.int u12), (.int u13), (.int u14), (.int u15)] (.int (0 : Int32)) := Arv.set Ar181 q181 S181 M181 H181 G181 (fits_nar_byte _) W181 2 rfl (Nat.le_of_ble_eq_true rfl)
  rw [own_b8] at tmp181
  have OL := OL.wr W181 ge_vb
  have KP := KP.wr W181 (Or.inl (List.mem_of_getElem? (i := 1) rfl))
  have E_sb := E_sb.wr W181
  have FV := FV.other W181 (Or.inl ne_sb_vb)
  have FC := FC.other W181 (Or.inl ne_sb_vb)
  have FN := FN.other W181 (Or.inl ne_sb_vb)
  have Vb := tmp181
  refine own_go 75 X181 hx (hb hby own_d407) (by decide) (by decide) ?_
  refine own_aln 76 X181 hx (hb hby own_d408) rfl rfl rfl ?_
  exact own_retA X181 hx Bd.returns rfl hlk (hb hby own_d409) rfl (by decide) (by decide) (by rw [e181]; exact ⟨rfl, N181, KP, E_sb, FV, FC, FN, Vb⟩)
set_option maxRecDepth 65536 in
set_option maxHeartbeats 40000000 in
theorem own_rmAC_3 (l : Launch) (Z : State) (a0 : Array Value) (hw : ∀ d ∈ tables_1, d.before a0 Z = true) (ws : List Jvm.Cond) (G1 : Int32) (sb vb : Addr) (kv : ClassId) (u0 u1 u2 u3 u4 u5 u6 u7 u8 u9 u10 u11 u12 u13 u14 u15 : Int32) (h0 : Heap) (n0 : Nat) (Z0 : n0 ≤ h0.size) (OL : Old Z n0 h0) (ge_sb : n0 ≤ sb) (ge_vb : n0 ≤ vb) (ne_sb_vb : sb ≠ vb) (E_sb : Exa Z h0 sb "java/lang/StringBuilder") (FV : Fld Z h0 sb "java/lang/AbstractStringBuilder" "value" "[B" (.ref vb)) (FC : Fld Z h0 sb "java/lang/AbstractStringBuilder" "coder" "B" (.int (0 : Int32))) (FN : Fld Z h0 sb "java/lang/AbstractStringBuilder" "count" "I" (.int (3 : Int32))) (Vb : Arv Z h0 vb kv .byte (16 : Int32) [(.int u0), (.int u1), (.int u2), (.int u3), (.int u4), (.int u5), (.int u6), (.int u7), (.int u8), (.int u9), (.int u10), (.int u11), (.int u12), (.int u13), (.int u14), (.int u15)] (.int (0 : Int32))) (O2 : Sta Z Z.heap "java/lang/String" "COMPACT_STRINGS" "Z" (.int G1)) (P5 : ¬ (G1 = (0 : Int32))) :
    own_MF l (⟨"java/lang/AbstractStringBuilder", "append", "(C)Ljava/lang/AbstractStringBuilder;"⟩ : MethodName) (Jvm.Cond.code (⟨"java/lang/AbstractStringBuilder", "append", "(C)Ljava/lang/AbstractStringBuilder;"⟩ : MethodName) jdk_68_method_31_code 2 (some (.object "java/lang/AbstractStringBuilder")) :: ws) ({ frames := 1, cells := 0, slots := 0, locals := 16 } : Room) #[(.ref sb), (.int (34 : Int32))] Z h0 (own_QBD Z sb (4 : Int32) vb kv [(.int u0), (.int u1), (.int u2), (.int ((34 : Int32).toInt8.toInt32)), (.int u4), (.int u5), (.int u6), (.int u7), (.int u8), (.int u9), (.int u10), (.int u11), (.int u12), (.int u13), (.int u14), (.int u15)] h0 n0) := by
  refine MetFree.of_bodySF (plainFor_of_name own_pn3) hisR ?_
  intro p e s m args below meth c s₁ Bd hml0 hP hK
  obtain ⟨rfl, hZ, hh⟩ := hP
  have hx := Bd.exec
  have hby := Bd.bytes
  have hlk : meth.locks = false := BodyLoose.notSynchronized Bd
  have hml : c.maxLocals = 2 := hml0
  have hown : s.vm.findClass "java/lang/AbstractStringBuilder" = some m.cls := findClass_of_methodNamed Bd.named
  have hnm := (name_of_methodNamed Bd.named Bd.method).1
  have X0 : Stand p l e ({ frames := 1, cells := 0, slots := 0, locals := 16 } : Room) s m #[(.ref sb), (.int (34 : Int32))] below meth c s₁ [] 0 0 := Stand.of_body Bd
  have e0 : s₁.heap = h0 := by rw [← hh, Bd.state]; rfl
  have N0 := Fr.nil n0
  have KP : Keep h0 h0 [sb, vb] := Keep.refl _ _
  refine own_start (Fin := (own_Fin s (own_QBD Z sb (4 : Int32) vb kv [(.int u0), (.int u1), (.int u2), (.int ((34 : Int32).toInt8.toInt32)), (.int u4), (.int u5), (.int u6), (.int u7), (.int u8), (.int u9), (.int u10), (.int u11), (.int u12), (.int u13), (.int u14), (.int u15)] h0 n0) ({ frames := 1, cells := 0, slots := 0, locals := 16 } : Room).cells ({ frames := 1, cells := 0, slots := 0, locals := 16 } : Room).slots)) (own_from (mkF m 0 #[rv sb, iv 34] []) (castTop (own_ef_AC_3 m sb (34 : Int32))) ?_)
  refine own_aln 1 X0 hx (hb hby own_d383) rfl rfl rfl ?_
  refine own_aln 2 X0 hx (hb hby own_d384) rfl rfl rfl ?_
  obtain ⟨T182, X182, e182, st182⟩ := getF X0 hx hZ hown (host := "") (Or.inl (own_w hw 84 rfl)) Via.refl e0 FN (g := (mkF m 2 #[rv sb, iv 34] [(.ref sb), (.ref sb)])) rfl rfl (hb hby own_d385)
  refine own_to (mkF m 5 #[rv sb, iv 34] [(.int (3 : Int32)), (.ref sb)]) st182 ?_
  refine own_ic 6 1 X182 hx (hb hby own_d386) rfl rfl ?_
  refine own_iadd 7 X182 hx (hb hby own_d387) (z := (4 : Int32)) rfl rfl ?_
  obtain ⟨_, T183, Lc183, X183, hQ183, st183⟩ := own_priv X182 hx (y := (⟨"java/lang/AbstractStringBuilder", "ensureCapacityInternal", "(I)V"⟩ : MethodName)) hown (mvT hZ (own_w hw 86 rfl)) (mvT hZ (own_w hw 87 rfl)) (mvT hZ (own_w hw 89 rfl)) (mvP hZ (own_w hw 88 rfl)) (mvT hZ (own_w hw 90 rfl)) (by decide) (backOf (W := 0) (own_rmEC l Z a0 hw [] sb vb kv _ (4 : Int32) h0 n0 (Nat.le_trans Z0 KP.1) OL E_sb FV FC Vb (by decide)) hZ (own_w hw 90 rfl) (own_w hw 66 rfl) (by decide) (by decide)) (Exa.cell E_sb) (g := (mkF m 7 #[rv sb, iv 34] [(.int (4 : Int32)), (.ref sb)])) rfl (by rw [hml]; rfl) (argsL := [(.int (4 : Int32))]) (rest := []) (lenOf own_pd2 rfl) rfl (by show 2 * 0 + _ ≤ _; exact Nat.le_of_eq rfl) (hb hby own_d388) rfl e182 (kc := 0) (ks := 0) rfl rfl (by decide) (by decide)
  obtain ⟨rfl, N183q, e183⟩ := hQ183
  have N183 := Fr.app N0 N183q
  refine own_via (mkF m 10 #[rv sb, iv 34] []) st183 ?_
  refine own_aln 11 X183 hx (hb hby own_d389) rfl rfl rfl ?_
  obtain ⟨cq184, kq184, q184a, q184b, q184c⟩ := isOf hZ e183 E_sb
  obtain ⟨_, T184, Lc184, X184, hQ184, st184⟩ := own_virtual X183 hx (y := (⟨"java/lang/AbstractStringBuilder", "isLatin1", "()Z"⟩ : MethodName)) (z := (⟨"java/lang/AbstractStringBuilder", "isLatin1", "()Z"⟩ : MethodName)) hown (mvT hZ (own_w hw 91 rfl)) (mvT hZ (own_w hw 92 rfl)) (notFace_of_selects (args := #[]) (mvT hZ (own_w hw 94 rfl))) (mvT hZ (own_w hw 94 rfl)) (mvT hZ (own_w hw 93 rfl)) (by decide) (backOf (W := 0) (own_rmA1 l Z a0 hw [] G1 sb h0 n0 (Nat.le_trans Z0 KP.1) OL FC O2 P5) hZ (own_w hw 95 rfl) (own_w hw 66 rfl) (by decide) (by decide)) q184a q184c (g := (mkF m 11 #[rv sb, iv 34] [(.ref sb)])) rfl (by rw [hml]; rfl) (argsL := []) (rest := []) (lenOf own_pd9 rfl) rfl (by show 2 * 0 + _ ≤ _; exact Nat.le_of_eq rfl) (hb hby own_d390) rfl e183 (kc := 0) (ks := 0) rfl rfl (by decide) (by decide)
  obtain ⟨rfl, N184q, e184⟩ := hQ184
  have N184 := Fr.app N183 N184q
  refine own_via (mkF m 14 #[rv sb, iv 34] [(.int (1 : Int32))]) st184 ?_
  refine own_ifN 17 X184 hx (hb hby own_d391) ((if0 _ _).trans (feq (by decide : ¬ ((1 : Int32) = (0 : Int32)))).1) rfl ?_
  refine own_iln 18 X184 hx (hb hby own_d392) rfl rfl ?_
  obtain ⟨_, T185, Lc185, X185, hQ185, st185⟩ := own_callS X184 hx (y := (⟨"java/lang/StringLatin1", "canEncode", "(C)Z"⟩ : MethodName)) hown (mvT hZ (own_w hw 96 rfl)) (mvT hZ (own_w hw 97 rfl)) (mvT hZ (own_w hw 98 rfl)) (mvT hZ (own_w hw 99 rfl)) (by decide) (backOf (W := 0) (own_rmCE l Z a0 hw []  h0 n0 (Nat.le_trans Z0 KP.1) OL ) hZ (own_w hw 99 rfl) (own_w hw 98 rfl) (by decide) (by decide)) (g := (mkF m 18 #[rv sb, iv 34] [(.int (34 : Int32))])) rfl (by rw [hml]; rfl) (argsL := [(.int (34 : Int32))]) (rest := []) (lenOf own_pd10 rfl) rfl (by show 2 * 0 + _ ≤ _; exact Nat.le_of_eq rfl) (hb hby own_d393) rfl e184 (kc := 0) (ks := 0) rfl rfl (by decide) (by decide)
  obtain ⟨rfl, N185q, e185⟩ := hQ185
  have N185 := Fr.app N184 N185q
  refine own_to (mkF m 21 #[rv sb, iv 34] [(.int (1 : Int32))]) st185 ?_
  refine own_ifN 24 X185 hx (hb hby own_d394) ((if0 _ _).trans (feq (by decide : ¬ ((1 : Int32) = (0 : Int32)))).1) rfl ?_
  refine own_aln 25 X185 hx (hb hby own_d395) rfl rfl rfl ?_
  obtain ⟨T186, X186, e186, st186⟩ := getF X185 hx hZ hown (host := "") (Or.inl (own_w hw 70 rfl)) Via.refl e185 FV (g := (mkF m 25 #[rv sb, iv 34] [(.ref sb)])) rfl rfl (hb hby own_d396)
  refine own_to (mkF m 28 #[rv sb, iv 34] [(.ref vb)]) st186 ?_
  refine own_aln 29 X186 hx (hb hby own_d397) rfl rfl rfl ?_
  refine own_dup 30 X186 hx (hb hby own_d398) rfl rfl ?_
  obtain ⟨T187, X187, e187, st187⟩ := getF X186 hx hZ hown (host := "") (Or.inl (own_w hw 84 rfl)) Via.refl e186 FN (g := (mkF m 30 #[rv sb, iv 34] [(.ref sb), (.ref sb), (.ref vb)])) rfl rfl (hb hby own_d399)
  refine own_to (mkF m 33 #[rv sb, iv 34] [(.int (3 : Int32)), (.ref sb), (.ref vb)]) st187 ?_
  refine own_to (T' := T187) (mkF m 34 #[rv sb, iv 34] [(.int (3 : Int32)), (.ref sb), (.int (3 : Int32)), (.ref vb)]) (fun _ k => XS.dupX1 X187.here hx rfl (hb hby own_d400) rfl rfl rfl k) ?_
  refine own_ic 35 1 X187 hx (hb hby own_d401) rfl rfl ?_
  refine own_iadd 36 X187 hx (hb hby own_d402) (z := (4 : Int32)) rfl rfl ?_
  obtain ⟨T188, h188, X188, e188, W188, st188⟩ := putF X187 hx hZ hown (host := "") (Or.inl (own_w hw 84 rfl)) Via.refl e187 FN E_sb (Or.inl (own_w hw 85 rfl)) (own_w hw 57 rfl) (ty := .int) (by decide) rfl rfl (g := (mkF m 36 #[rv sb, iv 34] [(.int (4 : Int32)), (.ref sb), (.int (3 : Int32)), (.ref vb)])) rfl rfl (hb hby own_d403)
  refine own_to (mkF m 39 #[rv sb, iv 34] [(.int (3 : Int32)), (.ref vb)]) st188 ?_
  have N188 := Fr.snoc X188 N185 ge_sb
  have tmp188 : Fld Z h188 sb "java/lang/AbstractStringBuilder" "count" "I" (.int (4 : Int32)) := FN.same W188
  have OL := OL.wr W188 ge_sb
  have KP := KP.wr W188 (Or.inl (List.mem_of_getElem? (i := 0) rfl))
  have E_sb := E_sb.wr W188
  have FV := FV.other W188 (Or.inr (slot_ne (Or.inl (own_w hw 71 rfl)) (Or.inl (own_w hw 85 rfl)) (by decide) (t := (.array .byte)) (t' := .int) (by decide) (by decide)))
  have FC := FC.other W188 (Or.inr (slot_ne (Or.inl (own_w hw 73 rfl)) (Or.inl (own_w hw 85 rfl)) (by decide) (t := .byte) (t' := .int) (by decide) (by decide)))
  have Vb := Vb.other W188 (Ne.symm ne_sb_vb)
  have FN := tmp188
  refine own_iln 40 X188 hx (hb hby own_d404) rfl rfl ?_
  refine own_i2b 41 X188 hx (hb hby own_d405) rfl rfl ?_
  obtain ⟨cl189, Ar189, q189, S189, M189, H189, G189⟩ := id Vb
  obtain ⟨T189, h189, X189, e189, W189, st189⟩ := stB X188 hx hZ e188 Ar189 (j := (3 : Int32)) (inb_of S189 ⟨by decide, by decide⟩) (g := (mkF m 41 #[rv sb, iv 34] [(.int ((34 : Int32).toInt8.toInt32)), (.int (3 : Int32)), (.ref vb)])) rfl rfl (hb hby own_d406)
  refine own_to (mkF m 42 #[rv sb, iv 34] []) st189 ?_
  have N189 := Fr.snoc X189 N188 ge_vb
  have tmp189 : Arv Z h189 vb kv .byte (16 : Int32) [(.int u0), (.int u1), (.int u2), (.int (((34 : Int32).toInt8.toInt32).toInt8.toInt32)), (.int u4), (.int u5), (.int u6), (.int u7), (.int u8), (.int u9), (.int u10), (.int u11), (.int u12), (.int u13), (.int u14), (.int u15)] (.int (0 : Int32)) := Arv.set Ar189 q189 S189 M189 H189 G189 (fits_nar_byte _) W189 3 rfl (Nat.le_of_ble_eq_true rfl)
  rw [own_b8] at tmp189
  have OL := OL.wr W189 ge_vb
  have KP := KP.wr W189 (Or.inl (List.mem_of_getElem? (i := 1) rfl))
  have E_sb := E_sb.wr W189
  have FV := FV.other W189 (Or.inl ne_sb_vb)
  have FC := FC.other W189 (Or.inl ne_sb_vb)
  have FN := FN.other W189 (Or.inl ne_sb_vb)
  have Vb := tmp189
  refine own_go 75 X189 hx (hb hby own_d407) (by decide) (by decide) ?_
  refine own_aln 76 X189 hx (hb hby own_d408) rfl rfl rfl ?_
  exact own_retA X189 hx Bd.returns rfl hlk (hb hby own_d409) rfl (by decide) (by decide) (by rw [e189]; exact ⟨rfl, N189, KP, E_sb, FV, FC, FN, Vb⟩)
set_option maxRecDepth 65536 in
set_option maxHeartbeats 40000000 in
theorem own_rmSC (l : Launch) (Z : State) (a0 : Array Value) (hw : ∀ d ∈ tables_1, d.before a0 Z = true) (ws : List Jvm.Cond) (sb : Addr) (cn : Int32) (vb : Addr) (kv : ClassId) (us' : List Value) (h0 : Heap) (n0 : Nat) (Z0 : n0 ≤ h0.size) (OL : Old Z n0 h0) (ge_sb : n0 ≤ sb) (ge_vb : n0 ≤ vb) (E_sb : Exa Z h0 sb "java/lang/StringBuilder") (hAC : own_MF l (⟨"java/lang/AbstractStringBuilder", "append", "(C)Ljava/lang/AbstractStringBuilder;"⟩ : MethodName) [Jvm.Cond.code (⟨"java/lang/AbstractStringBuilder", "append", "(C)Ljava/lang/AbstractStringBuilder;"⟩ : MethodName) jdk_68_method_31_code 2 (some (.object "java/lang/AbstractStringBuilder"))] ({ frames := 1, cells := 0, slots := 0, locals := 16 } : Room) #[(.ref sb), (.int (34 : Int32))] Z h0 (own_QBD Z sb cn vb kv us' h0 n0)) :
    own_MF l (⟨"java/lang/StringBuilder", "append", "(C)Ljava/lang/StringBuilder;"⟩ : MethodName) (Jvm.Cond.code (⟨"java/lang/StringBuilder", "append", "(C)Ljava/lang/StringBuilder;"⟩ : MethodName) jdk_67_method_14_code 2 (some (.object "java/lang/StringBuilder")) :: ws) ({ frames := 2, cells := 0, slots := 0, locals := 32 } : Room) #[(.ref sb), (.int (34 : Int32))] Z h0 (own_QBD Z sb cn vb kv us' h0 n0) := by
  refine MetFree.of_bodySF (plainFor_of_name own_pn4) hisR ?_
  intro p e s m args below meth c s₁ Bd hml0 hP hK
  obtain ⟨rfl, hZ, hh⟩ := hP
  have hx := Bd.exec
  have hby := Bd.bytes
  have hlk : meth.locks = false := BodyLoose.notSynchronized Bd
  have hml : c.maxLocals = 2 := hml0
  have hown : s.vm.findClass "java/lang/StringBuilder" = some m.cls := findClass_of_methodNamed Bd.named
  have hnm := (name_of_methodNamed Bd.named Bd.method).1
  have X0 : Stand p l e ({ frames := 2, cells := 0, slots := 0, locals := 32 } : Room) s m #[(.ref sb), (.int (34 : Int32))] below meth c s₁ [] 0 0 := Stand.of_body Bd
  have e0 : s₁.heap = h0 := by rw [← hh, Bd.state]; rfl
  have N0 := Fr.nil n0
  have KP : Keep h0 h0 [sb, vb] := Keep.refl _ _
  refine own_start (Fin := (own_Fin s (own_QBD Z sb cn vb kv us' h0 n0) ({ frames := 2, cells := 0, slots := 0, locals := 32 } : Room).cells ({ frames := 2, cells := 0, slots := 0, locals := 32 } : Room).slots)) (own_from (mkF m 0 #[rv sb, iv 34] []) (castTop (own_ef_SC m sb (34 : Int32))) ?_)
  refine own_aln 1 X0 hx (hb hby own_d410) rfl rfl rfl ?_
  refine own_iln 2 X0 hx (hb hby own_d411) rfl rfl ?_
  obtain ⟨_, T190, Lc190, X190, hQ190, st190⟩ := own_super X0 hx hZ (y := (⟨"java/lang/AbstractStringBuilder", "append", "(C)Ljava/lang/AbstractStringBuilder;"⟩ : MethodName)) hown (own_w hw 79 rfl) (own_sameM (own_w hw 80 rfl) (own_w hw 89 rfl) rfl (by decide)) (own_w hw 80 rfl) (own_w hw 81 rfl) (by decide) (own_w hw 83 rfl) (backOf (W := 0) hAC hZ (own_w hw 83 rfl) (own_w hw 66 rfl) (by decide) (by decide)) (Ins.self E_sb) (g := (mkF m 2 #[rv sb, iv 34] [(.int (34 : Int32)), (.ref sb)])) rfl (by rw [hml]; rfl) (argsL := [(.int (34 : Int32))]) (rest := []) (lenOf own_pd11 rfl) rfl (by show 2 * 0 + _ ≤ _; exact Nat.le_of_eq rfl) (hb hby own_d412) rfl e0 (kc := 0) (ks := 0) rfl rfl (by decide) (by decide)
  obtain ⟨rfl, N190q, K190, hrest190⟩ := hQ190
  have N190 := Fr.app N0 N190q
  have OL := OL.keep K190 (allS ge_sb (allS ge_vb all0))
  have KP := KP.trans K190 (allS (Or.inl (List.mem_of_getElem? (i := 0) rfl)) (allS (Or.inl (List.mem_of_getElem? (i := 1) rfl)) all0))
  have E_sb := E_sb.keep K190
  refine own_via (mkF m 5 #[rv sb, iv 34] [(.ref sb)]) st190 ?_
  refine own_to (T' := T190) (mkF m 6 #[rv sb, iv 34] []) (fun _ k => XS.pop X190.here hx rfl (hb hby own_d413) rfl rfl k) ?_
  refine own_aln 7 X190 hx (hb hby own_d414) rfl rfl rfl ?_
  exact own_retA X190 hx Bd.returns rfl hlk (hb hby own_d415) rfl (by decide) (by decide) (by exact ⟨rfl, N190, KP, hrest190⟩)
def own_QCL (Z : State) (kk : Int32) (h0 : Heap) (n0 : Nat) (v : Option Value) (h : Heap) (L : List Loc) : Prop := v = none ∧ Fr n0 L ∧ h = h0
set_option maxRecDepth 65536 in
set_option maxHeartbeats 40000000 in
theorem own_rmCL (l : Launch) (Z : State) (a0 : Array Value) (hw : ∀ d ∈ tables_1, d.before a0 Z = true) (ws : List Jvm.Cond) (kk : Int32) (h0 : Heap) (n0 : Nat) (Z0 : n0 ≤ h0.size) (OL : Old Z n0 h0) (hk0 : ¬ (kk < (0 : Int32))) :
    own_MF l (⟨"java/util/Arrays", "checkLength", "(II)V"⟩ : MethodName) (Jvm.Cond.code (⟨"java/util/Arrays", "checkLength", "(II)V"⟩ : MethodName) jdk_65_method_131_code 2 none :: ws) ({ frames := 0, cells := 0, slots := 0, locals := 0 } : Room) #[(.int (0 : Int32)), (.int kk)] Z h0 (own_QCL Z kk h0 n0) := by
  refine MetFree.of_bodySF (plainFor_of_name own_pn6) hisR ?_
  intro p e s m args below meth c s₁ Bd hml0 hP hK
  obtain ⟨rfl, hZ, hh⟩ := hP
  have hx := Bd.exec
  have hby := Bd.bytes
  have hlk : meth.locks = false := BodyLoose.notSynchronized Bd
  have hml : c.maxLocals = 2 := hml0
  have hown : s.vm.findClass "java/util/Arrays" = some m.cls := findClass_of_methodNamed Bd.named
  have hnm := (name_of_methodNamed Bd.named Bd.method).1
  have X0 : Stand p l e ({ frames := 0, cells := 0, slots := 0, locals := 0 } : Room) s m #[(.int (0 : Int32)), (.int kk)] below meth c s₁ [] 0 0 := Stand.of_body Bd
  have e0 : s₁.heap = h0 := by rw [← hh, Bd.state]; rfl
  have N0 := Fr.nil n0
  have KP : Keep h0 h0 [] := Keep.refl _ _
  refine own_start (Fin := (own_Fin s (own_QCL Z kk h0 n0) ({ frames := 0, cells := 0, slots := 0, locals := 0 } : Room).cells ({ frames := 0, cells := 0, slots := 0, locals := 0 } : Room).slots)) (own_from (mkF m 0 #[iv 0, iv kk] []) (castTop (own_ef_CL m (0 : Int32) kk)) ?_)
  refine own_iln 1 X0 hx (hb hby own_d416) rfl rfl ?_
  refine own_iln 2 X0 hx (hb hby own_d417) rfl rfl ?_
  refine own_icY 37 X0 hx (hb hby own_d418) (flt hk0).2.1 (by decide) (by decide) ?_
  exact own_ret0 X0 hx Bd.returns hlk (hb hby own_d419) (by decide) (by decide) (by rw [e0]; exact ⟨rfl, N0, rfl⟩)
def own_QMN (Z : State) (kk : Int32) (h0 : Heap) (n0 : Nat) (v : Option Value) (h : Heap) (L : List Loc) : Prop := v = some (.int kk) ∧ Fr n0 L ∧ h = h0
set_option maxRecDepth 65536 in
set_option maxHeartbeats 40000000 in
theorem own_rmMN (l : Launch) (Z : State) (a0 : Array Value) (hw : ∀ d ∈ tables_1, d.before a0 Z = true) (ws : List Jvm.Cond) (kk : Int32) (h0 : Heap) (n0 : Nat) (Z0 : n0 ≤ h0.size) (OL : Old Z n0 h0) (hk1 : kk < (16 : Int32)) :
    own_MF l (⟨"java/lang/Math", "min", "(II)I"⟩ : MethodName) (Jvm.Cond.code (⟨"java/lang/Math", "min", "(II)I"⟩ : MethodName) jdk_29_method_69_code 2 (some .int) :: ws) ({ frames := 0, cells := 0, slots := 0, locals := 0 } : Room) #[(.int (16 : Int32)), (.int kk)] Z h0 (own_QMN Z kk h0 n0) := by
  refine MetFree.of_bodySF (Jvm.Free.JP.mathPlain rfl (by decide +kernel)) hisR ?_
  intro p e s m args below meth c s₁ Bd hml0 hP hK
  obtain ⟨rfl, hZ, hh⟩ := hP
  have hx := Bd.exec
  have hby := Bd.bytes
  have hlk : meth.locks = false := BodyLoose.notSynchronized Bd
  have hml : c.maxLocals = 2 := hml0
  have hown : s.vm.findClass "java/lang/Math" = some m.cls := findClass_of_methodNamed Bd.named
  have hnm := (name_of_methodNamed Bd.named Bd.method).1
  have X0 : Stand p l e ({ frames := 0, cells := 0, slots := 0, locals := 0 } : Room) s m #[(.int (16 : Int32)), (.int kk)] below meth c s₁ [] 0 0 := Stand.of_body Bd
  have e0 : s₁.heap = h0 := by rw [← hh, Bd.state]; rfl
  have N0 := Fr.nil n0
  have KP : Keep h0 h0 [] := Keep.refl _ _
  refine own_start (Fin := (own_Fin s (own_QMN Z kk h0 n0) ({ frames := 0, cells := 0, slots := 0, locals := 0 } : Room).cells ({ frames := 0, cells := 0, slots := 0, locals := 0 } : Room).slots)) (own_from (mkF m 0 #[iv 16, iv kk] []) (castTop (own_ef_MN m (16 : Int32) kk)) ?_)
  refine own_iln 1 X0 hx (hb hby own_d420) rfl rfl ?_
  refine own_iln 2 X0 hx (hb hby own_d421) rfl rfl ?_
  refine own_icY 9 X0 hx (hb hby own_d422) (tlt hk1).2.2.1 (by decide) (by decide) ?_
  refine own_iln 10 X0 hx (hb hby own_d423) rfl rfl ?_
  exact own_retI X0 hx Bd.returns hlk (hb hby own_d424) (by decide) (by decide) (by rw [e0]; exact ⟨rfl, N0, rfl⟩)
def own_QCB (Z : State) (kk : Int32) (us' : List Value) (h0 : Heap) (n0 : Nat) (v : Option Value) (h : Heap) (L : List Loc) : Prop := ∃ (b : Addr) (kb : ClassId), v = some (.ref b) ∧ Fr n0 L ∧ Keep h0 h [] ∧ n0 ≤ b ∧ h0.size ≤ b ∧ Arv Z h b kb .byte kk us' (.int (0 : Int32))
set_option maxRecDepth 65536 in
set_option maxHeartbeats 40000000 in
theorem own_rmCB_7 (l : Launch) (Z : State) (a0 : Array Value) (hw : ∀ d ∈ tables_1, d.before a0 Z = true) (ws : List Jvm.Cond) (vb : Addr) (kv : ClassId) (u0 u1 u2 u3 u4 u5 u6 u7 u8 u9 u10 u11 u12 u13 u14 u15 : Int32) (h0 : Heap) (n0 : Nat) (Z0 : n0 ≤ h0.size) (OL : Old Z n0 h0) (Vb : Arv Z h0 vb kv .byte (16 : Int32) [(.int u0), (.int u1), (.int u2), (.int u3), (.int u4), (.int u5), (.int u6), (.int u7), (.int u8), (.int u9), (.int u10), (.int u11), (.int u12), (.int u13), (.int u14), (.int u15)] (.int (0 : Int32))) :
    own_MF l (⟨"java/util/Arrays", "copyOfRangeByte", "([BII)[B"⟩ : MethodName) (Jvm.Cond.code (⟨"java/util/Arrays", "copyOfRangeByte", "([BII)[B"⟩ : MethodName) jdk_65_method_133_code 5 (some (.array .byte)) :: ws) ({ frames := 1, cells := 1, slots := 16, locals := 40 } : Room) #[(.ref vb), (.int (0 : Int32)), (.int (7 : Int32))] Z h0 (own_QCB Z (7 : Int32) [(.int u0), (.int u1), (.int u2), (.int u3), (.int u4), (.int u5), (.int u6)] h0 n0) := by
  refine MetFree.of_bodySF (plainFor_of_name own_pn6) hisR ?_
  intro p e s m args below meth c s₁ Bd hml0 hP hK
  obtain ⟨rfl, hZ, hh⟩ := hP
  have hx := Bd.exec
  have hby := Bd.bytes
  have hlk : meth.locks = false := BodyLoose.notSynchronized Bd
  have hml : c.maxLocals = 5 := hml0
  have hown : s.vm.findClass "java/util/Arrays" = some m.cls := findClass_of_methodNamed Bd.named
  have hnm := (name_of_methodNamed Bd.named Bd.method).1
  have X0 : Stand p l e ({ frames := 1, cells := 1, slots := 16, locals := 40 } : Room) s m #[(.ref vb), (.int (0 : Int32)), (.int (7 : Int32))] below meth c s₁ [] 0 0 := Stand.of_body Bd
  have e0 : s₁.heap = h0 := by rw [← hh, Bd.state]; rfl
  have N0 := Fr.nil n0
  have KP : Keep h0 h0 [] := Keep.refl _ _
  refine own_start (Fin := (own_Fin s (own_QCB Z (7 : Int32) [(.int u0), (.int u1), (.int u2), (.int u3), (.int u4), (.int u5), (.int u6)] h0 n0) ({ frames := 1, cells := 1, slots := 16, locals := 40 } : Room).cells ({ frames := 1, cells := 1, slots := 16, locals := 40 } : Room).slots)) (own_from (mkF m 0 #[rv vb, iv 0, iv 7, .unset, .unset] []) (castTop (own_ef_CB_7 m vb (0 : Int32) (7 : Int32))) ?_)
  refine own_iln 1 X0 hx (hb hby own_d425) rfl rfl ?_
  refine own_iln 2 X0 hx (hb hby own_d426) rfl rfl ?_
  obtain ⟨_, T191, Lc191, X191, hQ191, st191⟩ := own_callS X0 hx (y := (⟨"java/util/Arrays", "checkLength", "(II)V"⟩ : MethodName)) hown (mvT hZ (own_w hw 173 rfl)) (mvT hZ (own_w hw 174 rfl)) (mvT hZ (own_w hw 168 rfl)) (mvT hZ (own_w hw 175 rfl)) (by decide) (backOf (W := 0) (own_rmCL l Z a0 hw [] (7 : Int32) h0 n0 (Nat.le_trans Z0 KP.1) OL (by decide)) hZ (own_w hw 175 rfl) (own_w hw 168 rfl) (by decide) (by decide)) (g := (mkF m 2 #[rv vb, iv 0, iv 7, .unset, .unset] [(.int (7 : Int32)), (.int (0 : Int32))])) rfl (by rw [hml]; rfl) (argsL := [(.int (0 : Int32)), (.int (7 : Int32))]) (rest := []) (lenOf own_pd12 rfl) rfl (by show 2 * 0 + _ ≤ _; exact Nat.le_of_eq rfl) (hb hby own_d427) rfl e0 (kc := 0) (ks := 0) rfl rfl (by decide) (by decide)
  obtain ⟨rfl, N191q, e191⟩ := hQ191
  have N191 := Fr.app N0 N191q
  refine own_to (mkF m 5 #[rv vb, iv 0, iv 7, .unset, .unset] []) st191 ?_
  refine own_iln 6 X191 hx (hb hby own_d428) rfl rfl ?_
  refine own_iln 7 X191 hx (hb hby own_d429) rfl rfl ?_
  refine own_isub 8 X191 hx (hb hby own_d430) (z := (7 : Int32)) rfl rfl ?_
  refine own_isn 9 #[rv vb, iv 0, iv 7, iv 7, .unset] X191 hx (hb hby own_d431) rfl rfl ?_
  refine own_iln 10 X191 hx (hb hby own_d432) rfl rfl ?_
  obtain ⟨T192, h192, k192, X192, e192, E192, A192, B192, st192⟩ := newPE X191 hx hZ (own_w hw 23 rfl) e191 (g := (mkF m 10 #[rv vb, iv 0, iv 7, iv 7, .unset] [(.int (7 : Int32))])) rfl (hb hby own_d433) rfl (by decide) (cap := 7) (by decide) (by decide) (by decide) (by decide) (ad := "[B") (by decide)
  obtain ⟨b192, g192⟩ : ∃ z, z = h0.size := ⟨_, rfl⟩
  rw [← g192] at A192 B192 st192
  have sz_b192 : h0.size ≤ b192 := Nat.le_trans KP.1 (Nat.le_of_eq g192.symm)
  have ge_b192 : n0 ≤ b192 := Nat.le_trans Z0 sz_b192
  have ne_vb_b192 : vb ≠ b192 := Nat.ne_of_lt (Nat.lt_of_lt_of_le Vb.lt (Nat.le_of_eq g192.symm))
  have OL := OL.ext E192
  have KP := KP.ext E192
  have Vb := Vb.ext E192
  have V_b192 : Arv Z h192 b192 k192 .byte (7 : Int32) [(.int (0 : Int32)), (.int (0 : Int32)), (.int (0 : Int32)), (.int (0 : Int32)), (.int (0 : Int32)), (.int (0 : Int32)), (.int (0 : Int32))] (.int (0 : Int32)) := (Arv.new A192 (by decide)).pad (pad_rep [] (.int (0 : Int32)) 7)
  refine own_to (mkF m 12 #[rv vb, iv 0, iv 7, iv 7, .unset] [(.ref b192)]) st192 ?_
  refine own_as 14 #[rv vb, iv 0, iv 7, iv 7, rv b192] X192 hx (hb hby own_d434) rfl rfl rfl ?_
  refine own_aln 15 X192 hx (hb hby own_d435) rfl rfl rfl ?_
  refine own_iln 16 X192 hx (hb hby own_d436) rfl rfl ?_
  refine own_al 18 X192 hx (hb hby own_d437) rfl rfl rfl ?_
  refine own_ic 19 0 X192 hx (hb hby own_d438) rfl rfl ?_
  refine own_aln 20 X192 hx (hb hby own_d439) rfl rfl rfl ?_
  obtain ⟨cl193, Ar193, -, S193, M193, -, -⟩ := id Vb
  refine own_to (mkF m 21 #[rv vb, iv 0, iv 7, iv 7, rv b192] [(.int (16 : Int32)), (.int (0 : Int32)), (.ref b192), (.int (0 : Int32)), (.ref vb)]) (by have q := X192.arraylength hx (by rw [e192]; exact Ar193.1) (State.isArrayOf_alike hZ.alike Ar193.2.1) (g := (mkF m 20 #[rv vb, iv 0, iv 7, iv 7, rv b192] [(.ref vb), (.int (0 : Int32)), (.ref b192), (.int (0 : Int32)), (.ref vb)])) rfl rfl (hb hby own_d440); rw [len_of S193 M193] at q; exact q) ?_
  refine own_iln 22 X192 hx (hb hby own_d441) rfl rfl ?_
  refine own_isub 23 X192 hx (hb hby own_d442) (z := (16 : Int32)) rfl rfl ?_
  refine own_iln 24 X192 hx (hb hby own_d443) rfl rfl ?_
  obtain ⟨_, T194, Lc194, X194, hQ194, st194⟩ := own_callS X192 hx (y := (⟨"java/lang/Math", "min", "(II)I"⟩ : MethodName)) hown (mvT hZ (own_w hw 176 rfl)) (mvT hZ (own_w hw 177 rfl)) (mvT hZ (own_w hw 178 rfl)) (mvT hZ (own_w hw 179 rfl)) (by decide) (backOf (W := 4) (own_rmMN l Z a0 hw [] (7 : Int32) h192 n0 (Nat.le_trans Z0 KP.1) OL (by decide)) hZ (own_w hw 179 rfl) (own_w hw 178 rfl) (by decide) (by decide)) (g := (mkF m 24 #[rv vb, iv 0, iv 7, iv 7, rv b192] [(.int (7 : Int32)), (.int (16 : Int32)), (.int (0 : Int32)), (.ref b192), (.int (0 : Int32)), (.ref vb)])) rfl (by rw [hml]; rfl) (argsL := [(.int (16 : Int32)), (.int (7 : Int32))]) (rest := [(.int (0 : Int32)), (.ref b192), (.int (0 : Int32)), (.ref vb)]) (lenOf own_pd13 rfl) rfl (by show 2 * 0 + _ ≤ _; exact Nat.le_of_eq rfl) (hb hby own_d444) rfl e192 (kc := 1) (ks := 7) rfl rfl (by decide) (by decide)
  obtain ⟨rfl, N194q, e194⟩ := hQ194
  have N194 := Fr.app N191 N194q
  refine own_to (mkF m 27 #[rv vb, iv 0, iv 7, iv 7, rv b192] [(.int (7 : Int32)), (.int (0 : Int32)), (.ref b192), (.int (0 : Int32)), (.ref vb)]) st194 ?_
  obtain ⟨T195, h195, L195, X195, e195, N195, K195, A195, st195⟩ := cpA X194 hx hZ hown (own_w hw 180 rfl) (own_w hw 139 rfl) (own_w hw 137 rfl) (own_w hw 138 rfl) e194 Vb V_b192 (us := [(.int u0), (.int u1), (.int u2), (.int u3), (.int u4), (.int u5), (.int u6)]) (Or.inl ⟨rfl, rfl⟩) (by decide) (by decide) (by decide) (by decide) (by decide) rfl (Nat.le_of_ble_eq_true rfl) N194 ge_b192 (g := (mkF m 27 #[rv vb, iv 0, iv 7, iv 7, rv b192] [(.int (7 : Int32)), (.int (0 : Int32)), (.ref b192), (.int (0 : Int32)), (.ref vb)])) rfl (by rw [hml]; rfl) rfl (hb hby own_d445) (by decide) (W := 0) (by show 2 * 0 + _ ≤ _; exact Nat.le_of_eq rfl) (by decide)
  have OL := OL.keep K195 (allS ge_b192 all0)
  have KP := KP.trans K195 (allS (Or.inr sz_b192) all0)
  have Vb := Vb.keep K195 (ninS ne_vb_b192 nin0)
  have V_b192 : Arv Z h195 b192 k192 .byte (7 : Int32) [(.int u0), (.int u1), (.int u2), (.int u3), (.int u4), (.int u5), (.int u6)] (.int (0 : Int32)) := A195
  refine own_to (mkF m 30 #[rv vb, iv 0, iv 7, iv 7, rv b192] []) st195 ?_
  refine own_al 32 X195 hx (hb hby own_d446) rfl rfl rfl ?_
  exact own_retA X195 hx Bd.returns rfl hlk (hb hby own_d447) rfl (by decide) (by decide) (by rw [e195]; exact ⟨b192, k192, rfl, N195, KP, ge_b192, sz_b192, V_b192⟩)
set_option maxRecDepth 65536 in
set_option maxHeartbeats 40000000 in
theorem own_rmCB_8 (l : Launch) (Z : State) (a0 : Array Value) (hw : ∀ d ∈ tables_1, d.before a0 Z = true) (ws : List Jvm.Cond) (vb : Addr) (kv : ClassId) (u0 u1 u2 u3 u4 u5 u6 u7 u8 u9 u10 u11 u12 u13 u14 u15 : Int32) (h0 : Heap) (n0 : Nat) (Z0 : n0 ≤ h0.size) (OL : Old Z n0 h0) (Vb : Arv Z h0 vb kv .byte (16 : Int32) [(.int u0), (.int u1), (.int u2), (.int u3), (.int u4), (.int u5), (.int u6), (.int u7), (.int u8), (.int u9), (.int u10), (.int u11), (.int u12), (.int u13), (.int u14), (.int u15)] (.int (0 : Int32))) :
    own_MF l (⟨"java/util/Arrays", "copyOfRangeByte", "([BII)[B"⟩ : MethodName) (Jvm.Cond.code (⟨"java/util/Arrays", "copyOfRangeByte", "([BII)[B"⟩ : MethodName) jdk_65_method_133_code 5 (some (.array .byte)) :: ws) ({ frames := 1, cells := 1, slots := 16, locals := 40 } : Room) #[(.ref vb), (.int (0 : Int32)), (.int (8 : Int32))] Z h0 (own_QCB Z (8 : Int32) [(.int u0), (.int u1), (.int u2), (.int u3), (.int u4), (.int u5), (.int u6), (.int u7)] h0 n0) := by
  refine MetFree.of_bodySF (plainFor_of_name own_pn6) hisR ?_
  intro p e s m args below meth c s₁ Bd hml0 hP hK
  obtain ⟨rfl, hZ, hh⟩ := hP
  have hx := Bd.exec
  have hby := Bd.bytes
  have hlk : meth.locks = false := BodyLoose.notSynchronized Bd
  have hml : c.maxLocals = 5 := hml0
  have hown : s.vm.findClass "java/util/Arrays" = some m.cls := findClass_of_methodNamed Bd.named
  have hnm := (name_of_methodNamed Bd.named Bd.method).1
  have X0 : Stand p l e ({ frames := 1, cells := 1, slots := 16, locals := 40 } : Room) s m #[(.ref vb), (.int (0 : Int32)), (.int (8 : Int32))] below meth c s₁ [] 0 0 := Stand.of_body Bd
  have e0 : s₁.heap = h0 := by rw [← hh, Bd.state]; rfl
  have N0 := Fr.nil n0
  have KP : Keep h0 h0 [] := Keep.refl _ _
  refine own_start (Fin := (own_Fin s (own_QCB Z (8 : Int32) [(.int u0), (.int u1), (.int u2), (.int u3), (.int u4), (.int u5), (.int u6), (.int u7)] h0 n0) ({ frames := 1, cells := 1, slots := 16, locals := 40 } : Room).cells ({ frames := 1, cells := 1, slots := 16, locals := 40 } : Room).slots)) (own_from (mkF m 0 #[rv vb, iv 0, iv 8, .unset, .unset] []) (castTop (own_ef_CB_8 m vb (0 : Int32) (8 : Int32))) ?_)
  refine own_iln 1 X0 hx (hb hby own_d425) rfl rfl ?_
  refine own_iln 2 X0 hx (hb hby own_d426) rfl rfl ?_
  obtain ⟨_, T196, Lc196, X196, hQ196, st196⟩ := own_callS X0 hx (y := (⟨"java/util/Arrays", "checkLength", "(II)V"⟩ : MethodName)) hown (mvT hZ (own_w hw 173 rfl)) (mvT hZ (own_w hw 174 rfl)) (mvT hZ (own_w hw 168 rfl)) (mvT hZ (own_w hw 175 rfl)) (by decide) (backOf (W := 0) (own_rmCL l Z a0 hw [] (8 : Int32) h0 n0 (Nat.le_trans Z0 KP.1) OL (by decide)) hZ (own_w hw 175 rfl) (own_w hw 168 rfl) (by decide) (by decide)) (g := (mkF m 2 #[rv vb, iv 0, iv 8, .unset, .unset] [(.int (8 : Int32)), (.int (0 : Int32))])) rfl (by rw [hml]; rfl) (argsL := [(.int (0 : Int32)), (.int (8 : Int32))]) (rest := []) (lenOf own_pd12 rfl) rfl (by show 2 * 0 + _ ≤ _; exact Nat.le_of_eq rfl) (hb hby own_d427) rfl e0 (kc := 0) (ks := 0) rfl rfl (by decide) (by decide)
  obtain ⟨rfl, N196q, e196⟩ := hQ196
  have N196 := Fr.app N0 N196q
  refine own_to (mkF m 5 #[rv vb, iv 0, iv 8, .unset, .unset] []) st196 ?_
  refine own_iln 6 X196 hx (hb hby own_d428) rfl rfl ?_
  refine own_iln 7 X196 hx (hb hby own_d429) rfl rfl ?_
  refine own_isub 8 X196 hx (hb hby own_d430) (z := (8 : Int32)) rfl rfl ?_
  refine own_isn 9 #[rv vb, iv 0, iv 8, iv 8, .unset] X196 hx (hb hby own_d431) rfl rfl ?_
  refine own_iln 10 X196 hx (hb hby own_d432) rfl rfl ?_
  obtain ⟨T197, h197, k197, X197, e197, E197, A197, B197, st197⟩ := newPE X196 hx hZ (own_w hw 23 rfl) e196 (g := (mkF m 10 #[rv vb, iv 0, iv 8, iv 8, .unset] [(.int (8 : Int32))])) rfl (hb hby own_d433) rfl (by decide) (cap := 8) (by decide) (by decide) (by decide) (by decide) (ad := "[B") (by decide)
  obtain ⟨b197, g197⟩ : ∃ z, z = h0.size := ⟨_, rfl⟩
  rw [← g197] at A197 B197 st197
  have sz_b197 : h0.size ≤ b197 := Nat.le_trans KP.1 (Nat.le_of_eq g197.symm)
  have ge_b197 : n0 ≤ b197 := Nat.le_trans Z0 sz_b197
  have ne_vb_b197 : vb ≠ b197 := Nat.ne_of_lt (Nat.lt_of_lt_of_le Vb.lt (Nat.le_of_eq g197.symm))
  have OL := OL.ext E197
  have KP := KP.ext E197
  have Vb := Vb.ext E197
  have V_b197 : Arv Z h197 b197 k197 .byte (8 : Int32) [(.int (0 : Int32)), (.int (0 : Int32)), (.int (0 : Int32)), (.int (0 : Int32)), (.int (0 : Int32)), (.int (0 : Int32)), (.int (0 : Int32)), (.int (0 : Int32))] (.int (0 : Int32)) := (Arv.new A197 (by decide)).pad (pad_rep [] (.int (0 : Int32)) 8)
  refine own_to (mkF m 12 #[rv vb, iv 0, iv 8, iv 8, .unset] [(.ref b197)]) st197 ?_
  refine own_as 14 #[rv vb, iv 0, iv 8, iv 8, rv b197] X197 hx (hb hby own_d434) rfl rfl rfl ?_
  refine own_aln 15 X197 hx (hb hby own_d435) rfl rfl rfl ?_
  refine own_iln 16 X197 hx (hb hby own_d436) rfl rfl ?_
  refine own_al 18 X197 hx (hb hby own_d437) rfl rfl rfl ?_
  refine own_ic 19 0 X197 hx (hb hby own_d438) rfl rfl ?_
  refine own_aln 20 X197 hx (hb hby own_d439) rfl rfl rfl ?_
  obtain ⟨cl198, Ar198, -, S198, M198, -, -⟩ := id Vb
  refine own_to (mkF m 21 #[rv vb, iv 0, iv 8, iv 8, rv b197] [(.int (16 : Int32)), (.int (0 : Int32)), (.ref b197), (.int (0 : Int32)), (.ref vb)]) (by have q := X197.arraylength hx (by rw [e197]; exact Ar198.1) (State.isArrayOf_alike hZ.alike Ar198.2.1) (g := (mkF m 20 #[rv vb, iv 0, iv 8, iv 8, rv b197] [(.ref vb), (.int (0 : Int32)), (.ref b197), (.int (0 : Int32)), (.ref vb)])) rfl rfl (hb hby own_d440); rw [len_of S198 M198] at q; exact q) ?_
  refine own_iln 22 X197 hx (hb hby own_d441) rfl rfl ?_
  refine own_isub 23 X197 hx (hb hby own_d442) (z := (16 : Int32)) rfl rfl ?_
  refine own_iln 24 X197 hx (hb hby own_d443) rfl rfl ?_
  obtain ⟨_, T199, Lc199, X199, hQ199, st199⟩ := own_callS X197 hx (y := (⟨"java/lang/Math", "min", "(II)I"⟩ : MethodName)) hown (mvT hZ (own_w hw 176 rfl)) (mvT hZ (own_w hw 177 rfl)) (mvT hZ (own_w hw 178 rfl)) (mvT hZ (own_w hw 179 rfl)) (by decide) (backOf (W := 4) (own_rmMN l Z a0 hw [] (8 : Int32) h197 n0 (Nat.le_trans Z0 KP.1) OL (by decide)) hZ (own_w hw 179 rfl) (own_w hw 178 rfl) (by decide) (by decide)) (g := (mkF m 24 #[rv vb, iv 0, iv 8, iv 8, rv b197] [(.int (8 : Int32)), (.int (16 : Int32)), (.int (0 : Int32)), (.ref b197), (.int (0 : Int32)), (.ref vb)])) rfl (by rw [hml]; rfl) (argsL := [(.int (16 : Int32)), (.int (8 : Int32))]) (rest := [(.int (0 : Int32)), (.ref b197), (.int (0 : Int32)), (.ref vb)]) (lenOf own_pd13 rfl) rfl (by show 2 * 0 + _ ≤ _; exact Nat.le_of_eq rfl) (hb hby own_d444) rfl e197 (kc := 1) (ks := 8) rfl rfl (by decide) (by decide)
  obtain ⟨rfl, N199q, e199⟩ := hQ199
  have N199 := Fr.app N196 N199q
  refine own_to (mkF m 27 #[rv vb, iv 0, iv 8, iv 8, rv b197] [(.int (8 : Int32)), (.int (0 : Int32)), (.ref b197), (.int (0 : Int32)), (.ref vb)]) st199 ?_
  obtain ⟨T200, h200, L200, X200, e200, N200, K200, A200, st200⟩ := cpA X199 hx hZ hown (own_w hw 180 rfl) (own_w hw 139 rfl) (own_w hw 137 rfl) (own_w hw 138 rfl) e199 Vb V_b197 (us := [(.int u0), (.int u1), (.int u2), (.int u3), (.int u4), (.int u5), (.int u6), (.int u7)]) (Or.inl ⟨rfl, rfl⟩) (by decide) (by decide) (by decide) (by decide) (by decide) rfl (Nat.le_of_ble_eq_true rfl) N199 ge_b197 (g := (mkF m 27 #[rv vb, iv 0, iv 8, iv 8, rv b197] [(.int (8 : Int32)), (.int (0 : Int32)), (.ref b197), (.int (0 : Int32)), (.ref vb)])) rfl (by rw [hml]; rfl) rfl (hb hby own_d445) (by decide) (W := 0) (by show 2 * 0 + _ ≤ _; exact Nat.le_of_eq rfl) (by decide)
  have OL := OL.keep K200 (allS ge_b197 all0)
  have KP := KP.trans K200 (allS (Or.inr sz_b197) all0)
  have Vb := Vb.keep K200 (ninS ne_vb_b197 nin0)
  have V_b197 : Arv Z h200 b197 k197 .byte (8 : Int32) [(.int u0), (.int u1), (.int u2), (.int u3), (.int u4), (.int u5), (.int u6), (.int u7)] (.int (0 : Int32)) := A200
  refine own_to (mkF m 30 #[rv vb, iv 0, iv 8, iv 8, rv b197] []) st200 ?_
  refine own_al 32 X200 hx (hb hby own_d446) rfl rfl rfl ?_
  exact own_retA X200 hx Bd.returns rfl hlk (hb hby own_d447) rfl (by decide) (by decide) (by rw [e200]; exact ⟨b197, k197, rfl, N200, KP, ge_b197, sz_b197, V_b197⟩)
set_option maxRecDepth 65536 in
set_option maxHeartbeats 40000000 in
theorem own_rmCB_9 (l : Launch) (Z : State) (a0 : Array Value) (hw : ∀ d ∈ tables_1, d.before a0 Z = true) (ws : List Jvm.Cond) (vb : Addr) (kv : ClassId) (u0 u1 u2 u3 u4 u5 u6 u7 u8 u9 u10 u11 u12 u13 u14 u15 : Int32) (h0 : Heap) (n0 : Nat) (Z0 : n0 ≤ h0.size) (OL : Old Z n0 h0) (Vb : Arv Z h0 vb kv .byte (16 : Int32) [(.int u0), (.int u1), (.int u2), (.int u3), (.int u4), (.int u5), (.int u6), (.int u7), (.int u8), (.int u9), (.int u10), (.int u11), (.int u12), (.int u13), (.int u14), (.int u15)] (.int (0 : Int32))) :
    own_MF l (⟨"java/util/Arrays", "copyOfRangeByte", "([BII)[B"⟩ : MethodName) (Jvm.Cond.code (⟨"java/util/Arrays", "copyOfRangeByte", "([BII)[B"⟩ : MethodName) jdk_65_method_133_code 5 (some (.array .byte)) :: ws) ({ frames := 1, cells := 1, slots := 16, locals := 40 } : Room) #[(.ref vb), (.int (0 : Int32)), (.int (9 : Int32))] Z h0 (own_QCB Z (9 : Int32) [(.int u0), (.int u1), (.int u2), (.int u3), (.int u4), (.int u5), (.int u6), (.int u7), (.int u8)] h0 n0) := by
  refine MetFree.of_bodySF (plainFor_of_name own_pn6) hisR ?_
  intro p e s m args below meth c s₁ Bd hml0 hP hK
  obtain ⟨rfl, hZ, hh⟩ := hP
  have hx := Bd.exec
  have hby := Bd.bytes
  have hlk : meth.locks = false := BodyLoose.notSynchronized Bd
  have hml : c.maxLocals = 5 := hml0
  have hown : s.vm.findClass "java/util/Arrays" = some m.cls := findClass_of_methodNamed Bd.named
  have hnm := (name_of_methodNamed Bd.named Bd.method).1
  have X0 : Stand p l e ({ frames := 1, cells := 1, slots := 16, locals := 40 } : Room) s m #[(.ref vb), (.int (0 : Int32)), (.int (9 : Int32))] below meth c s₁ [] 0 0 := Stand.of_body Bd
  have e0 : s₁.heap = h0 := by rw [← hh, Bd.state]; rfl
  have N0 := Fr.nil n0
  have KP : Keep h0 h0 [] := Keep.refl _ _
  refine own_start (Fin := (own_Fin s (own_QCB Z (9 : Int32) [(.int u0), (.int u1), (.int u2), (.int u3), (.int u4), (.int u5), (.int u6), (.int u7), (.int u8)] h0 n0) ({ frames := 1, cells := 1, slots := 16, locals := 40 } : Room).cells ({ frames := 1, cells := 1, slots := 16, locals := 40 } : Room).slots)) (own_from (mkF m 0 #[rv vb, iv 0, iv 9, .unset, .unset] []) (castTop (own_ef_CB_9 m vb (0 : Int32) (9 : Int32))) ?_)
  refine own_iln 1 X0 hx (hb hby own_d425) rfl rfl ?_
  refine own_iln 2 X0 hx (hb hby own_d426) rfl rfl ?_
  obtain ⟨_, T201, Lc201, X201, hQ201, st201⟩ := own_callS X0 hx (y := (⟨"java/util/Arrays", "checkLength", "(II)V"⟩ : MethodName)) hown (mvT hZ (own_w hw 173 rfl)) (mvT hZ (own_w hw 174 rfl)) (mvT hZ (own_w hw 168 rfl)) (mvT hZ (own_w hw 175 rfl)) (by decide) (backOf (W := 0) (own_rmCL l Z a0 hw [] (9 : Int32) h0 n0 (Nat.le_trans Z0 KP.1) OL (by decide)) hZ (own_w hw 175 rfl) (own_w hw 168 rfl) (by decide) (by decide)) (g := (mkF m 2 #[rv vb, iv 0, iv 9, .unset, .unset] [(.int (9 : Int32)), (.int (0 : Int32))])) rfl (by rw [hml]; rfl) (argsL := [(.int (0 : Int32)), (.int (9 : Int32))]) (rest := []) (lenOf own_pd12 rfl) rfl (by show 2 * 0 + _ ≤ _; exact Nat.le_of_eq rfl) (hb hby own_d427) rfl e0 (kc := 0) (ks := 0) rfl rfl (by decide) (by decide)
  obtain ⟨rfl, N201q, e201⟩ := hQ201
  have N201 := Fr.app N0 N201q
  refine own_to (mkF m 5 #[rv vb, iv 0, iv 9, .unset, .unset] []) st201 ?_
  refine own_iln 6 X201 hx (hb hby own_d428) rfl rfl ?_
  refine own_iln 7 X201 hx (hb hby own_d429) rfl rfl ?_
  refine own_isub 8 X201 hx (hb hby own_d430) (z := (9 : Int32)) rfl rfl ?_
  refine own_isn 9 #[rv vb, iv 0, iv 9, iv 9, .unset] X201 hx (hb hby own_d431) rfl rfl ?_
  refine own_iln 10 X201 hx (hb hby own_d432) rfl rfl ?_
  obtain ⟨T202, h202, k202, X202, e202, E202, A202, B202, st202⟩ := newPE X201 hx hZ (own_w hw 23 rfl) e201 (g := (mkF m 10 #[rv vb, iv 0, iv 9, iv 9, .unset] [(.int (9 : Int32))])) rfl (hb hby own_d433) rfl (by decide) (cap := 9) (by decide) (by decide) (by decide) (by decide) (ad := "[B") (by decide)
  obtain ⟨b202, g202⟩ : ∃ z, z = h0.size := ⟨_, rfl⟩
  rw [← g202] at A202 B202 st202
  have sz_b202 : h0.size ≤ b202 := Nat.le_trans KP.1 (Nat.le_of_eq g202.symm)
  have ge_b202 : n0 ≤ b202 := Nat.le_trans Z0 sz_b202
  have ne_vb_b202 : vb ≠ b202 := Nat.ne_of_lt (Nat.lt_of_lt_of_le Vb.lt (Nat.le_of_eq g202.symm))
  have OL := OL.ext E202
  have KP := KP.ext E202
  have Vb := Vb.ext E202
  have V_b202 : Arv Z h202 b202 k202 .byte (9 : Int32) [(.int (0 : Int32)), (.int (0 : Int32)), (.int (0 : Int32)), (.int (0 : Int32)), (.int (0 : Int32)), (.int (0 : Int32)), (.int (0 : Int32)), (.int (0 : Int32)), (.int (0 : Int32))] (.int (0 : Int32)) := (Arv.new A202 (by decide)).pad (pad_rep [] (.int (0 : Int32)) 9)
  refine own_to (mkF m 12 #[rv vb, iv 0, iv 9, iv 9, .unset] [(.ref b202)]) st202 ?_
  refine own_as 14 #[rv vb, iv 0, iv 9, iv 9, rv b202] X202 hx (hb hby own_d434) rfl rfl rfl ?_
  refine own_aln 15 X202 hx (hb hby own_d435) rfl rfl rfl ?_
  refine own_iln 16 X202 hx (hb hby own_d436) rfl rfl ?_
  refine own_al 18 X202 hx (hb hby own_d437) rfl rfl rfl ?_
  refine own_ic 19 0 X202 hx (hb hby own_d438) rfl rfl ?_
  refine own_aln 20 X202 hx (hb hby own_d439) rfl rfl rfl ?_
  obtain ⟨cl203, Ar203, -, S203, M203, -, -⟩ := id Vb
  refine own_to (mkF m 21 #[rv vb, iv 0, iv 9, iv 9, rv b202] [(.int (16 : Int32)), (.int (0 : Int32)), (.ref b202), (.int (0 : Int32)), (.ref vb)]) (by have q := X202.arraylength hx (by rw [e202]; exact Ar203.1) (State.isArrayOf_alike hZ.alike Ar203.2.1) (g := (mkF m 20 #[rv vb, iv 0, iv 9, iv 9, rv b202] [(.ref vb), (.int (0 : Int32)), (.ref b202), (.int (0 : Int32)), (.ref vb)])) rfl rfl (hb hby own_d440); rw [len_of S203 M203] at q; exact q) ?_
  refine own_iln 22 X202 hx (hb hby own_d441) rfl rfl ?_
  refine own_isub 23 X202 hx (hb hby own_d442) (z := (16 : Int32)) rfl rfl ?_
  refine own_iln 24 X202 hx (hb hby own_d443) rfl rfl ?_
  obtain ⟨_, T204, Lc204, X204, hQ204, st204⟩ := own_callS X202 hx (y := (⟨"java/lang/Math", "min", "(II)I"⟩ : MethodName)) hown (mvT hZ (own_w hw 176 rfl)) (mvT hZ (own_w hw 177 rfl)) (mvT hZ (own_w hw 178 rfl)) (mvT hZ (own_w hw 179 rfl)) (by decide) (backOf (W := 4) (own_rmMN l Z a0 hw [] (9 : Int32) h202 n0 (Nat.le_trans Z0 KP.1) OL (by decide)) hZ (own_w hw 179 rfl) (own_w hw 178 rfl) (by decide) (by decide)) (g := (mkF m 24 #[rv vb, iv 0, iv 9, iv 9, rv b202] [(.int (9 : Int32)), (.int (16 : Int32)), (.int (0 : Int32)), (.ref b202), (.int (0 : Int32)), (.ref vb)])) rfl (by rw [hml]; rfl) (argsL := [(.int (16 : Int32)), (.int (9 : Int32))]) (rest := [(.int (0 : Int32)), (.ref b202), (.int (0 : Int32)), (.ref vb)]) (lenOf own_pd13 rfl) rfl (by show 2 * 0 + _ ≤ _; exact Nat.le_of_eq rfl) (hb hby own_d444) rfl e202 (kc := 1) (ks := 9) rfl rfl (by decide) (by decide)
  obtain ⟨rfl, N204q, e204⟩ := hQ204
  have N204 := Fr.app N201 N204q
  refine own_to (mkF m 27 #[rv vb, iv 0, iv 9, iv 9, rv b202] [(.int (9 : Int32)), (.int (0 : Int32)), (.ref b202), (.int (0 : Int32)), (.ref vb)]) st204 ?_
  obtain ⟨T205, h205, L205, X205, e205, N205, K205, A205, st205⟩ := cpA X204 hx hZ hown (own_w hw 180 rfl) (own_w hw 139 rfl) (own_w hw 137 rfl) (own_w hw 138 rfl) e204 Vb V_b202 (us := [(.int u0), (.int u1), (.int u2), (.int u3), (.int u4), (.int u5), (.int u6), (.int u7), (.int u8)]) (Or.inl ⟨rfl, rfl⟩) (by decide) (by decide) (by decide) (by decide) (by decide) rfl (Nat.le_of_ble_eq_true rfl) N204 ge_b202 (g := (mkF m 27 #[rv vb, iv 0, iv 9, iv 9, rv b202] [(.int (9 : Int32)), (.int (0 : Int32)), (.ref b202), (.int (0 : Int32)), (.ref vb)])) rfl (by rw [hml]; rfl) rfl (hb hby own_d445) (by decide) (W := 0) (by show 2 * 0 + _ ≤ _; exact Nat.le_of_eq rfl) (by decide)
  have OL := OL.keep K205 (allS ge_b202 all0)
  have KP := KP.trans K205 (allS (Or.inr sz_b202) all0)
  have Vb := Vb.keep K205 (ninS ne_vb_b202 nin0)
  have V_b202 : Arv Z h205 b202 k202 .byte (9 : Int32) [(.int u0), (.int u1), (.int u2), (.int u3), (.int u4), (.int u5), (.int u6), (.int u7), (.int u8)] (.int (0 : Int32)) := A205
  refine own_to (mkF m 30 #[rv vb, iv 0, iv 9, iv 9, rv b202] []) st205 ?_
  refine own_al 32 X205 hx (hb hby own_d446) rfl rfl rfl ?_
  exact own_retA X205 hx Bd.returns rfl hlk (hb hby own_d447) rfl (by decide) (by decide) (by rw [e205]; exact ⟨b202, k202, rfl, N205, KP, ge_b202, sz_b202, V_b202⟩)
set_option maxRecDepth 65536 in
set_option maxHeartbeats 40000000 in
theorem own_rmCB_2 (l : Launch) (Z : State) (a0 : Array Value) (hw : ∀ d ∈ tables_1, d.before a0 Z = true) (ws : List Jvm.Cond) (vb : Addr) (kv : ClassId) (u0 u1 u2 u3 u4 u5 u6 u7 u8 u9 u10 u11 u12 u13 u14 u15 : Int32) (h0 : Heap) (n0 : Nat) (Z0 : n0 ≤ h0.size) (OL : Old Z n0 h0) (Vb : Arv Z h0 vb kv .byte (16 : Int32) [(.int u0), (.int u1), (.int u2), (.int u3), (.int u4), (.int u5), (.int u6), (.int u7), (.int u8), (.int u9), (.int u10), (.int u11), (.int u12), (.int u13), (.int u14), (.int u15)] (.int (0 : Int32))) :
    own_MF l (⟨"java/util/Arrays", "copyOfRangeByte", "([BII)[B"⟩ : MethodName) (Jvm.Cond.code (⟨"java/util/Arrays", "copyOfRangeByte", "([BII)[B"⟩ : MethodName) jdk_65_method_133_code 5 (some (.array .byte)) :: ws) ({ frames := 1, cells := 1, slots := 16, locals := 40 } : Room) #[(.ref vb), (.int (0 : Int32)), (.int (2 : Int32))] Z h0 (own_QCB Z (2 : Int32) [(.int u0), (.int u1)] h0 n0) := by
  refine MetFree.of_bodySF (plainFor_of_name own_pn6) hisR ?_
  intro p e s m args below meth c s₁ Bd hml0 hP hK
  obtain ⟨rfl, hZ, hh⟩ := hP
  have hx := Bd.exec
  have hby := Bd.bytes
  have hlk : meth.locks = false := BodyLoose.notSynchronized Bd
  have hml : c.maxLocals = 5 := hml0
  have hown : s.vm.findClass "java/util/Arrays" = some m.cls := findClass_of_methodNamed Bd.named
  have hnm := (name_of_methodNamed Bd.named Bd.method).1
  have X0 : Stand p l e ({ frames := 1, cells := 1, slots := 16, locals := 40 } : Room) s m #[(.ref vb), (.int (0 : Int32)), (.int (2 : Int32))] below meth c s₁ [] 0 0 := Stand.of_body Bd
  have e0 : s₁.heap = h0 := by rw [← hh, Bd.state]; rfl
  have N0 := Fr.nil n0
  have KP : Keep h0 h0 [] := Keep.refl _ _
  refine own_start (Fin := (own_Fin s (own_QCB Z (2 : Int32) [(.int u0), (.int u1)] h0 n0) ({ frames := 1, cells := 1, slots := 16, locals := 40 } : Room).cells ({ frames := 1, cells := 1, slots := 16, locals := 40 } : Room).slots)) (own_from (mkF m 0 #[rv vb, iv 0, iv 2, .unset, .unset] []) (castTop (own_ef_CB_2 m vb (0 : Int32) (2 : Int32))) ?_)
  refine own_iln 1 X0 hx (hb hby own_d425) rfl rfl ?_
  refine own_iln 2 X0 hx (hb hby own_d426) rfl rfl ?_
  obtain ⟨_, T206, Lc206, X206, hQ206, st206⟩ := own_callS X0 hx (y := (⟨"java/util/Arrays", "checkLength", "(II)V"⟩ : MethodName)) hown (mvT hZ (own_w hw 173 rfl)) (mvT hZ (own_w hw 174 rfl)) (mvT hZ (own_w hw 168 rfl)) (mvT hZ (own_w hw 175 rfl)) (by decide) (backOf (W := 0) (own_rmCL l Z a0 hw [] (2 : Int32) h0 n0 (Nat.le_trans Z0 KP.1) OL (by decide)) hZ (own_w hw 175 rfl) (own_w hw 168 rfl) (by decide) (by decide)) (g := (mkF m 2 #[rv vb, iv 0, iv 2, .unset, .unset] [(.int (2 : Int32)), (.int (0 : Int32))])) rfl (by rw [hml]; rfl) (argsL := [(.int (0 : Int32)), (.int (2 : Int32))]) (rest := []) (lenOf own_pd12 rfl) rfl (by show 2 * 0 + _ ≤ _; exact Nat.le_of_eq rfl) (hb hby own_d427) rfl e0 (kc := 0) (ks := 0) rfl rfl (by decide) (by decide)
  obtain ⟨rfl, N206q, e206⟩ := hQ206
  have N206 := Fr.app N0 N206q
  refine own_to (mkF m 5 #[rv vb, iv 0, iv 2, .unset, .unset] []) st206 ?_
  refine own_iln 6 X206 hx (hb hby own_d428) rfl rfl ?_
  refine own_iln 7 X206 hx (hb hby own_d429) rfl rfl ?_
  refine own_isub 8 X206 hx (hb hby own_d430) (z := (2 : Int32)) rfl rfl ?_
  refine own_isn 9 #[rv vb, iv 0, iv 2, iv 2, .unset] X206 hx (hb hby own_d431) rfl rfl ?_
  refine own_iln 10 X206 hx (hb hby own_d432) rfl rfl ?_
  obtain ⟨T207, h207, k207, X207, e207, E207, A207, B207, st207⟩ := newPE X206 hx hZ (own_w hw 23 rfl) e206 (g := (mkF m 10 #[rv vb, iv 0, iv 2, iv 2, .unset] [(.int (2 : Int32))])) rfl (hb hby own_d433) rfl (by decide) (cap := 2) (by decide) (by decide) (by decide) (by decide) (ad := "[B") (by decide)
  obtain ⟨b207, g207⟩ : ∃ z, z = h0.size := ⟨_, rfl⟩
  rw [← g207] at A207 B207 st207
  have sz_b207 : h0.size ≤ b207 := Nat.le_trans KP.1 (Nat.le_of_eq g207.symm)
  have ge_b207 : n0 ≤ b207 := Nat.le_trans Z0 sz_b207
  have ne_vb_b207 : vb ≠ b207 := Nat.ne_of_lt (Nat.lt_of_lt_of_le Vb.lt (Nat.le_of_eq g207.symm))
  have OL := OL.ext E207
  have KP := KP.ext E207
  have Vb := Vb.ext E207
  have V_b207 : Arv Z h207 b207 k207 .byte (2 : Int32) [(.int (0 : Int32)), (.int (0 : Int32))] (.int (0 : Int32)) := (Arv.new A207 (by decide)).pad (pad_rep [] (.int (0 : Int32)) 2)
  refine own_to (mkF m 12 #[rv vb, iv 0, iv 2, iv 2, .unset] [(.ref b207)]) st207 ?_
  refine own_as 14 #[rv vb, iv 0, iv 2, iv 2, rv b207] X207 hx (hb hby own_d434) rfl rfl rfl ?_
  refine own_aln 15 X207 hx (hb hby own_d435) rfl rfl rfl ?_
  refine own_iln 16 X207 hx (hb hby own_d436) rfl rfl ?_
  refine own_al 18 X207 hx (hb hby own_d437) rfl rfl rfl ?_
  refine own_ic 19 0 X207 hx (hb hby own_d438) rfl rfl ?_
  refine own_aln 20 X207 hx (hb hby own_d439) rfl rfl rfl ?_
  obtain ⟨cl208, Ar208, -, S208, M208, -, -⟩ := id Vb
  refine own_to (mkF m 21 #[rv vb, iv 0, iv 2, iv 2, rv b207] [(.int (16 : Int32)), (.int (0 : Int32)), (.ref b207), (.int (0 : Int32)), (.ref vb)]) (by have q := X207.arraylength hx (by rw [e207]; exact Ar208.1) (State.isArrayOf_alike hZ.alike Ar208.2.1) (g := (mkF m 20 #[rv vb, iv 0, iv 2, iv 2, rv b207] [(.ref vb), (.int (0 : Int32)), (.ref b207), (.int (0 : Int32)), (.ref vb)])) rfl rfl (hb hby own_d440); rw [len_of S208 M208] at q; exact q) ?_
  refine own_iln 22 X207 hx (hb hby own_d441) rfl rfl ?_
  refine own_isub 23 X207 hx (hb hby own_d442) (z := (16 : Int32)) rfl rfl ?_
  refine own_iln 24 X207 hx (hb hby own_d443) rfl rfl ?_
  obtain ⟨_, T209, Lc209, X209, hQ209, st209⟩ := own_callS X207 hx (y := (⟨"java/lang/Math", "min", "(II)I"⟩ : MethodName)) hown (mvT hZ (own_w hw 176 rfl)) (mvT hZ (own_w hw 177 rfl)) (mvT hZ (own_w hw 178 rfl)) (mvT hZ (own_w hw 179 rfl)) (by decide) (backOf (W := 4) (own_rmMN l Z a0 hw [] (2 : Int32) h207 n0 (Nat.le_trans Z0 KP.1) OL (by decide)) hZ (own_w hw 179 rfl) (own_w hw 178 rfl) (by decide) (by decide)) (g := (mkF m 24 #[rv vb, iv 0, iv 2, iv 2, rv b207] [(.int (2 : Int32)), (.int (16 : Int32)), (.int (0 : Int32)), (.ref b207), (.int (0 : Int32)), (.ref vb)])) rfl (by rw [hml]; rfl) (argsL := [(.int (16 : Int32)), (.int (2 : Int32))]) (rest := [(.int (0 : Int32)), (.ref b207), (.int (0 : Int32)), (.ref vb)]) (lenOf own_pd13 rfl) rfl (by show 2 * 0 + _ ≤ _; exact Nat.le_of_eq rfl) (hb hby own_d444) rfl e207 (kc := 1) (ks := 2) rfl rfl (by decide) (by decide)
  obtain ⟨rfl, N209q, e209⟩ := hQ209
  have N209 := Fr.app N206 N209q
  refine own_to (mkF m 27 #[rv vb, iv 0, iv 2, iv 2, rv b207] [(.int (2 : Int32)), (.int (0 : Int32)), (.ref b207), (.int (0 : Int32)), (.ref vb)]) st209 ?_
  obtain ⟨T210, h210, L210, X210, e210, N210, K210, A210, st210⟩ := cpA X209 hx hZ hown (own_w hw 180 rfl) (own_w hw 139 rfl) (own_w hw 137 rfl) (own_w hw 138 rfl) e209 Vb V_b207 (us := [(.int u0), (.int u1)]) (Or.inl ⟨rfl, rfl⟩) (by decide) (by decide) (by decide) (by decide) (by decide) rfl (Nat.le_of_ble_eq_true rfl) N209 ge_b207 (g := (mkF m 27 #[rv vb, iv 0, iv 2, iv 2, rv b207] [(.int (2 : Int32)), (.int (0 : Int32)), (.ref b207), (.int (0 : Int32)), (.ref vb)])) rfl (by rw [hml]; rfl) rfl (hb hby own_d445) (by decide) (W := 0) (by show 2 * 0 + _ ≤ _; exact Nat.le_of_eq rfl) (by decide)
  have OL := OL.keep K210 (allS ge_b207 all0)
  have KP := KP.trans K210 (allS (Or.inr sz_b207) all0)
  have Vb := Vb.keep K210 (ninS ne_vb_b207 nin0)
  have V_b207 : Arv Z h210 b207 k207 .byte (2 : Int32) [(.int u0), (.int u1)] (.int (0 : Int32)) := A210
  refine own_to (mkF m 30 #[rv vb, iv 0, iv 2, iv 2, rv b207] []) st210 ?_
  refine own_al 32 X210 hx (hb hby own_d446) rfl rfl rfl ?_
  exact own_retA X210 hx Bd.returns rfl hlk (hb hby own_d447) rfl (by decide) (by decide) (by rw [e210]; exact ⟨b207, k207, rfl, N210, KP, ge_b207, sz_b207, V_b207⟩)
set_option maxRecDepth 65536 in
set_option maxHeartbeats 40000000 in
theorem own_rmCB_3 (l : Launch) (Z : State) (a0 : Array Value) (hw : ∀ d ∈ tables_1, d.before a0 Z = true) (ws : List Jvm.Cond) (vb : Addr) (kv : ClassId) (u0 u1 u2 u3 u4 u5 u6 u7 u8 u9 u10 u11 u12 u13 u14 u15 : Int32) (h0 : Heap) (n0 : Nat) (Z0 : n0 ≤ h0.size) (OL : Old Z n0 h0) (Vb : Arv Z h0 vb kv .byte (16 : Int32) [(.int u0), (.int u1), (.int u2), (.int u3), (.int u4), (.int u5), (.int u6), (.int u7), (.int u8), (.int u9), (.int u10), (.int u11), (.int u12), (.int u13), (.int u14), (.int u15)] (.int (0 : Int32))) :
    own_MF l (⟨"java/util/Arrays", "copyOfRangeByte", "([BII)[B"⟩ : MethodName) (Jvm.Cond.code (⟨"java/util/Arrays", "copyOfRangeByte", "([BII)[B"⟩ : MethodName) jdk_65_method_133_code 5 (some (.array .byte)) :: ws) ({ frames := 1, cells := 1, slots := 16, locals := 40 } : Room) #[(.ref vb), (.int (0 : Int32)), (.int (3 : Int32))] Z h0 (own_QCB Z (3 : Int32) [(.int u0), (.int u1), (.int u2)] h0 n0) := by
  refine MetFree.of_bodySF (plainFor_of_name own_pn6) hisR ?_
  intro p e s m args below meth c s₁ Bd hml0 hP hK
  obtain ⟨rfl, hZ, hh⟩ := hP
  have hx := Bd.exec
  have hby := Bd.bytes
  have hlk : meth.locks = false := BodyLoose.notSynchronized Bd
  have hml : c.maxLocals = 5 := hml0
  have hown : s.vm.findClass "java/util/Arrays" = some m.cls := findClass_of_methodNamed Bd.named
  have hnm := (name_of_methodNamed Bd.named Bd.method).1
  have X0 : Stand p l e ({ frames := 1, cells := 1, slots := 16, locals := 40 } : Room) s m #[(.ref vb), (.int (0 : Int32)), (.int (3 : Int32))] below meth c s₁ [] 0 0 := Stand.of_body Bd
  have e0 : s₁.heap = h0 := by rw [← hh, Bd.state]; rfl
  have N0 := Fr.nil n0
  have KP : Keep h0 h0 [] := Keep.refl _ _
  refine own_start (Fin := (own_Fin s (own_QCB Z (3 : Int32) [(.int u0), (.int u1), (.int u2)] h0 n0) ({ frames := 1, cells := 1, slots := 16, locals := 40 } : Room).cells ({ frames := 1, cells := 1, slots := 16, locals := 40 } : Room).slots)) (own_from (mkF m 0 #[rv vb, iv 0, iv 3, .unset, .unset] []) (castTop (own_ef_CB_3 m vb (0 : Int32) (3 : Int32))) ?_)
  refine own_iln 1 X0 hx (hb hby own_d425) rfl rfl ?_
  refine own_iln 2 X0 hx (hb hby own_d426) rfl rfl ?_
  obtain ⟨_, T211, Lc211, X211, hQ211, st211⟩ := own_callS X0 hx (y := (⟨"java/util/Arrays", "checkLength", "(II)V"⟩ : MethodName)) hown (mvT hZ (own_w hw 173 rfl)) (mvT hZ (own_w hw 174 rfl)) (mvT hZ (own_w hw 168 rfl)) (mvT hZ (own_w hw 175 rfl)) (by decide) (backOf (W := 0) (own_rmCL l Z a0 hw [] (3 : Int32) h0 n0 (Nat.le_trans Z0 KP.1) OL (by decide)) hZ (own_w hw 175 rfl) (own_w hw 168 rfl) (by decide) (by decide)) (g := (mkF m 2 #[rv vb, iv 0, iv 3, .unset, .unset] [(.int (3 : Int32)), (.int (0 : Int32))])) rfl (by rw [hml]; rfl) (argsL := [(.int (0 : Int32)), (.int (3 : Int32))]) (rest := []) (lenOf own_pd12 rfl) rfl (by show 2 * 0 + _ ≤ _; exact Nat.le_of_eq rfl) (hb hby own_d427) rfl e0 (kc := 0) (ks := 0) rfl rfl (by decide) (by decide)
  obtain ⟨rfl, N211q, e211⟩ := hQ211
  have N211 := Fr.app N0 N211q
  refine own_to (mkF m 5 #[rv vb, iv 0, iv 3, .unset, .unset] []) st211 ?_
  refine own_iln 6 X211 hx (hb hby own_d428) rfl rfl ?_
  refine own_iln 7 X211 hx (hb hby own_d429) rfl rfl ?_
  refine own_isub 8 X211 hx (hb hby own_d430) (z := (3 : Int32)) rfl rfl ?_
  refine own_isn 9 #[rv vb, iv 0, iv 3, iv 3, .unset] X211 hx (hb hby own_d431) rfl rfl ?_
  refine own_iln 10 X211 hx (hb hby own_d432) rfl rfl ?_
  obtain ⟨T212, h212, k212, X212, e212, E212, A212, B212, st212⟩ := newPE X211 hx hZ (own_w hw 23 rfl) e211 (g := (mkF m 10 #[rv vb, iv 0, iv 3, iv 3, .unset] [(.int (3 : Int32))])) rfl (hb hby own_d433) rfl (by decide) (cap := 3) (by decide) (by decide) (by decide) (by decide) (ad := "[B") (by decide)
  obtain ⟨b212, g212⟩ : ∃ z, z = h0.size := ⟨_, rfl⟩
  rw [← g212] at A212 B212 st212
  have sz_b212 : h0.size ≤ b212 := Nat.le_trans KP.1 (Nat.le_of_eq g212.symm)
  have ge_b212 : n0 ≤ b212 := Nat.le_trans Z0 sz_b212
  have ne_vb_b212 : vb ≠ b212 := Nat.ne_of_lt (Nat.lt_of_lt_of_le Vb.lt (Nat.le_of_eq g212.symm))
  have OL := OL.ext E212
  have KP := KP.ext E212
  have Vb := Vb.ext E212
  have V_b212 : Arv Z h212 b212 k212 .byte (3 : Int32) [(.int (0 : Int32)), (.int (0 : Int32)), (.int (0 : Int32))] (.int (0 : Int32)) := (Arv.new A212 (by decide)).pad (pad_rep [] (.int (0 : Int32)) 3)
  refine own_to (mkF m 12 #[rv vb, iv 0, iv 3, iv 3, .unset] [(.ref b212)]) st212 ?_
  refine own_as 14 #[rv vb, iv 0, iv 3, iv 3, rv b212] X212 hx (hb hby own_d434) rfl rfl rfl ?_
  refine own_aln 15 X212 hx (hb hby own_d435) rfl rfl rfl ?_
  refine own_iln 16 X212 hx (hb hby own_d436) rfl rfl ?_
  refine own_al 18 X212 hx (hb hby own_d437) rfl rfl rfl ?_
  refine own_ic 19 0 X212 hx (hb hby own_d438) rfl rfl ?_
  refine own_aln 20 X212 hx (hb hby own_d439) rfl rfl rfl ?_
  obtain ⟨cl213, Ar213, -, S213, M213, -, -⟩ := id Vb
  refine own_to (mkF m 21 #[rv vb, iv 0, iv 3, iv 3, rv b212] [(.int (16 : Int32)), (.int (0 : Int32)), (.ref b212), (.int (0 : Int32)), (.ref vb)]) (by have q := X212.arraylength hx (by rw [e212]; exact Ar213.1) (State.isArrayOf_alike hZ.alike Ar213.2.1) (g := (mkF m 20 #[rv vb, iv 0, iv 3, iv 3, rv b212] [(.ref vb), (.int (0 : Int32)), (.ref b212), (.int (0 : Int32)), (.ref vb)])) rfl rfl (hb hby own_d440); rw [len_of S213 M213] at q; exact q) ?_
  refine own_iln 22 X212 hx (hb hby own_d441) rfl rfl ?_
  refine own_isub 23 X212 hx (hb hby own_d442) (z := (16 : Int32)) rfl rfl ?_
  refine own_iln 24 X212 hx (hb hby own_d443) rfl rfl ?_
  obtain ⟨_, T214, Lc214, X214, hQ214, st214⟩ := own_callS X212 hx (y := (⟨"java/lang/Math", "min", "(II)I"⟩ : MethodName)) hown (mvT hZ (own_w hw 176 rfl)) (mvT hZ (own_w hw 177 rfl)) (mvT hZ (own_w hw 178 rfl)) (mvT hZ (own_w hw 179 rfl)) (by decide) (backOf (W := 4) (own_rmMN l Z a0 hw [] (3 : Int32) h212 n0 (Nat.le_trans Z0 KP.1) OL (by decide)) hZ (own_w hw 179 rfl) (own_w hw 178 rfl) (by decide) (by decide)) (g := (mkF m 24 #[rv vb, iv 0, iv 3, iv 3, rv b212] [(.int (3 : Int32)), (.int (16 : Int32)), (.int (0 : Int32)), (.ref b212), (.int (0 : Int32)), (.ref vb)])) rfl (by rw [hml]; rfl) (argsL := [(.int (16 : Int32)), (.int (3 : Int32))]) (rest := [(.int (0 : Int32)), (.ref b212), (.int (0 : Int32)), (.ref vb)]) (lenOf own_pd13 rfl) rfl (by show 2 * 0 + _ ≤ _; exact Nat.le_of_eq rfl) (hb hby own_d444) rfl e212 (kc := 1) (ks := 3) rfl rfl (by decide) (by decide)
  obtain ⟨rfl, N214q, e214⟩ := hQ214
  have N214 := Fr.app N211 N214q
  refine own_to (mkF m 27 #[rv vb, iv 0, iv 3, iv 3, rv b212] [(.int (3 : Int32)), (.int (0 : Int32)), (.ref b212), (.int (0 : Int32)), (.ref vb)]) st214 ?_
  obtain ⟨T215, h215, L215, X215, e215, N215, K215, A215, st215⟩ := cpA X214 hx hZ hown (own_w hw 180 rfl) (own_w hw 139 rfl) (own_w hw 137 rfl) (own_w hw 138 rfl) e214 Vb V_b212 (us := [(.int u0), (.int u1), (.int u2)]) (Or.inl ⟨rfl, rfl⟩) (by decide) (by decide) (by decide) (by decide) (by decide) rfl (Nat.le_of_ble_eq_true rfl) N214 ge_b212 (g := (mkF m 27 #[rv vb, iv 0, iv 3, iv 3, rv b212] [(.int (3 : Int32)), (.int (0 : Int32)), (.ref b212), (.int (0 : Int32)), (.ref vb)])) rfl (by rw [hml]; rfl) rfl (hb hby own_d445) (by decide) (W := 0) (by show 2 * 0 + _ ≤ _; exact Nat.le_of_eq rfl) (by decide)
  have OL := OL.keep K215 (allS ge_b212 all0)
  have KP := KP.trans K215 (allS (Or.inr sz_b212) all0)
  have Vb := Vb.keep K215 (ninS ne_vb_b212 nin0)
  have V_b212 : Arv Z h215 b212 k212 .byte (3 : Int32) [(.int u0), (.int u1), (.int u2)] (.int (0 : Int32)) := A215
  refine own_to (mkF m 30 #[rv vb, iv 0, iv 3, iv 3, rv b212] []) st215 ?_
  refine own_al 32 X215 hx (hb hby own_d446) rfl rfl rfl ?_
  exact own_retA X215 hx Bd.returns rfl hlk (hb hby own_d447) rfl (by decide) (by decide) (by rw [e215]; exact ⟨b212, k212, rfl, N215, KP, ge_b212, sz_b212, V_b212⟩)
set_option maxRecDepth 65536 in
set_option maxHeartbeats 40000000 in
theorem own_rmCB_4 (l : Launch) (Z : State) (a0 : Array Value) (hw : ∀ d ∈ tables_1, d.before a0 Z = true) (ws : List Jvm.Cond) (vb : Addr) (kv : ClassId) (u0 u1 u2 u3 u4 u5 u6 u7 u8 u9 u10 u11 u12 u13 u14 u15 : Int32) (h0 : Heap) (n0 : Nat) (Z0 : n0 ≤ h0.size) (OL : Old Z n0 h0) (Vb : Arv Z h0 vb kv .byte (16 : Int32) [(.int u0), (.int u1), (.int u2), (.int u3), (.int u4), (.int u5), (.int u6), (.int u7), (.int u8), (.int u9), (.int u10), (.int u11), (.int u12), (.int u13), (.int u14), (.int u15)] (.int (0 : Int32))) :
    own_MF l (⟨"java/util/Arrays", "copyOfRangeByte", "([BII)[B"⟩ : MethodName) (Jvm.Cond.code (⟨"java/util/Arrays", "copyOfRangeByte", "([BII)[B"⟩ : MethodName) jdk_65_method_133_code 5 (some (.array .byte)) :: ws) ({ frames := 1, cells := 1, slots := 16, locals := 40 } : Room) #[(.ref vb), (.int (0 : Int32)), (.int (4 : Int32))] Z h0 (own_QCB Z (4 : Int32) [(.int u0), (.int u1), (.int u2), (.int u3)] h0 n0) := by
  refine MetFree.of_bodySF (plainFor_of_name own_pn6) hisR ?_
  intro p e s m args below meth c s₁ Bd hml0 hP hK
  obtain ⟨rfl, hZ, hh⟩ := hP
  have hx := Bd.exec
  have hby := Bd.bytes
  have hlk : meth.locks = false := BodyLoose.notSynchronized Bd
  have hml : c.maxLocals = 5 := hml0
  have hown : s.vm.findClass "java/util/Arrays" = some m.cls := findClass_of_methodNamed Bd.named
  have hnm := (name_of_methodNamed Bd.named Bd.method).1
  have X0 : Stand p l e ({ frames := 1, cells := 1, slots := 16, locals := 40 } : Room) s m #[(.ref vb), (.int (0 : Int32)), (.int (4 : Int32))] below meth c s₁ [] 0 0 := Stand.of_body Bd
  have e0 : s₁.heap = h0 := by rw [← hh, Bd.state]; rfl
  have N0 := Fr.nil n0
  have KP : Keep h0 h0 [] := Keep.refl _ _
  refine own_start (Fin := (own_Fin s (own_QCB Z (4 : Int32) [(.int u0), (.int u1), (.int u2), (.int u3)] h0 n0) ({ frames := 1, cells := 1, slots := 16, locals := 40 } : Room).cells ({ frames := 1, cells := 1, slots := 16, locals := 40 } : Room).slots)) (own_from (mkF m 0 #[rv vb, iv 0, iv 4, .unset, .unset] []) (castTop (own_ef_CB_4 m vb (0 : Int32) (4 : Int32))) ?_)
  refine own_iln 1 X0 hx (hb hby own_d425) rfl rfl ?_
  refine own_iln 2 X0 hx (hb hby own_d426) rfl rfl ?_
  obtain ⟨_, T216, Lc216, X216, hQ216, st216⟩ := own_callS X0 hx (y := (⟨"java/util/Arrays", "checkLength", "(II)V"⟩ : MethodName)) hown (mvT hZ (own_w hw 173 rfl)) (mvT hZ (own_w hw 174 rfl)) (mvT hZ (own_w hw 168 rfl)) (mvT hZ (own_w hw 175 rfl)) (by decide) (backOf (W := 0) (own_rmCL l Z a0 hw [] (4 : Int32) h0 n0 (Nat.le_trans Z0 KP.1) OL (by decide)) hZ (own_w hw 175 rfl) (own_w hw 168 rfl) (by decide) (by decide)) (g := (mkF m 2 #[rv vb, iv 0, iv 4, .unset, .unset] [(.int (4 : Int32)), (.int (0 : Int32))])) rfl (by rw [hml]; rfl) (argsL := [(.int (0 : Int32)), (.int (4 : Int32))]) (rest := []) (lenOf own_pd12 rfl) rfl (by show 2 * 0 + _ ≤ _; exact Nat.le_of_eq rfl) (hb hby own_d427) rfl e0 (kc := 0) (ks := 0) rfl rfl (by decide) (by decide)
  obtain ⟨rfl, N216q, e216⟩ := hQ216
  have N216 := Fr.app N0 N216q
  refine own_to (mkF m 5 #[rv vb, iv 0, iv 4, .unset, .unset] []) st216 ?_
  refine own_iln 6 X216 hx (hb hby own_d428) rfl rfl ?_
  refine own_iln 7 X216 hx (hb hby own_d429) rfl rfl ?_
  refine own_isub 8 X216 hx (hb hby own_d430) (z := (4 : Int32)) rfl rfl ?_
  refine own_isn 9 #[rv vb, iv 0, iv 4, iv 4, .unset] X216 hx (hb hby own_d431) rfl rfl ?_
  refine own_iln 10 X216 hx (hb hby own_d432) rfl rfl ?_
  obtain ⟨T217, h217, k217, X217, e217, E217, A217, B217, st217⟩ := newPE X216 hx hZ (own_w hw 23 rfl) e216 (g := (mkF m 10 #[rv vb, iv 0, iv 4, iv 4, .unset] [(.int (4 : Int32))])) rfl (hb hby own_d433) rfl (by decide) (cap := 4) (by decide) (by decide) (by decide) (by decide) (ad := "[B") (by decide)
  obtain ⟨b217, g217⟩ : ∃ z, z = h0.size := ⟨_, rfl⟩
  rw [← g217] at A217 B217 st217
  have sz_b217 : h0.size ≤ b217 := Nat.le_trans KP.1 (Nat.le_of_eq g217.symm)
  have ge_b217 : n0 ≤ b217 := Nat.le_trans Z0 sz_b217
  have ne_vb_b217 : vb ≠ b217 := Nat.ne_of_lt (Nat.lt_of_lt_of_le Vb.lt (Nat.le_of_eq g217.symm))
  have OL := OL.ext E217
  have KP := KP.ext E217
  have Vb := Vb.ext E217
  have V_b217 : Arv Z h217 b217 k217 .byte (4 : Int32) [(.int (0 : Int32)), (.int (0 : Int32)), (.int (0 : Int32)), (.int (0 : Int32))] (.int (0 : Int32)) := (Arv.new A217 (by decide)).pad (pad_rep [] (.int (0 : Int32)) 4)
  refine own_to (mkF m 12 #[rv vb, iv 0, iv 4, iv 4, .unset] [(.ref b217)]) st217 ?_
  refine own_as 14 #[rv vb, iv 0, iv 4, iv 4, rv b217] X217 hx (hb hby own_d434) rfl rfl rfl ?_
  refine own_aln 15 X217 hx (hb hby own_d435) rfl rfl rfl ?_
  refine own_iln 16 X217 hx (hb hby own_d436) rfl rfl ?_
  refine own_al 18 X217 hx (hb hby own_d437) rfl rfl rfl ?_
  refine own_ic 19 0 X217 hx (hb hby own_d438) rfl rfl ?_
  refine own_aln 20 X217 hx (hb hby own_d439) rfl rfl rfl ?_
  obtain ⟨cl218, Ar218, -, S218, M218, -, -⟩ := id Vb
  refine own_to (mkF m 21 #[rv vb, iv 0, iv 4, iv 4, rv b217] [(.int (16 : Int32)), (.int (0 : Int32)), (.ref b217), (.int (0 : Int32)), (.ref vb)]) (by have q := X217.arraylength hx (by rw [e217]; exact Ar218.1) (State.isArrayOf_alike hZ.alike Ar218.2.1) (g := (mkF m 20 #[rv vb, iv 0, iv 4, iv 4, rv b217] [(.ref vb), (.int (0 : Int32)), (.ref b217), (.int (0 : Int32)), (.ref vb)])) rfl rfl (hb hby own_d440); rw [len_of S218 M218] at q; exact q) ?_
  refine own_iln 22 X217 hx (hb hby own_d441) rfl rfl ?_
  refine own_isub 23 X217 hx (hb hby own_d442) (z := (16 : Int32)) rfl rfl ?_
  refine own_iln 24 X217 hx (hb hby own_d443) rfl rfl ?_
  obtain ⟨_, T219, Lc219, X219, hQ219, st219⟩ := own_callS X217 hx (y := (⟨"java/lang/Math", "min", "(II)I"⟩ : MethodName)) hown (mvT hZ (own_w hw 176 rfl)) (mvT hZ (own_w hw 177 rfl)) (mvT hZ (own_w hw 178 rfl)) (mvT hZ (own_w hw 179 rfl)) (by decide) (backOf (W := 4) (own_rmMN l Z a0 hw [] (4 : Int32) h217 n0 (Nat.le_trans Z0 KP.1) OL (by decide)) hZ (own_w hw 179 rfl) (own_w hw 178 rfl) (by decide) (by decide)) (g := (mkF m 24 #[rv vb, iv 0, iv 4, iv 4, rv b217] [(.int (4 : Int32)), (.int (16 : Int32)), (.int (0 : Int32)), (.ref b217), (.int (0 : Int32)), (.ref vb)])) rfl (by rw [hml]; rfl) (argsL := [(.int (16 : Int32)), (.int (4 : Int32))]) (rest := [(.int (0 : Int32)), (.ref b217), (.int (0 : Int32)), (.ref vb)]) (lenOf own_pd13 rfl) rfl (by show 2 * 0 + _ ≤ _; exact Nat.le_of_eq rfl) (hb hby own_d444) rfl e217 (kc := 1) (ks := 4) rfl rfl (by decide) (by decide)
  obtain ⟨rfl, N219q, e219⟩ := hQ219
  have N219 := Fr.app N216 N219q
  refine own_to (mkF m 27 #[rv vb, iv 0, iv 4, iv 4, rv b217] [(.int (4 : Int32)), (.int (0 : Int32)), (.ref b217), (.int (0 : Int32)), (.ref vb)]) st219 ?_
  obtain ⟨T220, h220, L220, X220, e220, N220, K220, A220, st220⟩ := cpA X219 hx hZ hown (own_w hw 180 rfl) (own_w hw 139 rfl) (own_w hw 137 rfl) (own_w hw 138 rfl) e219 Vb V_b217 (us := [(.int u0), (.int u1), (.int u2), (.int u3)]) (Or.inl ⟨rfl, rfl⟩) (by decide) (by decide) (by decide) (by decide) (by decide) rfl (Nat.le_of_ble_eq_true rfl) N219 ge_b217 (g := (mkF m 27 #[rv vb, iv 0, iv 4, iv 4, rv b217] [(.int (4 : Int32)), (.int (0 : Int32)), (.ref b217), (.int (0 : Int32)), (.ref vb)])) rfl (by rw [hml]; rfl) rfl (hb hby own_d445) (by decide) (W := 0) (by show 2 * 0 + _ ≤ _; exact Nat.le_of_eq rfl) (by decide)
  have OL := OL.keep K220 (allS ge_b217 all0)
  have KP := KP.trans K220 (allS (Or.inr sz_b217) all0)
  have Vb := Vb.keep K220 (ninS ne_vb_b217 nin0)
  have V_b217 : Arv Z h220 b217 k217 .byte (4 : Int32) [(.int u0), (.int u1), (.int u2), (.int u3)] (.int (0 : Int32)) := A220
  refine own_to (mkF m 30 #[rv vb, iv 0, iv 4, iv 4, rv b217] []) st220 ?_
  refine own_al 32 X220 hx (hb hby own_d446) rfl rfl rfl ?_
  exact own_retA X220 hx Bd.returns rfl hlk (hb hby own_d447) rfl (by decide) (by decide) (by rw [e220]; exact ⟨b217, k217, rfl, N220, KP, ge_b217, sz_b217, V_b217⟩)
set_option maxRecDepth 65536 in
set_option maxHeartbeats 40000000 in
theorem own_rmCR (l : Launch) (Z : State) (a0 : Array Value) (hw : ∀ d ∈ tables_1, d.before a0 Z = true) (ws : List Jvm.Cond) (vb : Addr) (kv : ClassId) (us us' : List Value) (kk : Int32) (h0 : Heap) (n0 : Nat) (Z0 : n0 ≤ h0.size) (OL : Old Z n0 h0) (Vb : Arv Z h0 vb kv .byte (16 : Int32) us (.int (0 : Int32))) (hk16 : ¬ (kk = (16 : Int32))) (hCB : own_MF l (⟨"java/util/Arrays", "copyOfRangeByte", "([BII)[B"⟩ : MethodName) [Jvm.Cond.code (⟨"java/util/Arrays", "copyOfRangeByte", "([BII)[B"⟩ : MethodName) jdk_65_method_133_code 5 (some (.array .byte))] ({ frames := 1, cells := 1, slots := 16, locals := 40 } : Room) #[(.ref vb), (.int (0 : Int32)), (.int kk)] Z h0 (own_QCB Z kk us' h0 n0)) :
    own_MF l (⟨"java/util/Arrays", "copyOfRange", "([BII)[B"⟩ : MethodName) (Jvm.Cond.code (⟨"java/util/Arrays", "copyOfRange", "([BII)[B"⟩ : MethodName) jdk_65_method_132_code 3 (some (.array .byte)) :: ws) ({ frames := 2, cells := 1, slots := 16, locals := 58 } : Room) #[(.ref vb), (.int (0 : Int32)), (.int kk)] Z h0 (own_QCB Z kk us' h0 n0) := by
  refine MetFree.of_bodySF (plainFor_of_name own_pn6) hisR ?_
  intro p e s m args below meth c s₁ Bd hml0 hP hK
  obtain ⟨rfl, hZ, hh⟩ := hP
  have hx := Bd.exec
  have hby := Bd.bytes
  have hlk : meth.locks = false := BodyLoose.notSynchronized Bd
  have hml : c.maxLocals = 3 := hml0
  have hown : s.vm.findClass "java/util/Arrays" = some m.cls := findClass_of_methodNamed Bd.named
  have hnm := (name_of_methodNamed Bd.named Bd.method).1
  have X0 : Stand p l e ({ frames := 2, cells := 1, slots := 16, locals := 58 } : Room) s m #[(.ref vb), (.int (0 : Int32)), (.int kk)] below meth c s₁ [] 0 0 := Stand.of_body Bd
  have e0 : s₁.heap = h0 := by rw [← hh, Bd.state]; rfl
  have N0 := Fr.nil n0
  have KP : Keep h0 h0 [] := Keep.refl _ _
  refine own_start (Fin := (own_Fin s (own_QCB Z kk us' h0 n0) ({ frames := 2, cells := 1, slots := 16, locals := 58 } : Room).cells ({ frames := 2, cells := 1, slots := 16, locals := 58 } : Room).slots)) (own_from (mkF m 0 #[rv vb, iv 0, iv kk] []) (castTop (own_ef_CR m vb (0 : Int32) kk)) ?_)
  refine own_iln 1 X0 hx (hb hby own_d448) rfl rfl ?_
  refine own_ifN 4 X0 hx (hb hby own_d449) ((if0 _ _).trans (teq (by decide : (0 : Int32) = (0 : Int32))).2) rfl ?_
  refine own_iln 5 X0 hx (hb hby own_d450) rfl rfl ?_
  refine own_aln 6 X0 hx (hb hby own_d451) rfl rfl rfl ?_
  obtain ⟨cl221, Ar221, -, S221, M221, -, -⟩ := id Vb
  refine own_to (mkF m 7 #[rv vb, iv 0, iv kk] [(.int (16 : Int32)), (.int kk)]) (by have q := X0.arraylength hx (by rw [e0]; exact Ar221.1) (State.isArrayOf_alike hZ.alike Ar221.2.1) (g := (mkF m 6 #[rv vb, iv 0, iv kk] [(.ref vb), (.int kk)])) rfl rfl (hb hby own_d452); rw [len_of S221 M221] at q; exact q) ?_
  refine own_icN 10 X0 hx (hb hby own_d453) (feq hk16).1 rfl ?_
  refine own_aln 11 X0 hx (hb hby own_d454) rfl rfl rfl ?_
  refine own_iln 12 X0 hx (hb hby own_d455) rfl rfl ?_
  refine own_iln 13 X0 hx (hb hby own_d456) rfl rfl ?_
  have KP0 := KP
  have lt0_vb := Vb.lt
  obtain ⟨_, T222, Lc222, X222, hQ222, st222⟩ := own_callS X0 hx (y := (⟨"java/util/Arrays", "copyOfRangeByte", "([BII)[B"⟩ : MethodName)) hown (mvT hZ (own_w hw 170 rfl)) (mvT hZ (own_w hw 171 rfl)) (mvT hZ (own_w hw 168 rfl)) (mvT hZ (own_w hw 172 rfl)) (by decide) (backOf (W := 0) hCB hZ (own_w hw 172 rfl) (own_w hw 168 rfl) (by decide) (by decide)) (g := (mkF m 13 #[rv vb, iv 0, iv kk] [(.int kk), (.int (0 : Int32)), (.ref vb)])) rfl (by rw [hml]; rfl) (argsL := [(.ref vb), (.int (0 : Int32)), (.int kk)]) (rest := []) (lenOf own_pd14 rfl) rfl (by show 2 * 0 + _ ≤ _; exact Nat.le_of_eq rfl) (hb hby own_d457) rfl e0 (kc := 1) (ks := 16) rfl rfl (by decide) (by decide)
  obtain ⟨bb, kbb, rfl, N222q, K222, ge_bb, sz0_bb, Vbb⟩ := hQ222
  have N222 := Fr.app N0 N222q
  have OL := OL.keep K222 all0
  have KP := KP.trans K222 all0
  have Vb := Vb.keep K222 nin0
  refine own_to (mkF m 16 #[rv vb, iv 0, iv kk] [(.ref bb)]) st222 ?_
  have sz_bb : h0.size ≤ bb := Nat.le_trans KP0.1 sz0_bb
  have ne_vb_bb : vb ≠ bb := Nat.ne_of_lt (Nat.lt_of_lt_of_le lt0_vb sz0_bb)
  exact own_retA X222 hx Bd.returns rfl hlk (hb hby own_d458) rfl (by decide) (by decide) (by exact ⟨bb, kbb, rfl, N222, KP, ge_bb, sz_bb, Vbb⟩)
def own_QJ (Z : State) (sx : Addr) (kk : Int32) (us' : List Value) (h0 : Heap) (n0 : Nat) (v : Option Value) (h : Heap) (L : List Loc) : Prop := v = none ∧ Fr n0 L ∧ Keep h0 h [sx] ∧ ∃ (t : Addr) (kt : ClassId), own_StrG Z h sx t kt (0 : Int32) kk us'
set_option maxRecDepth 65536 in
set_option maxHeartbeats 40000000 in
theorem own_rmJ2 (l : Launch) (Z : State) (a0 : Array Value) (hw : ∀ d ∈ tables_1, d.before a0 Z = true) (ws : List Jvm.Cond) (G1 : Int32) (sx sb : Addr) (kk : Int32) (us : List Value) (vb : Addr) (kv : ClassId) (us' : List Value) (h0 : Heap) (n0 : Nat) (Z0 : n0 ≤ h0.size) (OL : Old Z n0 h0) (ge_sx : n0 ≤ sx) (ne_sb_sx : sb ≠ sx) (ne_vb_sx : vb ≠ sx) (E_sx : Exa Z h0 sx "java/lang/String") (F_value_sx : Fld Z h0 sx "java/lang/String" "value" "[B" .null) (F_coder_sx : Fld Z h0 sx "java/lang/String" "coder" "B" (.int (0 : Int32))) (E_sb : Exa Z h0 sb "java/lang/StringBuilder") (FV : Fld Z h0 sb "java/lang/AbstractStringBuilder" "value" "[B" (.ref vb)) (FC : Fld Z h0 sb "java/lang/AbstractStringBuilder" "coder" "B" (.int (0 : Int32))) (FN : Fld Z h0 sb "java/lang/AbstractStringBuilder" "count" "I" (.int kk)) (Vb : Arv Z h0 vb kv .byte (16 : Int32) us (.int (0 : Int32))) (hk16 : ¬ (kk = (16 : Int32))) (hCB : ∀ h1 : Heap, n0 ≤ h1.size → Old Z n0 h1 → Arv Z h1 vb kv .byte (16 : Int32) us (.int (0 : Int32)) → own_MF l (⟨"java/util/Arrays", "copyOfRangeByte", "([BII)[B"⟩ : MethodName) [Jvm.Cond.code (⟨"java/util/Arrays", "copyOfRangeByte", "([BII)[B"⟩ : MethodName) jdk_65_method_133_code 5 (some (.array .byte))] ({ frames := 1, cells := 1, slots := 16, locals := 40 } : Room) #[(.ref vb), (.int (0 : Int32)), (.int kk)] Z h1 (own_QCB Z kk us' h1 n0)) (O2 : Sta Z Z.heap "java/lang/String" "COMPACT_STRINGS" "Z" (.int G1)) (P5 : ¬ (G1 = (0 : Int32))) :
    own_MF l (⟨"java/lang/String", "<init>", "(Ljava/lang/AbstractStringBuilder;Ljava/lang/Void;)V"⟩ : MethodName) (Jvm.Cond.code (⟨"java/lang/String", "<init>", "(Ljava/lang/AbstractStringBuilder;Ljava/lang/Void;)V"⟩ : MethodName) jdk_42_method_150_code 5 none :: ws) ({ frames := 3, cells := 1, slots := 16, locals := 76 } : Room) #[(.ref sx), (.ref sb), .null] Z h0 (own_QJ Z sx kk us' h0 n0) := by
  refine MetFree.of_bodySF (plainFor_of_name own_pn0) hisR ?_
  intro p e s m args below meth c s₁ Bd hml0 hP hK
  obtain ⟨rfl, hZ, hh⟩ := hP
  have hx := Bd.exec
  have hby := Bd.bytes
  have hlk : meth.locks = false := BodyLoose.notSynchronized Bd
  have hml : c.maxLocals = 5 := hml0
  have hown : s.vm.findClass "java/lang/String" = some m.cls := findClass_of_methodNamed Bd.named
  have hnm := (name_of_methodNamed Bd.named Bd.method).1
  have X0 : Stand p l e ({ frames := 3, cells := 1, slots := 16, locals := 76 } : Room) s m #[(.ref sx), (.ref sb), .null] below meth c s₁ [] 0 0 := Stand.of_body Bd
  have e0 : s₁.heap = h0 := by rw [← hh, Bd.state]; rfl
  have N0 := Fr.nil n0
  have KP : Keep h0 h0 [sx] := Keep.refl _ _
  refine own_start (Fin := (own_Fin s (own_QJ Z sx kk us' h0 n0) ({ frames := 3, cells := 1, slots := 16, locals := 76 } : Room).cells ({ frames := 3, cells := 1, slots := 16, locals := 76 } : Room).slots)) (own_from (mkF m 0 #[rv sx, rv sb, .val .null, .unset, .unset] []) (castTop (own_ef_J2 m sx sb)) ?_)
  refine own_aln 1 X0 hx (hb hby own_d459) rfl rfl rfl ?_
  obtain ⟨T223, X223, e223, st223⟩ := initO X0 hx hZ hown (own_w hw 19 rfl) (own_w hw 20 rfl) (own_w hw 21 rfl) e0 (g := (mkF m 1 #[rv sx, rv sb, .val .null, .unset, .unset] [(.ref sx)])) rfl (by rw [hml]; rfl) rfl (hb hby own_d460) (by decide) (W := 0) (by show 2 * 0 + _ ≤ _; exact Nat.le_of_eq rfl) (by decide)
  refine own_to (mkF m 4 #[rv sx, rv sb, .val .null, .unset, .unset] []) st223 ?_
  refine own_aln 5 X223 hx (hb hby own_d461) rfl rfl rfl ?_
  obtain ⟨cq224, kq224, q224a, q224b, q224c⟩ := isOf hZ e223 E_sb
  obtain ⟨_, T224, Lc224, X224, hQ224, st224⟩ := own_virtual X223 hx (y := (⟨"java/lang/AbstractStringBuilder", "getValue", "()[B"⟩ : MethodName)) (z := (⟨"java/lang/AbstractStringBuilder", "getValue", "()[B"⟩ : MethodName)) hown (mvT hZ (own_w hw 152 rfl)) (mvT hZ (own_w hw 153 rfl)) (notFace_of_selects (args := #[]) (mvT hZ (own_w hw 155 rfl))) (mvT hZ (own_w hw 155 rfl)) (mvT hZ (own_w hw 154 rfl)) (by decide) (backOf (W := 0) (own_rmGV l Z a0 hw [] sb vb h0 n0 (Nat.le_trans Z0 KP.1) OL FV) hZ (own_w hw 156 rfl) (own_w hw 66 rfl) (by decide) (by decide)) q224a q224c (g := (mkF m 5 #[rv sx, rv sb, .val .null, .unset, .unset] [(.ref sb)])) rfl (by rw [hml]; rfl) (argsL := []) (rest := []) (lenOf own_pd15 rfl) rfl (by show 2 * 0 + _ ≤ _; exact Nat.le_of_eq rfl) (hb hby own_d462) rfl e223 (kc := 0) (ks := 0) rfl rfl (by decide) (by decide)
  obtain ⟨rfl, N224q, e224⟩ := hQ224
  have N224 := Fr.app N0 N224q
  refine own_via (mkF m 8 #[rv sx, rv sb, .val .null, .unset, .unset] [(.ref vb)]) st224 ?_
  refine own_asn 9 #[rv sx, rv sb, .val .null, rv vb, .unset] X224 hx (hb hby own_d463) rfl rfl rfl ?_
  refine own_aln 10 X224 hx (hb hby own_d464) rfl rfl rfl ?_
  obtain ⟨cq225, kq225, q225a, q225b, q225c⟩ := isOf hZ e224 E_sb
  obtain ⟨_, T225, Lc225, X225, hQ225, st225⟩ := own_virtual X224 hx (y := (⟨"java/lang/AbstractStringBuilder", "length", "()I"⟩ : MethodName)) (z := (⟨"java/lang/StringBuilder", "length", "()I"⟩ : MethodName)) hown (mvT hZ (own_w hw 157 rfl)) (mvT hZ (own_w hw 158 rfl)) (own_notFace (args := #[]) (mvT hZ (own_w hw 89 rfl)) rfl) (mvT hZ (own_w hw 160 rfl)) (mvT hZ (own_w hw 161 rfl)) (by decide) (backOf (W := 0) (own_rmLB l Z a0 hw [] sb kk h0 n0 (Nat.le_trans Z0 KP.1) OL E_sb FN) hZ (own_w hw 162 rfl) (own_w hw 58 rfl) (by decide) (by decide)) q225a q225c (g := (mkF m 10 #[rv sx, rv sb, .val .null, rv vb, .unset] [(.ref sb)])) rfl (by rw [hml]; rfl) (argsL := []) (rest := []) (lenOf own_pd4 rfl) rfl (by show 2 * 0 + _ ≤ _; exact Nat.le_of_eq rfl) (hb hby own_d465) rfl e224 (kc := 0) (ks := 0) rfl rfl (by decide) (by decide)
  obtain ⟨rfl, N225q, e225⟩ := hQ225
  have N225 := Fr.app N224 N225q
  refine own_via (mkF m 13 #[rv sx, rv sb, .val .null, rv vb, .unset] [(.int kk)]) st225 ?_
  refine own_is 15 #[rv sx, rv sb, .val .null, rv vb, iv kk] X225 hx (hb hby own_d466) rfl rfl ?_
  refine own_aln 16 X225 hx (hb hby own_d467) rfl rfl rfl ?_
  obtain ⟨cq226, kq226, q226a, q226b, q226c⟩ := isOf hZ e225 E_sb
  obtain ⟨_, T226, Lc226, X226, hQ226, st226⟩ := own_virtual X225 hx (y := (⟨"java/lang/AbstractStringBuilder", "isLatin1", "()Z"⟩ : MethodName)) (z := (⟨"java/lang/AbstractStringBuilder", "isLatin1", "()Z"⟩ : MethodName)) hown (mvT hZ (own_w hw 165 rfl)) (mvT hZ (own_w hw 92 rfl)) (notFace_of_selects (args := #[]) (mvT hZ (own_w hw 94 rfl))) (mvT hZ (own_w hw 94 rfl)) (mvT hZ (own_w hw 93 rfl)) (by decide) (backOf (W := 0) (own_rmA1 l Z a0 hw [] G1 sb h0 n0 (Nat.le_trans Z0 KP.1) OL FC O2 P5) hZ (own_w hw 95 rfl) (own_w hw 66 rfl) (by decide) (by decide)) q226a q226c (g := (mkF m 16 #[rv sx, rv sb, .val .null, rv vb, iv kk] [(.ref sb)])) rfl (by rw [hml]; rfl) (argsL := []) (rest := []) (lenOf own_pd9 rfl) rfl (by show 2 * 0 + _ ≤ _; exact Nat.le_of_eq rfl) (hb hby own_d468) rfl e225 (kc := 0) (ks := 0) rfl rfl (by decide) (by decide)
  obtain ⟨rfl, N226q, e226⟩ := hQ226
  have N226 := Fr.app N225 N226q
  refine own_via (mkF m 19 #[rv sx, rv sb, .val .null, rv vb, iv kk] [(.int (1 : Int32))]) st226 ?_
  refine own_ifN 22 X226 hx (hb hby own_d469) ((if0 _ _).trans (feq (by decide : ¬ ((1 : Int32) = (0 : Int32)))).1) rfl ?_
  refine own_aln 23 X226 hx (hb hby own_d470) rfl rfl rfl ?_
  refine own_ic 24 0 X226 hx (hb hby own_d471) rfl rfl ?_
  obtain ⟨T227, h227, X227, e227, W227, st227⟩ := putFN X226 hx hZ hown (own_w hw 29 rfl) Via.refl e226 F_coder_sx E_sx (Or.inr ⟨(own_w hw 25 rfl), rfl, hnm⟩) (own_w hw 9 rfl) (ty := .byte) (v' := (.int (0 : Int32))) (by decide) rfl rfl (g := (mkF m 24 #[rv sx, rv sb, .val .null, rv vb, iv kk] [(.int (0 : Int32)), (.ref sx)])) rfl rfl (hb hby own_d472)
  refine own_to (mkF m 27 #[rv sx, rv sb, .val .null, rv vb, iv kk] []) st227 ?_
  have N227 := Fr.snoc X227 N226 ge_sx
  have tmp227 : Fld Z h227 sx "java/lang/String" "coder" "B" (.int (0 : Int32)) := F_coder_sx.same W227
  have OL := OL.wr W227 ge_sx
  have KP := KP.wr W227 (Or.inl (List.mem_of_getElem? (i := 0) rfl))
  have E_sx := E_sx.wr W227
  have F_value_sx := F_value_sx.other W227 (Or.inr (slot_ne (Or.inr (own_w hw 24 rfl)) (Or.inr (own_w hw 25 rfl)) (by decide) (t := (.array .byte)) (t' := .byte) (by decide) (by decide)))
  have E_sb := E_sb.wr W227
  have Vb := Vb.other W227 ne_vb_sx
  have F_coder_sx := tmp227
  refine own_aln 28 X227 hx (hb hby own_d473) rfl rfl rfl ?_
  refine own_aln 29 X227 hx (hb hby own_d474) rfl rfl rfl ?_
  refine own_ic 30 0 X227 hx (hb hby own_d475) rfl rfl ?_
  refine own_il 32 X227 hx (hb hby own_d476) rfl rfl ?_
  have KP0 := KP
  have lt0_sx := E_sx.lt
  have lt0_sb := E_sb.lt
  have lt0_vb := Vb.lt
  obtain ⟨_, T228, Lc228, X228, hQ228, st228⟩ := own_callS X227 hx (y := (⟨"java/util/Arrays", "copyOfRange", "([BII)[B"⟩ : MethodName)) hown (mvT hZ (own_w hw 166 rfl)) (mvT hZ (own_w hw 167 rfl)) (mvT hZ (own_w hw 168 rfl)) (mvT hZ (own_w hw 169 rfl)) (by decide) (backOf (W := 1) (own_rmCR l Z a0 hw [] vb kv us us' kk h227 n0 (Nat.le_trans Z0 KP.1) OL Vb hk16 (hCB _ (Nat.le_trans Z0 KP.1) OL Vb)) hZ (own_w hw 169 rfl) (own_w hw 168 rfl) (by decide) (by decide)) (g := (mkF m 32 #[rv sx, rv sb, .val .null, rv vb, iv kk] [(.int kk), (.int (0 : Int32)), (.ref vb), (.ref sx)])) rfl (by rw [hml]; rfl) (argsL := [(.ref vb), (.int (0 : Int32)), (.int kk)]) (rest := [(.ref sx)]) (lenOf own_pd14 rfl) rfl (by show 2 * 0 + _ ≤ _; exact Nat.le_of_eq rfl) (hb hby own_d477) rfl e227 (kc := 1) (ks := 16) rfl rfl (by decide) (by decide)
  obtain ⟨bb, kbb, rfl, N228q, K228, ge_bb, sz0_bb, Vbb⟩ := hQ228
  have N228 := Fr.app N227 N228q
  have OL := OL.keep K228 all0
  have KP := KP.trans K228 all0
  have E_sx := E_sx.keep K228
  have F_value_sx := F_value_sx.keep K228 nin0
  have F_coder_sx := F_coder_sx.keep K228 nin0
  have E_sb := E_sb.keep K228
  have Vb := Vb.keep K228 nin0
  refine own_to (mkF m 35 #[rv sx, rv sb, .val .null, rv vb, iv kk] [(.ref bb), (.ref sx)]) st228 ?_
  have sz_bb : h0.size ≤ bb := Nat.le_trans KP0.1 sz0_bb
  have ne_sx_bb : sx ≠ bb := Nat.ne_of_lt (Nat.lt_of_lt_of_le lt0_sx sz0_bb)
  have ne_sb_bb : sb ≠ bb := Nat.ne_of_lt (Nat.lt_of_lt_of_le lt0_sb sz0_bb)
  have ne_vb_bb : vb ≠ bb := Nat.ne_of_lt (Nat.lt_of_lt_of_le lt0_vb sz0_bb)
  obtain ⟨T229, h229, X229, e229, W229, st229⟩ := putF X228 hx hZ hown (host := "") (Or.inl (own_w hw 28 rfl)) Via.refl rfl F_value_sx E_sx (Or.inr ⟨(own_w hw 24 rfl), rfl, hnm⟩) (own_w hw 9 rfl) (ty := (.array .byte)) (by decide) rfl rfl (g := (mkF m 35 #[rv sx, rv sb, .val .null, rv vb, iv kk] [(.ref bb), (.ref sx)])) rfl rfl (hb hby own_d478)
  refine own_to (mkF m 38 #[rv sx, rv sb, .val .null, rv vb, iv kk] []) st229 ?_
  have N229 := Fr.snoc X229 N228 ge_sx
  have tmp229 : Fld Z h229 sx "java/lang/String" "value" "[B" (.ref bb) := F_value_sx.same W229
  have OL := OL.wr W229 ge_sx
  have KP := KP.wr W229 (Or.inl (List.mem_of_getElem? (i := 0) rfl))
  have E_sx := E_sx.wr W229
  have F_coder_sx := F_coder_sx.other W229 (Or.inr (slot_ne (Or.inr (own_w hw 25 rfl)) (Or.inr (own_w hw 24 rfl)) (by decide) (t := .byte) (t' := (.array .byte)) (by decide) (by decide)))
  have E_sb := E_sb.wr W229
  have Vb := Vb.other W229 ne_vb_sx
  have Vbb := Vbb.other W229 (Ne.symm ne_sx_bb)
  have F_value_sx := tmp229
  refine own_go 97 X229 hx (hb hby own_d479) (by decide) (by decide) ?_
  exact own_ret0 X229 hx Bd.returns hlk (hb hby own_d480) (by decide) (by decide) (by rw [e229]; exact ⟨rfl, N229, KP, bb, kbb, E_sx, F_value_sx, F_coder_sx, Vbb⟩)
set_option maxRecDepth 65536 in
set_option maxHeartbeats 40000000 in
theorem own_rmJ1 (l : Launch) (Z : State) (a0 : Array Value) (hw : ∀ d ∈ tables_1, d.before a0 Z = true) (ws : List Jvm.Cond) (G1 : Int32) (sx sb : Addr) (kk : Int32) (us : List Value) (vb : Addr) (kv : ClassId) (us' : List Value) (h0 : Heap) (n0 : Nat) (Z0 : n0 ≤ h0.size) (OL : Old Z n0 h0) (ge_sx : n0 ≤ sx) (ne_sb_sx : sb ≠ sx) (ne_vb_sx : vb ≠ sx) (E_sx : Exa Z h0 sx "java/lang/String") (F_value_sx : Fld Z h0 sx "java/lang/String" "value" "[B" .null) (F_coder_sx : Fld Z h0 sx "java/lang/String" "coder" "B" (.int (0 : Int32))) (E_sb : Exa Z h0 sb "java/lang/StringBuilder") (FV : Fld Z h0 sb "java/lang/AbstractStringBuilder" "value" "[B" (.ref vb)) (FC : Fld Z h0 sb "java/lang/AbstractStringBuilder" "coder" "B" (.int (0 : Int32))) (FN : Fld Z h0 sb "java/lang/AbstractStringBuilder" "count" "I" (.int kk)) (Vb : Arv Z h0 vb kv .byte (16 : Int32) us (.int (0 : Int32))) (hk16 : ¬ (kk = (16 : Int32))) (hCB : ∀ h1 : Heap, n0 ≤ h1.size → Old Z n0 h1 → Arv Z h1 vb kv .byte (16 : Int32) us (.int (0 : Int32)) → own_MF l (⟨"java/util/Arrays", "copyOfRangeByte", "([BII)[B"⟩ : MethodName) [Jvm.Cond.code (⟨"java/util/Arrays", "copyOfRangeByte", "([BII)[B"⟩ : MethodName) jdk_65_method_133_code 5 (some (.array .byte))] ({ frames := 1, cells := 1, slots := 16, locals := 40 } : Room) #[(.ref vb), (.int (0 : Int32)), (.int kk)] Z h1 (own_QCB Z kk us' h1 n0)) (O2 : Sta Z Z.heap "java/lang/String" "COMPACT_STRINGS" "Z" (.int G1)) (P5 : ¬ (G1 = (0 : Int32))) :
    own_MF l (⟨"java/lang/String", "<init>", "(Ljava/lang/StringBuilder;)V"⟩ : MethodName) (Jvm.Cond.code (⟨"java/lang/String", "<init>", "(Ljava/lang/StringBuilder;)V"⟩ : MethodName) jdk_42_method_53_code 2 none :: ws) ({ frames := 4, cells := 1, slots := 16, locals := 94 } : Room) #[(.ref sx), (.ref sb)] Z h0 (own_QJ Z sx kk us' h0 n0) := by
  refine MetFree.of_bodySF (plainFor_of_name own_pn0) hisR ?_
  intro p e s m args below meth c s₁ Bd hml0 hP hK
  obtain ⟨rfl, hZ, hh⟩ := hP
  have hx := Bd.exec
  have hby := Bd.bytes
  have hlk : meth.locks = false := BodyLoose.notSynchronized Bd
  have hml : c.maxLocals = 2 := hml0
  have hown : s.vm.findClass "java/lang/String" = some m.cls := findClass_of_methodNamed Bd.named
  have hnm := (name_of_methodNamed Bd.named Bd.method).1
  have X0 : Stand p l e ({ frames := 4, cells := 1, slots := 16, locals := 94 } : Room) s m #[(.ref sx), (.ref sb)] below meth c s₁ [] 0 0 := Stand.of_body Bd
  have e0 : s₁.heap = h0 := by rw [← hh, Bd.state]; rfl
  have N0 := Fr.nil n0
  have KP : Keep h0 h0 [sx] := Keep.refl _ _
  refine own_start (Fin := (own_Fin s (own_QJ Z sx kk us' h0 n0) ({ frames := 4, cells := 1, slots := 16, locals := 94 } : Room).cells ({ frames := 4, cells := 1, slots := 16, locals := 94 } : Room).slots)) (own_from (mkF m 0 #[rv sx, rv sb] []) (castTop (own_ef_J1 m sx sb)) ?_)
  refine own_aln 1 X0 hx (hb hby own_d481) rfl rfl rfl ?_
  refine own_aln 2 X0 hx (hb hby own_d482) rfl rfl rfl ?_
  refine own_nul 3 X0 hx (hb hby own_d483) rfl ?_
  obtain ⟨_, T230, Lc230, X230, hQ230, st230⟩ := own_special X0 hx (y := (⟨"java/lang/String", "<init>", "(Ljava/lang/AbstractStringBuilder;Ljava/lang/Void;)V"⟩ : MethodName)) rfl hown (mvT hZ (own_w hw 149 rfl)) (mvT hZ (own_w hw 150 rfl)) (mvT hZ (own_w hw 151 rfl)) (by decide) (backOf (W := 0) (own_rmJ2 l Z a0 hw [] G1 sx sb kk us vb kv us' h0 n0 (Nat.le_trans Z0 KP.1) OL ge_sx ne_sb_sx ne_vb_sx E_sx F_value_sx F_coder_sx E_sb FV FC FN Vb hk16 hCB O2 P5) hZ (own_w hw 151 rfl) (own_w hw 10 rfl) (by decide) (by decide)) (g := (mkF m 3 #[rv sx, rv sb] [.null, (.ref sb), (.ref sx)])) rfl (by rw [hml]; rfl) (a := sx) (argsL := [(.ref sb), .null]) (rest := []) (lenOf own_pd16 rfl) rfl (by show 2 * 0 + _ ≤ _; exact Nat.le_of_eq rfl) (hb hby own_d484) rfl e0 (kc := 1) (ks := 16) rfl rfl (by decide) (by decide)
  obtain ⟨rfl, N230q, K230, hrest230⟩ := hQ230
  have N230 := Fr.app N0 N230q
  have OL := OL.keep K230 (allS ge_sx all0)
  have KP := KP.trans K230 (allS (Or.inl (List.mem_of_getElem? (i := 0) rfl)) all0)
  have E_sx := E_sx.keep K230
  refine own_via (mkF m 6 #[rv sx, rv sb] []) st230 ?_
  exact own_ret0 X230 hx Bd.returns hlk (hb hby own_d485) (by decide) (by decide) (by exact ⟨rfl, N230, KP, hrest230⟩)
def own_QTS (Z : State) (G1 : Int32) (sb : Addr) (kk : Int32) (us : List Value) (vb : Addr) (kv : ClassId) (us' : List Value) (h0 : Heap) (n0 : Nat) (v : Option Value) (h : Heap) (L : List Loc) : Prop := ∃ (r t : Addr) (kt : ClassId), v = some (.ref r) ∧ Fr n0 L ∧ Keep h0 h [] ∧ own_StrG Z h r t kt (0 : Int32) kk us'
set_option maxRecDepth 65536 in
set_option maxHeartbeats 40000000 in
theorem own_rmTS (l : Launch) (Z : State) (a0 : Array Value) (hw : ∀ d ∈ tables_1, d.before a0 Z = true) (ws : List Jvm.Cond) (G1 : Int32) (sb : Addr) (kk : Int32) (us : List Value) (vb : Addr) (kv : ClassId) (us' : List Value) (h0 : Heap) (n0 : Nat) (Z0 : n0 ≤ h0.size) (OL : Old Z n0 h0) (E_sb : Exa Z h0 sb "java/lang/StringBuilder") (FV : Fld Z h0 sb "java/lang/AbstractStringBuilder" "value" "[B" (.ref vb)) (FC : Fld Z h0 sb "java/lang/AbstractStringBuilder" "coder" "B" (.int (0 : Int32))) (FN : Fld Z h0 sb "java/lang/AbstractStringBuilder" "count" "I" (.int kk)) (Vb : Arv Z h0 vb kv .byte (16 : Int32) us (.int (0 : Int32))) (hk16 : ¬ (kk = (16 : Int32))) (hCB : ∀ h1 : Heap, n0 ≤ h1.size → Old Z n0 h1 → Arv Z h1 vb kv .byte (16 : Int32) us (.int (0 : Int32)) → own_MF l (⟨"java/util/Arrays", "copyOfRangeByte", "([BII)[B"⟩ : MethodName) [Jvm.Cond.code (⟨"java/util/Arrays", "copyOfRangeByte", "([BII)[B"⟩ : MethodName) jdk_65_method_133_code 5 (some (.array .byte))] ({ frames := 1, cells := 1, slots := 16, locals := 40 } : Room) #[(.ref vb), (.int (0 : Int32)), (.int kk)] Z h1 (own_QCB Z kk us' h1 n0)) (O2 : Sta Z Z.heap "java/lang/String" "COMPACT_STRINGS" "Z" (.int G1)) (P5 : ¬ (G1 = (0 : Int32))) :
    own_MF l (⟨"java/lang/StringBuilder", "toString", "()Ljava/lang/String;"⟩ : MethodName) (Jvm.Cond.code (⟨"java/lang/StringBuilder", "toString", "()Ljava/lang/String;"⟩ : MethodName) jdk_67_method_42_code 1 (some (.object "java/lang/String")) :: ws) ({ frames := 5, cells := 2, slots := 20, locals := 110 } : Room) #[(.ref sb)] Z h0 (own_QTS Z G1 sb kk us vb kv us' h0 n0) := by
  refine MetFree.of_bodySF (plainFor_of_name own_pn4) hisR ?_
  intro p e s m args below meth c s₁ Bd hml0 hP hK
  obtain ⟨rfl, hZ, hh⟩ := hP
  have hx := Bd.exec
  have hby := Bd.bytes
  have hlk : meth.locks = false := BodyLoose.notSynchronized Bd
  have hml : c.maxLocals = 1 := hml0
  have hown : s.vm.findClass "java/lang/StringBuilder" = some m.cls := findClass_of_methodNamed Bd.named
  have hnm := (name_of_methodNamed Bd.named Bd.method).1
  have X0 : Stand p l e ({ frames := 5, cells := 2, slots := 20, locals := 110 } : Room) s m #[(.ref sb)] below meth c s₁ [] 0 0 := Stand.of_body Bd
  have e0 : s₁.heap = h0 := by rw [← hh, Bd.state]; rfl
  have N0 := Fr.nil n0
  have KP : Keep h0 h0 [] := Keep.refl _ _
  refine own_start (Fin := (own_Fin s (own_QTS Z G1 sb kk us vb kv us' h0 n0) ({ frames := 5, cells := 2, slots := 20, locals := 110 } : Room).cells ({ frames := 5, cells := 2, slots := 20, locals := 110 } : Room).slots)) (own_from (mkF m 0 #[rv sb] []) (castTop (own_ef_TS m sb)) ?_)
  obtain ⟨T231, h231, X231, e231, E231, A231, D231, -, st231⟩ := newO X0 hx hZ hown (own_w hw 145 rfl) (own_w hw 9 rfl) (own_w hw 10 rfl) e0 (g := (mkF m 0 #[rv sb] [])) rfl (hb hby own_d486) (by decide) (by decide)
  obtain ⟨b231, g231⟩ : ∃ z, z = h0.size := ⟨_, rfl⟩
  rw [← g231] at A231 D231 st231
  have sz_b231 : h0.size ≤ b231 := Nat.le_trans KP.1 (Nat.le_of_eq g231.symm)
  have ge_b231 : n0 ≤ b231 := Nat.le_trans Z0 sz_b231
  have ne_sb_b231 : sb ≠ b231 := Nat.ne_of_lt (Nat.lt_of_lt_of_le E_sb.lt (Nat.le_of_eq g231.symm))
  have ne_vb_b231 : vb ≠ b231 := Nat.ne_of_lt (Nat.lt_of_lt_of_le Vb.lt (Nat.le_of_eq g231.symm))
  have OL := OL.ext E231
  have KP := KP.ext E231
  have E_sb := E_sb.ext E231
  have FV := FV.ext E231
  have FC := FC.ext E231
  have FN := FN.ext E231
  have Vb := Vb.ext E231
  have E_b231 : Exa Z h231 b231 "java/lang/String" := A231
  have F_value_b231 : Fld Z h231 b231 "java/lang/String" "value" "[B" .null := D231 (Or.inr (own_w hw 24 rfl)) (ty := (.array .byte)) (by decide)
  have F_coder_b231 : Fld Z h231 b231 "java/lang/String" "coder" "B" (.int (0 : Int32)) := D231 (Or.inr (own_w hw 25 rfl)) (ty := .byte) (by decide)
  refine own_to (mkF m 3 #[rv sb] [(.ref b231)]) st231 ?_
  refine own_dup 4 X231 hx (hb hby own_d487) rfl rfl ?_
  refine own_aln 5 X231 hx (hb hby own_d488) rfl rfl rfl ?_
  obtain ⟨_, T232, Lc232, X232, hQ232, st232⟩ := own_special X231 hx (y := (⟨"java/lang/String", "<init>", "(Ljava/lang/StringBuilder;)V"⟩ : MethodName)) rfl hown (mvT hZ (own_w hw 146 rfl)) (mvT hZ (own_w hw 147 rfl)) (mvT hZ (own_w hw 148 rfl)) (by decide) (backOf (W := 1) (own_rmJ1 l Z a0 hw [] G1 b231 sb kk us vb kv us' h231 n0 (Nat.le_trans Z0 KP.1) OL ge_b231 ne_sb_b231 ne_vb_b231 E_b231 F_value_b231 F_coder_b231 E_sb FV FC FN Vb hk16 hCB O2 P5) hZ (own_w hw 148 rfl) (own_w hw 10 rfl) (by decide) (by decide)) (g := (mkF m 5 #[rv sb] [(.ref sb), (.ref b231), (.ref b231)])) rfl (by rw [hml]; rfl) (a := b231) (argsL := [(.ref sb)]) (rest := [(.ref b231)]) (lenOf own_pd17 rfl) rfl (by show 2 * 0 + _ ≤ _; exact Nat.le_of_eq rfl) (hb hby own_d489) rfl e231 (kc := 2) (ks := 20) rfl rfl (by decide) (by decide)
  obtain ⟨rfl, N232q, K232, tq, kq, SGq⟩ := hQ232
  have N232 := Fr.app N0 N232q
  have OL := OL.keep K232 (allS ge_b231 all0)
  have KP := KP.trans K232 (allS (Or.inr sz_b231) all0)
  have E_sb := E_sb.keep K232
  have FV := FV.keep K232 (ninS ne_sb_b231 nin0)
  have FC := FC.keep K232 (ninS ne_sb_b231 nin0)
  have FN := FN.keep K232 (ninS ne_sb_b231 nin0)
  have Vb := Vb.keep K232 (ninS ne_vb_b231 nin0)
  have E_b231 := E_b231.keep K232
  refine own_via (mkF m 8 #[rv sb] [(.ref b231)]) st232 ?_
  exact own_retA X232 hx Bd.returns rfl hlk (hb hby own_d490) rfl (by decide) (by decide) (by exact ⟨b231, tq, kq, rfl, N232, KP, SGq⟩)
def own_QDE (Z : State) (tk aE : Addr) (h0 : Heap) (n0 : Nat) (v : Option Value) (h : Heap) (L : List Loc) : Prop := ∃ (sx t : Addr) (kb : ClassId), v = some (.ref sx) ∧ Fr n0 L ∧ Keep h0 h [] ∧ own_Str Z h sx t kb [101, 110, 100, 32, 111, 102, 32, 100, 111, 99, 117, 109, 101, 110, 116]
set_option maxRecDepth 65536 in
set_option maxHeartbeats 40000000 in
theorem own_rmDE (l : Launch) (Z : State) (a0 : Array Value) (hw : ∀ d ∈ tables_1, d.before a0 Z = true) (ws : List Jvm.Cond) (tk aE : Addr) (h0 : Heap) (n0 : Nat) (Z0 : n0 ≤ h0.size) (OL : Old Z n0 h0) (Fk : Fld Z h0 tk "com/example/ianus/ianus/Token" "kind" "Lcom/example/ianus/ianus/Token$Kind;" (.ref aE)) (SaE : Sta Z Z.heap "com/example/ianus/ianus/Token$Kind" "END" "Lcom/example/ianus/ianus/Token$Kind;" (.ref aE)) :
    MetFree l (⟨"com/example/ianus/ianus/Token", "describe", "()Ljava/lang/String;"⟩ : MethodName) (head1 (Jvm.Cond.code (⟨"com/example/ianus/ianus/Token", "describe", "()Ljava/lang/String;"⟩ : MethodName) prog_18_method_9_code 2 (some (.object "java/lang/String")) :: ws) ({ frames := 1, cells := 2, slots := 64, locals := 12 } : Room)) (fun aa_ U => aa_ = #[(.ref tk)] ∧ Z.Warmed39 U.vm ∧ U.heap = h0 ∧ CHv Z own_EL U.vm h0) (fun _ _ _ _ _ => True) (fun _ U o U' => ∃ v L, o = .returned v ∧ own_QDE Z tk aE h0 n0 v U'.heap L ∧ CHr Z own_EL U.vm U.heap U'.vm U'.heap ∧ ReturnedEndW U o U' L ({ frames := 1, cells := 2, slots := 64, locals := 12 } : Room).cells ({ frames := 1, cells := 2, slots := 64, locals := 12 } : Room).slots) := by
  refine MetFree.of_bodySF (plainFor_of_name own_pn2) hisR ?_
  intro p e s m args below meth c s₁ Bd hml0 hP hK
  obtain ⟨rfl, hZ, hh, CH⟩ := hP
  have hx := Bd.exec
  have hby := Bd.bytes
  have hlk : meth.locks = false := BodyLoose.notSynchronized Bd
  have hml : c.maxLocals = 2 := hml0
  have hown : s.vm.findClass "com/example/ianus/ianus/Token" = some m.cls := findClass_of_methodNamed Bd.named
  have hnm := (name_of_methodNamed Bd.named Bd.method).1
  have X0 : Stand p l e ({ frames := 1, cells := 2, slots := 64, locals := 12 } : Room) s m #[(.ref tk)] below meth c s₁ [] 0 0 := Stand.of_body Bd
  have e0 : s₁.heap = h0 := by rw [← hh, Bd.state]; rfl
  have N0 := Fr.nil n0
  have KP : Keep h0 h0 [] := Keep.refl _ _
  have hS : s.Since s.vm 0 := (State.WarmedH.refl s).since 0
  have hk1 : 0 ≤ h0.size := Nat.zero_le _
  have CHR : CHr Z own_EL s.vm h0 s.vm h0 := CHr.refl CH
  have hEW : EW Z a0 own_EL := own_EWof hw
  have hwsS : ∀ d ∈ Bundle.stringAtoms, d.before a0 Z = true := fun d hd => hw d (own_wS d hd)
  refine own_start (Fin := (own_FinH Z s (own_QDE Z tk aE h0 n0) ({ frames := 1, cells := 2, slots := 64, locals := 12 } : Room).cells ({ frames := 1, cells := 2, slots := 64, locals := 12 } : Room).slots)) (own_from (mkF m 0 #[rv tk, .unset] []) (castTop (own_ef_DE m tk)) ?_)
  refine own_aln 1 X0 hx (hb hby own_d491) rfl rfl rfl ?_
  obtain ⟨T233, X233, e233, st233⟩ := getF X0 hx hZ hown (host := "") (Or.inl (own_w hw 37 rfl)) Via.refl e0 Fk (g := (mkF m 1 #[rv tk, .unset] [(.ref tk)])) rfl rfl (hb hby own_d492)
  refine own_to (mkF m 4 #[rv tk, .unset] [(.ref aE)]) st233 ?_
  obtain ⟨T234, X234, e234, st234⟩ := getS2 X233 hx hZ hown (host := "") (Or.inl (own_w hw 52 rfl)) Via.refl e233 (SaE.ext OL.2) (g := (mkF m 4 #[rv tk, .unset] [(.ref aE)])) rfl (hb hby own_d493)
  refine own_to (mkF m 7 #[rv tk, .unset] [(.ref aE), (.ref aE)]) st234 ?_
  refine own_to (T' := T234) (mkF m 10 #[rv tk, .unset] []) (fun _ k => Jvm.RoadKit.acmp (g := (mkF m 7 #[rv tk, .unset] [(.ref aE), (.ref aE)])) X234 hx rfl rfl rfl (pc0 := 7) (pc' := 10) (same := true) rfl (hb hby own_d494) rfl (decide_eq_true rfl) (by decide) (by decide) k) ?_
  obtain ⟨la1, T235, h235, k1, lb1, lk1, X235, e235, E235, hS, hk2, hZ, hown, E_la1, F_coder_la1, F_value_la1, V_lb1, -, -, CR235, -, sfe235, st235⟩ := ldcCH (s := s) (vm0 := s.vm) X234 hx hZ hown (own_w hw 213 rfl) hwsS e234 hS hk1 hEW (List.mem_of_getElem? (i := 0) rfl) CH (vs := [(.int ((101 : Int32).toInt8.toInt32)), (.int ((110 : Int32).toInt8.toInt32)), (.int ((100 : Int32).toInt8.toInt32)), (.int ((32 : Int32).toInt8.toInt32)), (.int ((111 : Int32).toInt8.toInt32)), (.int ((102 : Int32).toInt8.toInt32)), (.int ((32 : Int32).toInt8.toInt32)), (.int ((100 : Int32).toInt8.toInt32)), (.int ((111 : Int32).toInt8.toInt32)), (.int ((99 : Int32).toInt8.toInt32)), (.int ((117 : Int32).toInt8.toInt32)), (.int ((109 : Int32).toInt8.toInt32)), (.int ((101 : Int32).toInt8.toInt32)), (.int ((110 : Int32).toInt8.toInt32)), (.int ((116 : Int32).toInt8.toInt32))]) (z := (15 : Int32)) own_ht15 (by decide) rfl (g := (mkF m 10 #[rv tk, .unset] [])) rfl (hb hby own_d495) (n := 60) own_hn15 (by decide) (by decide) (by decide)
  have OL := OL.ext E235
  have KP := KP.ext E235
  have Fk := Fk.ext E235
  have hk1 := hk2
  have CHR := CHR.trans CR235
  have CH := CR235.1
  refine own_to (mkF m 12 #[rv tk, .unset] [(.ref la1)]) st235 ?_
  refine own_asn 13 #[rv tk, rv la1] X235 hx (hb hby own_d496) rfl rfl rfl ?_
  refine own_go 80 X235 hx (hb hby own_d497) (by decide) (by decide) ?_
  refine own_aln 81 X235 hx (hb hby own_d498) rfl rfl rfl ?_
  exact own_retAH (s := s) (vm₁ := T235.vm) X235 hS (by rw [e235]; exact hk1) hZ hEW (by rw [e235]; exact CH) (by rw [hh, e235]; exact CHR) hx Bd.returns rfl hlk (hb hby own_d499) rfl (by decide) (by decide) (by rw [e235]; exact ⟨la1, lb1, lk1, rfl, N0, KP, E_la1, F_value_la1, F_coder_la1, V_lb1, (own_allS (show own_C8 101 from ⟨by decide, by decide⟩) (own_allS (show own_C8 110 from ⟨by decide, by decide⟩) (own_allS (show own_C8 100 from ⟨by decide, by decide⟩) (own_allS (show own_C8 32 from ⟨by decide, by decide⟩) (own_allS (show own_C8 111 from ⟨by decide, by decide⟩) (own_allS (show own_C8 102 from ⟨by decide, by decide⟩) (own_allS (show own_C8 32 from ⟨by decide, by decide⟩) (own_allS (show own_C8 100 from ⟨by decide, by decide⟩) (own_allS (show own_C8 111 from ⟨by decide, by decide⟩) (own_allS (show own_C8 99 from ⟨by decide, by decide⟩) (own_allS (show own_C8 117 from ⟨by decide, by decide⟩) (own_allS (show own_C8 109 from ⟨by decide, by decide⟩) (own_allS (show own_C8 101 from ⟨by decide, by decide⟩) (own_allS (show own_C8 110 from ⟨by decide, by decide⟩) (own_allS (show own_C8 116 from ⟨by decide, by decide⟩) own_all0))))))))))))))), Nat.le_of_ble_eq_true rfl⟩)
def own_QDS (Z : State) (len x0 x1 G1 : Int32) (tk ak tx tt : Addr) (kt : ClassId) (aE aS : Addr) (h0 : Heap) (n0 : Nat) (v : Option Value) (h : Heap) (L : List Loc) : Prop := ∃ (sx t : Addr) (kb : ClassId), v = some (.ref sx) ∧ Fr n0 L ∧ Keep h0 h [] ∧ own_Str Z h sx t kb (own_pf len x0 x1)
set_option maxRecDepth 65536 in
set_option maxHeartbeats 40000000 in
theorem own_rmDS (l : Launch) (Z : State) (a0 : Array Value) (hw : ∀ d ∈ tables_1, d.before a0 Z = true) (ws : List Jvm.Cond) (len x0 x1 G1 : Int32) (tk ak tx tt : Addr) (kt : ClassId) (aE aS : Addr) (h0 : Heap) (n0 : Nat) (Z0 : n0 ≤ h0.size) (OL : Old Z n0 h0) (hlen : len = 0 ∨ len = 1 ∨ len = 2) (c8_x0 : own_C8 x0) (c8_x1 : own_C8 x1) (Fk : Fld Z h0 tk "com/example/ianus/ianus/Token" "kind" "Lcom/example/ianus/ianus/Token$Kind;" (.ref aS)) (Ft : Fld Z h0 tk "com/example/ianus/ianus/Token" "text" "Ljava/lang/String;" (.ref tx)) (St : own_Str Z h0 tx tt kt (own_c2 len x0 x1)) (O2 : Sta Z Z.heap "java/lang/String" "COMPACT_STRINGS" "Z" (.int G1)) (P5 : ¬ (G1 = (0 : Int32))) (SaE : Sta Z Z.heap "com/example/ianus/ianus/Token$Kind" "END" "Lcom/example/ianus/ianus/Token$Kind;" (.ref aE)) (SaS : Sta Z Z.heap "com/example/ianus/ianus/Token$Kind" "STRING" "Lcom/example/ianus/ianus/Token$Kind;" (.ref aS)) (ne_aS_aE : aS ≠ aE) :
    MetFree l (⟨"com/example/ianus/ianus/Token", "describe", "()Ljava/lang/String;"⟩ : MethodName) (head1 (Jvm.Cond.code (⟨"com/example/ianus/ianus/Token", "describe", "()Ljava/lang/String;"⟩ : MethodName) prog_18_method_9_code 2 (some (.object "java/lang/String")) :: ws) ({ frames := 6, cells := 6, slots := 90, locals := 124 } : Room)) (fun aa_ U => aa_ = #[(.ref tk)] ∧ Z.Warmed39 U.vm ∧ U.heap = h0 ∧ CHv Z own_EL U.vm h0) (fun _ _ _ _ _ => True) (fun _ U o U' => ∃ v L, o = .returned v ∧ own_QDS Z len x0 x1 G1 tk ak tx tt kt aE aS h0 n0 v U'.heap L ∧ CHr Z own_EL U.vm U.heap U'.vm U'.heap ∧ ReturnedEndW U o U' L ({ frames := 6, cells := 6, slots := 90, locals := 124 } : Room).cells ({ frames := 6, cells := 6, slots := 90, locals := 124 } : Room).slots) := by
  refine MetFree.of_bodySF (plainFor_of_name own_pn2) hisR ?_
  intro p e s m args below meth c s₁ Bd hml0 hP hK
  obtain ⟨rfl, hZ, hh, CH⟩ := hP
  have hx := Bd.exec
  have hby := Bd.bytes
  have hlk : meth.locks = false := BodyLoose.notSynchronized Bd
  have hml : c.maxLocals = 2 := hml0
  have hown : s.vm.findClass "com/example/ianus/ianus/Token" = some m.cls := findClass_of_methodNamed Bd.named
  have hnm := (name_of_methodNamed Bd.named Bd.method).1
  have X0 : Stand p l e ({ frames := 6, cells := 6, slots := 90, locals := 124 } : Room) s m #[(.ref tk)] below meth c s₁ [] 0 0 := Stand.of_body Bd
  have e0 : s₁.heap = h0 := by rw [← hh, Bd.state]; rfl
  have N0 := Fr.nil n0
  have KP : Keep h0 h0 [] := Keep.refl _ _
  have hS : s.Since s.vm 0 := (State.WarmedH.refl s).since 0
  have hk1 : 0 ≤ h0.size := Nat.zero_le _
  have CHR : CHr Z own_EL s.vm h0 s.vm h0 := CHr.refl CH
  have hEW : EW Z a0 own_EL := own_EWof hw
  have hwsS : ∀ d ∈ Bundle.stringAtoms, d.before a0 Z = true := fun d hd => hw d (own_wS d hd)
  refine own_start (Fin := (own_FinH Z s (own_QDS Z len x0 x1 G1 tk ak tx tt kt aE aS h0 n0) ({ frames := 6, cells := 6, slots := 90, locals := 124 } : Room).cells ({ frames := 6, cells := 6, slots := 90, locals := 124 } : Room).slots)) (own_from (mkF m 0 #[rv tk, .unset] []) (castTop (own_ef_DS m tk)) ?_)
  rcases hlen with q | q | q
  · subst q
    rw [own_c2_0] at St
    have Et : Exa Z h0 tx "java/lang/String" := St.1
    have Fv : Fld Z h0 tx "java/lang/String" "value" "[B" (.ref tt) := St.2.1
    have Fc : Fld Z h0 tx "java/lang/String" "coder" "B" (.int (0 : Int32)) := St.2.2.1
    have Vt : Arv Z h0 tt kt .byte (0 : Int32) [] (.int (0 : Int32)) := St.2.2.2.1
    refine own_aln 1 X0 hx (hb hby own_d491) rfl rfl rfl ?_
    obtain ⟨T236, X236, e236, st236⟩ := getF X0 hx hZ hown (host := "") (Or.inl (own_w hw 37 rfl)) Via.refl e0 Fk (g := (mkF m 1 #[rv tk, .unset] [(.ref tk)])) rfl rfl (hb hby own_d492)
    refine own_to (mkF m 4 #[rv tk, .unset] [(.ref aS)]) st236 ?_
    obtain ⟨T237, X237, e237, st237⟩ := getS2 X236 hx hZ hown (host := "") (Or.inl (own_w hw 52 rfl)) Via.refl e236 (SaE.ext OL.2) (g := (mkF m 4 #[rv tk, .unset] [(.ref aS)])) rfl (hb hby own_d493)
    refine own_to (mkF m 7 #[rv tk, .unset] [(.ref aE), (.ref aS)]) st237 ?_
    refine own_to (T' := T237) (mkF m 16 #[rv tk, .unset] []) (fun _ k => Jvm.RoadKit.acmp (g := (mkF m 7 #[rv tk, .unset] [(.ref aE), (.ref aS)])) X237 hx rfl rfl rfl (pc0 := 7) (pc' := 16) (same := false) rfl (hb hby own_d494) rfl (decide_eq_false fun q => ne_aS_aE (Value.ref.inj q)) (by decide) (by decide) k) ?_
    refine own_aln 17 X237 hx (hb hby own_d500) rfl rfl rfl ?_
    obtain ⟨T238, X238, e238, st238⟩ := getF X237 hx hZ hown (host := "") (Or.inl (own_w hw 37 rfl)) Via.refl e237 Fk (g := (mkF m 17 #[rv tk, .unset] [(.ref tk)])) rfl rfl (hb hby own_d501)
    refine own_to (mkF m 20 #[rv tk, .unset] [(.ref aS)]) st238 ?_
    obtain ⟨T239, X239, e239, st239⟩ := getS2 X238 hx hZ hown (host := "") (Or.inl (own_w hw 54 rfl)) Via.refl e238 (SaS.ext OL.2) (g := (mkF m 20 #[rv tk, .unset] [(.ref aS)])) rfl (hb hby own_d502)
    refine own_to (mkF m 23 #[rv tk, .unset] [(.ref aS), (.ref aS)]) st239 ?_
    refine own_to (T' := T239) (mkF m 26 #[rv tk, .unset] []) (fun _ k => Jvm.RoadKit.acmp (g := (mkF m 23 #[rv tk, .unset] [(.ref aS), (.ref aS)])) X239 hx rfl rfl rfl (pc0 := 23) (pc' := 26) (same := true) rfl (hb hby own_d503) rfl (decide_eq_true rfl) (by decide) (by decide) k) ?_
    obtain ⟨T240, h240, X240, e240, E240, A240, D240, -, st240⟩ := newO X239 hx hZ hown (own_w hw 56 rfl) (own_w hw 57 rfl) (own_w hw 58 rfl) e239 (g := (mkF m 26 #[rv tk, .unset] [])) rfl (hb hby own_d504) (by decide) (by decide)
    obtain ⟨b240, g240⟩ : ∃ z, z = h0.size := ⟨_, rfl⟩
    rw [← g240] at A240 D240 st240
    have sz_b240 : h0.size ≤ b240 := Nat.le_trans KP.1 (Nat.le_of_eq g240.symm)
    have ge_b240 : n0 ≤ b240 := Nat.le_trans Z0 sz_b240
    have ne_tk_b240 : tk ≠ b240 := Nat.ne_of_lt (Nat.lt_of_lt_of_le Fk.lt (Nat.le_of_eq g240.symm))
    have ne_tx_b240 : tx ≠ b240 := Nat.ne_of_lt (Nat.lt_of_lt_of_le Et.lt (Nat.le_of_eq g240.symm))
    have ne_tt_b240 : tt ≠ b240 := Nat.ne_of_lt (Nat.lt_of_lt_of_le Vt.lt (Nat.le_of_eq g240.symm))
    have CHR := CHR.trans (CHr.ext E240 CH)
    have CH := CH.ext E240
    have OL := OL.ext E240
    have KP := KP.ext E240
    have hk1 := Nat.le_trans hk1 E240.1
    have Fk := Fk.ext E240
    have Ft := Ft.ext E240
    have Et := Et.ext E240
    have Fv := Fv.ext E240
    have Fc := Fc.ext E240
    have Vt := Vt.ext E240
    have E_b240 : Exa Z h240 b240 "java/lang/StringBuilder" := A240
    have F_value_b240 : Fld Z h240 b240 "java/lang/AbstractStringBuilder" "value" "[B" .null := D240 (Or.inl (own_w hw 71 rfl)) (ty := (.array .byte)) (by decide)
    have F_coder_b240 : Fld Z h240 b240 "java/lang/AbstractStringBuilder" "coder" "B" (.int (0 : Int32)) := D240 (Or.inl (own_w hw 73 rfl)) (ty := .byte) (by decide)
    have F_count_b240 : Fld Z h240 b240 "java/lang/AbstractStringBuilder" "count" "I" (.int (0 : Int32)) := D240 (Or.inl (own_w hw 85 rfl)) (ty := .int) (by decide)
    refine own_to (mkF m 29 #[rv tk, .unset] [(.ref b240)]) st240 ?_
    refine own_dup 30 X240 hx (hb hby own_d505) rfl rfl ?_
    have KP0 := KP
    have lt0_tk := Fk.lt
    have lt0_tx := Et.lt
    have lt0_tt := Vt.lt
    have lt0_b240 := E_b240.lt
    obtain ⟨_, T241, Lc241, X241, hQ241, st241⟩ := own_special X240 hx (y := (⟨"java/lang/StringBuilder", "<init>", "()V"⟩ : MethodName)) rfl hown (mvT hZ (own_w hw 59 rfl)) (mvT hZ (own_w hw 60 rfl)) (mvT hZ (own_w hw 61 rfl)) (by decide) (backOf (W := 1) (own_rmSI l Z a0 hw [] b240 G1 h240 n0 (Nat.le_trans Z0 KP.1) OL ge_b240 E_b240 F_value_b240 F_coder_b240 F_count_b240 O2 P5) hZ (own_w hw 61 rfl) (own_w hw 58 rfl) (by decide) (by decide)) (g := (mkF m 30 #[rv tk, .unset] [(.ref b240), (.ref b240)])) rfl (by rw [hml]; rfl) (a := b240) (argsL := []) (rest := [(.ref b240)]) (lenOf own_pd18 rfl) rfl (by show 2 * 0 + _ ≤ _; exact Nat.le_of_eq rfl) (hb hby own_d506) rfl e240 (kc := 2) (ks := 20) rfl rfl (by decide) (by decide)
    obtain ⟨rfl, N241q, K241, vb, kv, ge_vb, sz0_vb, BV, BC, BN, BA⟩ := hQ241
    have N241 := Fr.app N0 N241q
    have SFk : ∀ x ∈ [b240], Safe Z own_EL s.vm h240 x := (sfS (Safe.exa hZ.alike E_b240 (by decide) (by decide)) sf0)
    have SF_vb : Safe Z own_EL s.vm T241.heap vb := Safe.keep K241 SFk CH (Safe.new sz0_vb)
    have CHR := CHR.trans (CHr.keep K241 SFk CH)
    have CH := CH.keep K241 SFk
    have OL := OL.keep K241 (allS ge_b240 all0)
    have KP := KP.trans K241 (allS (Or.inr sz_b240) all0)
    have hk1 := Nat.le_trans hk1 K241.1
    have Fk := Fk.keep K241 (ninS ne_tk_b240 nin0)
    have Ft := Ft.keep K241 (ninS ne_tk_b240 nin0)
    have Et := Et.keep K241
    have Fv := Fv.keep K241 (ninS ne_tx_b240 nin0)
    have Fc := Fc.keep K241 (ninS ne_tx_b240 nin0)
    have Vt := Vt.keep K241 (ninS ne_tt_b240 nin0)
    have E_b240 := E_b240.keep K241
    refine own_via (mkF m 33 #[rv tk, .unset] [(.ref b240)]) st241 ?_
    have sz_vb : h0.size ≤ vb := Nat.le_trans KP0.1 sz0_vb
    have ne_tk_vb : tk ≠ vb := Nat.ne_of_lt (Nat.lt_of_lt_of_le lt0_tk sz0_vb)
    have ne_tx_vb : tx ≠ vb := Nat.ne_of_lt (Nat.lt_of_lt_of_le lt0_tx sz0_vb)
    have ne_tt_vb : tt ≠ vb := Nat.ne_of_lt (Nat.lt_of_lt_of_le lt0_tt sz0_vb)
    have ne_b240_vb : b240 ≠ vb := Nat.ne_of_lt (Nat.lt_of_lt_of_le lt0_b240 sz0_vb)
    have SF_sb := Safe.exa (EL := own_EL) (vm := s.vm) hZ.alike E_b240 (by decide) (by decide)
    have lts_vb := BA.lt
    have lts_b240 := E_b240.lt
    obtain ⟨la1, T242, h242, k1, lb1, lk1, X242, e242, E242, hS, hk2, hZ, hown, E_la1, F_coder_la1, F_value_la1, V_lb1, -, -, CR242, -, sfe242, st242⟩ := ldcCH (s := s) (vm0 := s.vm) X241 hx hZ hown (own_w hw 208 rfl) hwsS rfl hS hk1 hEW (List.mem_of_getElem? (i := 1) rfl) CH (vs := [(.int ((115 : Int32).toInt8.toInt32)), (.int ((116 : Int32).toInt8.toInt32)), (.int ((114 : Int32).toInt8.toInt32)), (.int ((105 : Int32).toInt8.toInt32)), (.int ((110 : Int32).toInt8.toInt32)), (.int ((103 : Int32).toInt8.toInt32)), (.int ((32 : Int32).toInt8.toInt32))]) (z := (7 : Int32)) own_ht7 (by decide) rfl (g := (mkF m 33 #[rv tk, .unset] [(.ref b240)])) rfl (hb hby own_d507) (n := 28) own_hn7 (by decide) (by decide) (by decide)
    have OL := OL.ext E242
    have KP := KP.ext E242
    have Fk := Fk.ext E242
    have Ft := Ft.ext E242
    have Et := Et.ext E242
    have Fv := Fv.ext E242
    have Fc := Fc.ext E242
    have Vt := Vt.ext E242
    have E_b240 := E_b240.ext E242
    have BV := BV.ext E242
    have BC := BC.ext E242
    have BN := BN.ext E242
    have BA := BA.ext E242
    have hk1 := hk2
    have SF_vb := CR242.safe lts_vb SF_vb
    have ne_vb_la1 := (sfe242 vb SF_vb).1
    have ne_vb_lb1 := (sfe242 vb SF_vb).2
    have SF_sb := CR242.safe lts_b240 SF_sb
    have ne_b240_la1 := (sfe242 b240 SF_sb).1
    have ne_b240_lb1 := (sfe242 b240 SF_sb).2
    have CHR := CHR.trans CR242
    have CH := CR242.1
    refine own_to (mkF m 35 #[rv tk, .unset] [(.ref la1), (.ref b240)]) st242 ?_
    obtain ⟨cq243, kq243, q243a, q243b, q243c⟩ := isOf hZ e242 E_b240
    obtain ⟨_, T243, Lc243, X243, hQ243, st243⟩ := own_virtual X242 hx (y := (⟨"java/lang/StringBuilder", "append", "(Ljava/lang/String;)Ljava/lang/StringBuilder;"⟩ : MethodName)) (z := (⟨"java/lang/StringBuilder", "append", "(Ljava/lang/String;)Ljava/lang/StringBuilder;"⟩ : MethodName)) hown (mvT hZ (own_w hw 100 rfl)) (mvT hZ (own_w hw 101 rfl)) (notFace_of_selects (args := #[]) (mvT hZ (own_w hw 103 rfl))) (mvT hZ (own_w hw 103 rfl)) (mvT hZ (own_w hw 102 rfl)) (by decide) (backOf (W := 0) (own_rmSS l Z a0 hw [] G1 b240 la1 lb1 lk1 (0 : Int32) (7 : Int32) [(.int ((115 : Int32).toInt8.toInt32)), (.int ((116 : Int32).toInt8.toInt32)), (.int ((114 : Int32).toInt8.toInt32)), (.int ((105 : Int32).toInt8.toInt32)), (.int ((110 : Int32).toInt8.toInt32)), (.int ((103 : Int32).toInt8.toInt32)), (.int ((32 : Int32).toInt8.toInt32))] [(.int (0 : Int32)), (.int (0 : Int32)), (.int (0 : Int32)), (.int (0 : Int32)), (.int (0 : Int32)), (.int (0 : Int32)), (.int (0 : Int32)), (.int (0 : Int32)), (.int (0 : Int32)), (.int (0 : Int32)), (.int (0 : Int32)), (.int (0 : Int32)), (.int (0 : Int32)), (.int (0 : Int32)), (.int (0 : Int32)), (.int (0 : Int32))] vb kv [(.int ((115 : Int32).toInt8.toInt32)), (.int ((116 : Int32).toInt8.toInt32)), (.int ((114 : Int32).toInt8.toInt32)), (.int ((105 : Int32).toInt8.toInt32)), (.int ((110 : Int32).toInt8.toInt32)), (.int ((103 : Int32).toInt8.toInt32)), (.int ((32 : Int32).toInt8.toInt32)), (.int (0 : Int32)), (.int (0 : Int32)), (.int (0 : Int32)), (.int (0 : Int32)), (.int (0 : Int32)), (.int (0 : Int32)), (.int (0 : Int32)), (.int (0 : Int32)), (.int (0 : Int32))] h242 n0 (Nat.le_trans Z0 KP.1) OL ge_b240 E_b240 BV BC BN BA E_la1 F_value_la1 F_coder_la1 V_lb1 ge_vb ne_b240_vb (Ne.symm ne_vb_la1) (by decide) O2 P5 (own_rmGB_0_7 l Z a0 hw [] G1 vb kv la1 lb1 lk1 (0 : Int32) (0 : Int32) (0 : Int32) (0 : Int32) (0 : Int32) (0 : Int32) (0 : Int32) (0 : Int32) (0 : Int32) (0 : Int32) (0 : Int32) (0 : Int32) (0 : Int32) (0 : Int32) (0 : Int32) (0 : Int32) ((115 : Int32).toInt8.toInt32) ((116 : Int32).toInt8.toInt32) ((114 : Int32).toInt8.toInt32) ((105 : Int32).toInt8.toInt32) ((110 : Int32).toInt8.toInt32) ((103 : Int32).toInt8.toInt32) ((32 : Int32).toInt8.toInt32) h242 n0 (Nat.le_trans Z0 KP.1) OL ge_vb (Ne.symm ne_vb_la1) (Ne.symm ne_vb_lb1) BA E_la1 F_value_la1 F_coder_la1 V_lb1 O2 P5)) hZ (own_w hw 104 rfl) (own_w hw 58 rfl) (by decide) (by decide)) q243a q243c (g := (mkF m 35 #[rv tk, .unset] [(.ref la1), (.ref b240)])) rfl (by rw [hml]; rfl) (argsL := [(.ref la1)]) (rest := []) (lenOf own_pd19 rfl) rfl (by show 2 * 0 + _ ≤ _; exact Nat.le_of_eq rfl) (hb hby own_d508) rfl e242 (kc := 4) (ks := 52) rfl rfl (by decide) (by decide)
    obtain ⟨rfl, N243q, K243, _, BV, BC, BN, BA⟩ := hQ243
    have N243 := Fr.app N241 N243q
    have SFk : ∀ x ∈ [b240, vb], Safe Z own_EL T242.vm h242 x := (sfS SF_sb (sfS SF_vb sf0))
    have SF_vb := Safe.keep K243 SFk CH SF_vb
    have SF_sb := Safe.keep K243 SFk CH SF_sb
    have CHR := CHR.trans (CHr.keep K243 SFk CH)
    have CH := CH.keep K243 SFk
    have OL := OL.keep K243 (allS ge_b240 (allS ge_vb all0))
    have KP := KP.trans K243 (allS (Or.inr sz_b240) (allS (Or.inr sz_vb) all0))
    have hk1 := Nat.le_trans hk1 K243.1
    have Fk := Fk.keep K243 (ninS ne_tk_b240 (ninS ne_tk_vb nin0))
    have Ft := Ft.keep K243 (ninS ne_tk_b240 (ninS ne_tk_vb nin0))
    have Et := Et.keep K243
    have Fv := Fv.keep K243 (ninS ne_tx_b240 (ninS ne_tx_vb nin0))
    have Fc := Fc.keep K243 (ninS ne_tx_b240 (ninS ne_tx_vb nin0))
    have Vt := Vt.keep K243 (ninS ne_tt_b240 (ninS ne_tt_vb nin0))
    have E_b240 := E_b240.keep K243
    have E_la1 := E_la1.keep K243
    have F_coder_la1 := F_coder_la1.keep K243 (ninS (Ne.symm ne_b240_la1) (ninS (Ne.symm ne_vb_la1) nin0))
    have F_value_la1 := F_value_la1.keep K243 (ninS (Ne.symm ne_b240_la1) (ninS (Ne.symm ne_vb_la1) nin0))
    have V_lb1 := V_lb1.keep K243 (ninS (Ne.symm ne_b240_lb1) (ninS (Ne.symm ne_vb_lb1) nin0))
    refine own_via (mkF m 38 #[rv tk, .unset] [(.ref b240)]) st243 ?_
    refine own_aln 39 X243 hx (hb hby own_d509) rfl rfl rfl ?_
    obtain ⟨T244, X244, e244, st244⟩ := getF X243 hx hZ hown (host := "") (Or.inl (own_w hw 39 rfl)) Via.refl rfl Ft (g := (mkF m 39 #[rv tk, .unset] [(.ref tk), (.ref b240)])) rfl rfl (hb hby own_d510)
    refine own_to (mkF m 42 #[rv tk, .unset] [(.ref tx), (.ref b240)]) st244 ?_
    obtain ⟨cq245, kq245, q245a, q245b, q245c⟩ := isOf hZ e244 E_b240
    obtain ⟨_, T245, Lc245, X245, hQ245, st245⟩ := own_virtual X244 hx (y := (⟨"java/lang/StringBuilder", "append", "(Ljava/lang/String;)Ljava/lang/StringBuilder;"⟩ : MethodName)) (z := (⟨"java/lang/StringBuilder", "append", "(Ljava/lang/String;)Ljava/lang/StringBuilder;"⟩ : MethodName)) hown (mvT hZ (own_w hw 100 rfl)) (mvT hZ (own_w hw 101 rfl)) (notFace_of_selects (args := #[]) (mvT hZ (own_w hw 103 rfl))) (mvT hZ (own_w hw 103 rfl)) (mvT hZ (own_w hw 102 rfl)) (by decide) (backOf (W := 0) (own_rmSS l Z a0 hw [] G1 b240 tx tt kt (7 : Int32) (0 : Int32) [] [(.int ((115 : Int32).toInt8.toInt32)), (.int ((116 : Int32).toInt8.toInt32)), (.int ((114 : Int32).toInt8.toInt32)), (.int ((105 : Int32).toInt8.toInt32)), (.int ((110 : Int32).toInt8.toInt32)), (.int ((103 : Int32).toInt8.toInt32)), (.int ((32 : Int32).toInt8.toInt32)), (.int (0 : Int32)), (.int (0 : Int32)), (.int (0 : Int32)), (.int (0 : Int32)), (.int (0 : Int32)), (.int (0 : Int32)), (.int (0 : Int32)), (.int (0 : Int32)), (.int (0 : Int32))] vb kv [(.int ((115 : Int32).toInt8.toInt32)), (.int ((116 : Int32).toInt8.toInt32)), (.int ((114 : Int32).toInt8.toInt32)), (.int ((105 : Int32).toInt8.toInt32)), (.int ((110 : Int32).toInt8.toInt32)), (.int ((103 : Int32).toInt8.toInt32)), (.int ((32 : Int32).toInt8.toInt32)), (.int (0 : Int32)), (.int (0 : Int32)), (.int (0 : Int32)), (.int (0 : Int32)), (.int (0 : Int32)), (.int (0 : Int32)), (.int (0 : Int32)), (.int (0 : Int32)), (.int (0 : Int32))] T243.heap n0 (Nat.le_trans Z0 KP.1) OL ge_b240 E_b240 BV BC BN BA Et Fv Fc Vt ge_vb ne_b240_vb ne_tx_vb (by decide) O2 P5 (own_rmGB_7_0 l Z a0 hw [] G1 vb kv tx tt kt ((115 : Int32).toInt8.toInt32) ((116 : Int32).toInt8.toInt32) ((114 : Int32).toInt8.toInt32) ((105 : Int32).toInt8.toInt32) ((110 : Int32).toInt8.toInt32) ((103 : Int32).toInt8.toInt32) ((32 : Int32).toInt8.toInt32) (0 : Int32) (0 : Int32) (0 : Int32) (0 : Int32) (0 : Int32) (0 : Int32) (0 : Int32) (0 : Int32) (0 : Int32)  T243.heap n0 (Nat.le_trans Z0 KP.1) OL ge_vb ne_tx_vb ne_tt_vb BA Et Fv Fc Vt O2 P5)) hZ (own_w hw 104 rfl) (own_w hw 58 rfl) (by decide) (by decide)) q245a q245c (g := (mkF m 42 #[rv tk, .unset] [(.ref tx), (.ref b240)])) rfl (by rw [hml]; rfl) (argsL := [(.ref tx)]) (rest := []) (lenOf own_pd19 rfl) rfl (by show 2 * 0 + _ ≤ _; exact Nat.le_of_eq rfl) (hb hby own_d511) rfl e244 (kc := 4) (ks := 52) rfl rfl (by decide) (by decide)
    obtain ⟨rfl, N245q, K245, _, BV, BC, BN, BA⟩ := hQ245
    have N245 := Fr.app N243 N245q
    have SFk : ∀ x ∈ [b240, vb], Safe Z own_EL T242.vm T243.heap x := (sfS SF_sb (sfS SF_vb sf0))
    have SF_vb := Safe.keep K245 SFk CH SF_vb
    have SF_sb := Safe.keep K245 SFk CH SF_sb
    have CHR := CHR.trans (CHr.keep K245 SFk CH)
    have CH := CH.keep K245 SFk
    have OL := OL.keep K245 (allS ge_b240 (allS ge_vb all0))
    have KP := KP.trans K245 (allS (Or.inr sz_b240) (allS (Or.inr sz_vb) all0))
    have hk1 := Nat.le_trans hk1 K245.1
    have Fk := Fk.keep K245 (ninS ne_tk_b240 (ninS ne_tk_vb nin0))
    have Ft := Ft.keep K245 (ninS ne_tk_b240 (ninS ne_tk_vb nin0))
    have Et := Et.keep K245
    have Fv := Fv.keep K245 (ninS ne_tx_b240 (ninS ne_tx_vb nin0))
    have Fc := Fc.keep K245 (ninS ne_tx_b240 (ninS ne_tx_vb nin0))
    have Vt := Vt.keep K245 (ninS ne_tt_b240 (ninS ne_tt_vb nin0))
    have E_b240 := E_b240.keep K245
    refine own_via (mkF m 45 #[rv tk, .unset] [(.ref b240)]) st245 ?_
    obtain ⟨cq246, kq246, q246a, q246b, q246c⟩ := isOf hZ rfl E_b240
    obtain ⟨_, T246, Lc246, X246, hQ246, st246⟩ := own_virtual X245 hx (y := (⟨"java/lang/StringBuilder", "toString", "()Ljava/lang/String;"⟩ : MethodName)) (z := (⟨"java/lang/StringBuilder", "toString", "()Ljava/lang/String;"⟩ : MethodName)) hown (mvT hZ (own_w hw 140 rfl)) (mvT hZ (own_w hw 141 rfl)) (notFace_of_selects (args := #[]) (mvT hZ (own_w hw 143 rfl))) (mvT hZ (own_w hw 143 rfl)) (mvT hZ (own_w hw 142 rfl)) (by decide) (backOf (W := 0) (own_rmTS l Z a0 hw [] G1 b240 (7 : Int32) [(.int ((115 : Int32).toInt8.toInt32)), (.int ((116 : Int32).toInt8.toInt32)), (.int ((114 : Int32).toInt8.toInt32)), (.int ((105 : Int32).toInt8.toInt32)), (.int ((110 : Int32).toInt8.toInt32)), (.int ((103 : Int32).toInt8.toInt32)), (.int ((32 : Int32).toInt8.toInt32)), (.int (0 : Int32)), (.int (0 : Int32)), (.int (0 : Int32)), (.int (0 : Int32)), (.int (0 : Int32)), (.int (0 : Int32)), (.int (0 : Int32)), (.int (0 : Int32)), (.int (0 : Int32))] vb kv [(.int ((115 : Int32).toInt8.toInt32)), (.int ((116 : Int32).toInt8.toInt32)), (.int ((114 : Int32).toInt8.toInt32)), (.int ((105 : Int32).toInt8.toInt32)), (.int ((110 : Int32).toInt8.toInt32)), (.int ((103 : Int32).toInt8.toInt32)), (.int ((32 : Int32).toInt8.toInt32))] T245.heap n0 (Nat.le_trans Z0 KP.1) OL E_b240 BV BC BN BA (by decide) (fun h1 z1 o1 v1 => own_rmCB_7 l Z a0 hw [] vb kv ((115 : Int32).toInt8.toInt32) ((116 : Int32).toInt8.toInt32) ((114 : Int32).toInt8.toInt32) ((105 : Int32).toInt8.toInt32) ((110 : Int32).toInt8.toInt32) ((103 : Int32).toInt8.toInt32) ((32 : Int32).toInt8.toInt32) (0 : Int32) (0 : Int32) (0 : Int32) (0 : Int32) (0 : Int32) (0 : Int32) (0 : Int32) (0 : Int32) (0 : Int32) h1 n0 z1 o1 v1) O2 P5) hZ (own_w hw 144 rfl) (own_w hw 58 rfl) (by decide) (by decide)) q246a q246c (g := (mkF m 45 #[rv tk, .unset] [(.ref b240)])) rfl (by rw [hml]; rfl) (argsL := []) (rest := []) (lenOf own_pd20 rfl) rfl (by show 2 * 0 + _ ≤ _; exact Nat.le_of_eq rfl) (hb hby own_d512) rfl rfl (kc := 6) (ks := 72) rfl rfl (by decide) (by decide)
    obtain ⟨rs, ts, ks, rfl, N246q, K246, SGr⟩ := hQ246
    have N246 := Fr.app N245 N246q
    have SF_vb := Safe.keep K246 sf0 CH SF_vb
    have SF_sb := Safe.keep K246 sf0 CH SF_sb
    have CHR := CHR.trans (CHr.keep K246 sf0 CH)
    have CH := CH.keep K246 sf0
    have OL := OL.keep K246 all0
    have KP := KP.trans K246 all0
    have hk1 := Nat.le_trans hk1 K246.1
    have Fk := Fk.keep K246 nin0
    have Ft := Ft.keep K246 nin0
    have Et := Et.keep K246
    have Fv := Fv.keep K246 nin0
    have Fc := Fc.keep K246 nin0
    have Vt := Vt.keep K246 nin0
    have E_b240 := E_b240.keep K246
    have BV := BV.keep K246 nin0
    have BC := BC.keep K246 nin0
    have BN := BN.keep K246 nin0
    have BA := BA.keep K246 nin0
    refine own_via (mkF m 48 #[rv tk, .unset] [(.ref rs)]) st246 ?_
    refine own_asn 49 #[rv tk, rv rs] X246 hx (hb hby own_d513) rfl rfl rfl ?_
    refine own_go 80 X246 hx (hb hby own_d514) (by decide) (by decide) ?_
    refine own_aln 81 X246 hx (hb hby own_d498) rfl rfl rfl ?_
    exact own_retAH (s := s) (vm₁ := T242.vm) X246 hS (by exact hk1) hZ hEW (by exact CH) (by rw [hh]; exact CHR) hx Bd.returns rfl hlk (hb hby own_d499) rfl (by decide) (by decide) (by exact ⟨rs, ts, ks, rfl, N246, KP, by rw [own_pf_0]; exact ⟨SGr.1, SGr.2.1, SGr.2.2.1, SGr.2.2.2, (own_allS (show own_C8 115 from ⟨by decide, by decide⟩) (own_allS (show own_C8 116 from ⟨by decide, by decide⟩) (own_allS (show own_C8 114 from ⟨by decide, by decide⟩) (own_allS (show own_C8 105 from ⟨by decide, by decide⟩) (own_allS (show own_C8 110 from ⟨by decide, by decide⟩) (own_allS (show own_C8 103 from ⟨by decide, by decide⟩) (own_allS (show own_C8 32 from ⟨by decide, by decide⟩) own_all0))))))), Nat.le_of_ble_eq_true rfl⟩⟩)
  · subst q
    rw [own_c2_1] at St
    have Et : Exa Z h0 tx "java/lang/String" := St.1
    have Fv : Fld Z h0 tx "java/lang/String" "value" "[B" (.ref tt) := St.2.1
    have Fc : Fld Z h0 tx "java/lang/String" "coder" "B" (.int (0 : Int32)) := St.2.2.1
    have Vt : Arv Z h0 tt kt .byte (1 : Int32) [(.int (x0.toInt8.toInt32))] (.int (0 : Int32)) := St.2.2.2.1
    refine own_aln 1 X0 hx (hb hby own_d491) rfl rfl rfl ?_
    obtain ⟨T247, X247, e247, st247⟩ := getF X0 hx hZ hown (host := "") (Or.inl (own_w hw 37 rfl)) Via.refl e0 Fk (g := (mkF m 1 #[rv tk, .unset] [(.ref tk)])) rfl rfl (hb hby own_d492)
    refine own_to (mkF m 4 #[rv tk, .unset] [(.ref aS)]) st247 ?_
    obtain ⟨T248, X248, e248, st248⟩ := getS2 X247 hx hZ hown (host := "") (Or.inl (own_w hw 52 rfl)) Via.refl e247 (SaE.ext OL.2) (g := (mkF m 4 #[rv tk, .unset] [(.ref aS)])) rfl (hb hby own_d493)
    refine own_to (mkF m 7 #[rv tk, .unset] [(.ref aE), (.ref aS)]) st248 ?_
    refine own_to (T' := T248) (mkF m 16 #[rv tk, .unset] []) (fun _ k => Jvm.RoadKit.acmp (g := (mkF m 7 #[rv tk, .unset] [(.ref aE), (.ref aS)])) X248 hx rfl rfl rfl (pc0 := 7) (pc' := 16) (same := false) rfl (hb hby own_d494) rfl (decide_eq_false fun q => ne_aS_aE (Value.ref.inj q)) (by decide) (by decide) k) ?_
    refine own_aln 17 X248 hx (hb hby own_d500) rfl rfl rfl ?_
    obtain ⟨T249, X249, e249, st249⟩ := getF X248 hx hZ hown (host := "") (Or.inl (own_w hw 37 rfl)) Via.refl e248 Fk (g := (mkF m 17 #[rv tk, .unset] [(.ref tk)])) rfl rfl (hb hby own_d501)
    refine own_to (mkF m 20 #[rv tk, .unset] [(.ref aS)]) st249 ?_
    obtain ⟨T250, X250, e250, st250⟩ := getS2 X249 hx hZ hown (host := "") (Or.inl (own_w hw 54 rfl)) Via.refl e249 (SaS.ext OL.2) (g := (mkF m 20 #[rv tk, .unset] [(.ref aS)])) rfl (hb hby own_d502)
    refine own_to (mkF m 23 #[rv tk, .unset] [(.ref aS), (.ref aS)]) st250 ?_
    refine own_to (T' := T250) (mkF m 26 #[rv tk, .unset] []) (fun _ k => Jvm.RoadKit.acmp (g := (mkF m 23 #[rv tk, .unset] [(.ref aS), (.ref aS)])) X250 hx rfl rfl rfl (pc0 := 23) (pc' := 26) (same := true) rfl (hb hby own_d503) rfl (decide_eq_true rfl) (by decide) (by decide) k) ?_
    obtain ⟨T251, h251, X251, e251, E251, A251, D251, -, st251⟩ := newO X250 hx hZ hown (own_w hw 56 rfl) (own_w hw 57 rfl) (own_w hw 58 rfl) e250 (g := (mkF m 26 #[rv tk, .unset] [])) rfl (hb hby own_d504) (by decide) (by decide)
    obtain ⟨b251, g251⟩ : ∃ z, z = h0.size := ⟨_, rfl⟩
    rw [← g251] at A251 D251 st251
    have sz_b251 : h0.size ≤ b251 := Nat.le_trans KP.1 (Nat.le_of_eq g251.symm)
    have ge_b251 : n0 ≤ b251 := Nat.le_trans Z0 sz_b251
    have ne_tk_b251 : tk ≠ b251 := Nat.ne_of_lt (Nat.lt_of_lt_of_le Fk.lt (Nat.le_of_eq g251.symm))
    have ne_tx_b251 : tx ≠ b251 := Nat.ne_of_lt (Nat.lt_of_lt_of_le Et.lt (Nat.le_of_eq g251.symm))
    have ne_tt_b251 : tt ≠ b251 := Nat.ne_of_lt (Nat.lt_of_lt_of_le Vt.lt (Nat.le_of_eq g251.symm))
    have CHR := CHR.trans (CHr.ext E251 CH)
    have CH := CH.ext E251
    have OL := OL.ext E251
    have KP := KP.ext E251
    have hk1 := Nat.le_trans hk1 E251.1
    have Fk := Fk.ext E251
    have Ft := Ft.ext E251
    have Et := Et.ext E251
    have Fv := Fv.ext E251
    have Fc := Fc.ext E251
    have Vt := Vt.ext E251
    have E_b251 : Exa Z h251 b251 "java/lang/StringBuilder" := A251
    have F_value_b251 : Fld Z h251 b251 "java/lang/AbstractStringBuilder" "value" "[B" .null := D251 (Or.inl (own_w hw 71 rfl)) (ty := (.array .byte)) (by decide)
    have F_coder_b251 : Fld Z h251 b251 "java/lang/AbstractStringBuilder" "coder" "B" (.int (0 : Int32)) := D251 (Or.inl (own_w hw 73 rfl)) (ty := .byte) (by decide)
    have F_count_b251 : Fld Z h251 b251 "java/lang/AbstractStringBuilder" "count" "I" (.int (0 : Int32)) := D251 (Or.inl (own_w hw 85 rfl)) (ty := .int) (by decide)
    refine own_to (mkF m 29 #[rv tk, .unset] [(.ref b251)]) st251 ?_
    refine own_dup 30 X251 hx (hb hby own_d505) rfl rfl ?_
    have KP0 := KP
    have lt0_tk := Fk.lt
    have lt0_tx := Et.lt
    have lt0_tt := Vt.lt
    have lt0_b251 := E_b251.lt
    obtain ⟨_, T252, Lc252, X252, hQ252, st252⟩ := own_special X251 hx (y := (⟨"java/lang/StringBuilder", "<init>", "()V"⟩ : MethodName)) rfl hown (mvT hZ (own_w hw 59 rfl)) (mvT hZ (own_w hw 60 rfl)) (mvT hZ (own_w hw 61 rfl)) (by decide) (backOf (W := 1) (own_rmSI l Z a0 hw [] b251 G1 h251 n0 (Nat.le_trans Z0 KP.1) OL ge_b251 E_b251 F_value_b251 F_coder_b251 F_count_b251 O2 P5) hZ (own_w hw 61 rfl) (own_w hw 58 rfl) (by decide) (by decide)) (g := (mkF m 30 #[rv tk, .unset] [(.ref b251), (.ref b251)])) rfl (by rw [hml]; rfl) (a := b251) (argsL := []) (rest := [(.ref b251)]) (lenOf own_pd18 rfl) rfl (by show 2 * 0 + _ ≤ _; exact Nat.le_of_eq rfl) (hb hby own_d506) rfl e251 (kc := 2) (ks := 20) rfl rfl (by decide) (by decide)
    obtain ⟨rfl, N252q, K252, vb, kv, ge_vb, sz0_vb, BV, BC, BN, BA⟩ := hQ252
    have N252 := Fr.app N0 N252q
    have SFk : ∀ x ∈ [b251], Safe Z own_EL s.vm h251 x := (sfS (Safe.exa hZ.alike E_b251 (by decide) (by decide)) sf0)
    have SF_vb : Safe Z own_EL s.vm T252.heap vb := Safe.keep K252 SFk CH (Safe.new sz0_vb)
    have CHR := CHR.trans (CHr.keep K252 SFk CH)
    have CH := CH.keep K252 SFk
    have OL := OL.keep K252 (allS ge_b251 all0)
    have KP := KP.trans K252 (allS (Or.inr sz_b251) all0)
    have hk1 := Nat.le_trans hk1 K252.1
    have Fk := Fk.keep K252 (ninS ne_tk_b251 nin0)
    have Ft := Ft.keep K252 (ninS ne_tk_b251 nin0)
    have Et := Et.keep K252
    have Fv := Fv.keep K252 (ninS ne_tx_b251 nin0)
    have Fc := Fc.keep K252 (ninS ne_tx_b251 nin0)
    have Vt := Vt.keep K252 (ninS ne_tt_b251 nin0)
    have E_b251 := E_b251.keep K252
    refine own_via (mkF m 33 #[rv tk, .unset] [(.ref b251)]) st252 ?_
    have sz_vb : h0.size ≤ vb := Nat.le_trans KP0.1 sz0_vb
    have ne_tk_vb : tk ≠ vb := Nat.ne_of_lt (Nat.lt_of_lt_of_le lt0_tk sz0_vb)
    have ne_tx_vb : tx ≠ vb := Nat.ne_of_lt (Nat.lt_of_lt_of_le lt0_tx sz0_vb)
    have ne_tt_vb : tt ≠ vb := Nat.ne_of_lt (Nat.lt_of_lt_of_le lt0_tt sz0_vb)
    have ne_b251_vb : b251 ≠ vb := Nat.ne_of_lt (Nat.lt_of_lt_of_le lt0_b251 sz0_vb)
    have SF_sb := Safe.exa (EL := own_EL) (vm := s.vm) hZ.alike E_b251 (by decide) (by decide)
    have lts_vb := BA.lt
    have lts_b251 := E_b251.lt
    obtain ⟨la1, T253, h253, k1, lb1, lk1, X253, e253, E253, hS, hk2, hZ, hown, E_la1, F_coder_la1, F_value_la1, V_lb1, -, -, CR253, -, sfe253, st253⟩ := ldcCH (s := s) (vm0 := s.vm) X252 hx hZ hown (own_w hw 208 rfl) hwsS rfl hS hk1 hEW (List.mem_of_getElem? (i := 1) rfl) CH (vs := [(.int ((115 : Int32).toInt8.toInt32)), (.int ((116 : Int32).toInt8.toInt32)), (.int ((114 : Int32).toInt8.toInt32)), (.int ((105 : Int32).toInt8.toInt32)), (.int ((110 : Int32).toInt8.toInt32)), (.int ((103 : Int32).toInt8.toInt32)), (.int ((32 : Int32).toInt8.toInt32))]) (z := (7 : Int32)) own_ht7 (by decide) rfl (g := (mkF m 33 #[rv tk, .unset] [(.ref b251)])) rfl (hb hby own_d507) (n := 28) own_hn7 (by decide) (by decide) (by decide)
    have OL := OL.ext E253
    have KP := KP.ext E253
    have Fk := Fk.ext E253
    have Ft := Ft.ext E253
    have Et := Et.ext E253
    have Fv := Fv.ext E253
    have Fc := Fc.ext E253
    have Vt := Vt.ext E253
    have E_b251 := E_b251.ext E253
    have BV := BV.ext E253
    have BC := BC.ext E253
    have BN := BN.ext E253
    have BA := BA.ext E253
    have hk1 := hk2
    have SF_vb := CR253.safe lts_vb SF_vb
    have ne_vb_la1 := (sfe253 vb SF_vb).1
    have ne_vb_lb1 := (sfe253 vb SF_vb).2
    have SF_sb := CR253.safe lts_b251 SF_sb
    have ne_b251_la1 := (sfe253 b251 SF_sb).1
    have ne_b251_lb1 := (sfe253 b251 SF_sb).2
    have CHR := CHR.trans CR253
    have CH := CR253.1
    refine own_to (mkF m 35 #[rv tk, .unset] [(.ref la1), (.ref b251)]) st253 ?_
    obtain ⟨cq254, kq254, q254a, q254b, q254c⟩ := isOf hZ e253 E_b251
    obtain ⟨_, T254, Lc254, X254, hQ254, st254⟩ := own_virtual X253 hx (y := (⟨"java/lang/StringBuilder", "append", "(Ljava/lang/String;)Ljava/lang/StringBuilder;"⟩ : MethodName)) (z := (⟨"java/lang/StringBuilder", "append", "(Ljava/lang/String;)Ljava/lang/StringBuilder;"⟩ : MethodName)) hown (mvT hZ (own_w hw 100 rfl)) (mvT hZ (own_w hw 101 rfl)) (notFace_of_selects (args := #[]) (mvT hZ (own_w hw 103 rfl))) (mvT hZ (own_w hw 103 rfl)) (mvT hZ (own_w hw 102 rfl)) (by decide) (backOf (W := 0) (own_rmSS l Z a0 hw [] G1 b251 la1 lb1 lk1 (0 : Int32) (7 : Int32) [(.int ((115 : Int32).toInt8.toInt32)), (.int ((116 : Int32).toInt8.toInt32)), (.int ((114 : Int32).toInt8.toInt32)), (.int ((105 : Int32).toInt8.toInt32)), (.int ((110 : Int32).toInt8.toInt32)), (.int ((103 : Int32).toInt8.toInt32)), (.int ((32 : Int32).toInt8.toInt32))] [(.int (0 : Int32)), (.int (0 : Int32)), (.int (0 : Int32)), (.int (0 : Int32)), (.int (0 : Int32)), (.int (0 : Int32)), (.int (0 : Int32)), (.int (0 : Int32)), (.int (0 : Int32)), (.int (0 : Int32)), (.int (0 : Int32)), (.int (0 : Int32)), (.int (0 : Int32)), (.int (0 : Int32)), (.int (0 : Int32)), (.int (0 : Int32))] vb kv [(.int ((115 : Int32).toInt8.toInt32)), (.int ((116 : Int32).toInt8.toInt32)), (.int ((114 : Int32).toInt8.toInt32)), (.int ((105 : Int32).toInt8.toInt32)), (.int ((110 : Int32).toInt8.toInt32)), (.int ((103 : Int32).toInt8.toInt32)), (.int ((32 : Int32).toInt8.toInt32)), (.int (0 : Int32)), (.int (0 : Int32)), (.int (0 : Int32)), (.int (0 : Int32)), (.int (0 : Int32)), (.int (0 : Int32)), (.int (0 : Int32)), (.int (0 : Int32)), (.int (0 : Int32))] h253 n0 (Nat.le_trans Z0 KP.1) OL ge_b251 E_b251 BV BC BN BA E_la1 F_value_la1 F_coder_la1 V_lb1 ge_vb ne_b251_vb (Ne.symm ne_vb_la1) (by decide) O2 P5 (own_rmGB_0_7 l Z a0 hw [] G1 vb kv la1 lb1 lk1 (0 : Int32) (0 : Int32) (0 : Int32) (0 : Int32) (0 : Int32) (0 : Int32) (0 : Int32) (0 : Int32) (0 : Int32) (0 : Int32) (0 : Int32) (0 : Int32) (0 : Int32) (0 : Int32) (0 : Int32) (0 : Int32) ((115 : Int32).toInt8.toInt32) ((116 : Int32).toInt8.toInt32) ((114 : Int32).toInt8.toInt32) ((105 : Int32).toInt8.toInt32) ((110 : Int32).toInt8.toInt32) ((103 : Int32).toInt8.toInt32) ((32 : Int32).toInt8.toInt32) h253 n0 (Nat.le_trans Z0 KP.1) OL ge_vb (Ne.symm ne_vb_la1) (Ne.symm ne_vb_lb1) BA E_la1 F_value_la1 F_coder_la1 V_lb1 O2 P5)) hZ (own_w hw 104 rfl) (own_w hw 58 rfl) (by decide) (by decide)) q254a q254c (g := (mkF m 35 #[rv tk, .unset] [(.ref la1), (.ref b251)])) rfl (by rw [hml]; rfl) (argsL := [(.ref la1)]) (rest := []) (lenOf own_pd19 rfl) rfl (by show 2 * 0 + _ ≤ _; exact Nat.le_of_eq rfl) (hb hby own_d508) rfl e253 (kc := 4) (ks := 52) rfl rfl (by decide) (by decide)
    obtain ⟨rfl, N254q, K254, _, BV, BC, BN, BA⟩ := hQ254
    have N254 := Fr.app N252 N254q
    have SFk : ∀ x ∈ [b251, vb], Safe Z own_EL T253.vm h253 x := (sfS SF_sb (sfS SF_vb sf0))
    have SF_vb := Safe.keep K254 SFk CH SF_vb
    have SF_sb := Safe.keep K254 SFk CH SF_sb
    have CHR := CHR.trans (CHr.keep K254 SFk CH)
    have CH := CH.keep K254 SFk
    have OL := OL.keep K254 (allS ge_b251 (allS ge_vb all0))
    have KP := KP.trans K254 (allS (Or.inr sz_b251) (allS (Or.inr sz_vb) all0))
    have hk1 := Nat.le_trans hk1 K254.1
    have Fk := Fk.keep K254 (ninS ne_tk_b251 (ninS ne_tk_vb nin0))
    have Ft := Ft.keep K254 (ninS ne_tk_b251 (ninS ne_tk_vb nin0))
    have Et := Et.keep K254
    have Fv := Fv.keep K254 (ninS ne_tx_b251 (ninS ne_tx_vb nin0))
    have Fc := Fc.keep K254 (ninS ne_tx_b251 (ninS ne_tx_vb nin0))
    have Vt := Vt.keep K254 (ninS ne_tt_b251 (ninS ne_tt_vb nin0))
    have E_b251 := E_b251.keep K254
    have E_la1 := E_la1.keep K254
    have F_coder_la1 := F_coder_la1.keep K254 (ninS (Ne.symm ne_b251_la1) (ninS (Ne.symm ne_vb_la1) nin0))
    have F_value_la1 := F_value_la1.keep K254 (ninS (Ne.symm ne_b251_la1) (ninS (Ne.symm ne_vb_la1) nin0))
    have V_lb1 := V_lb1.keep K254 (ninS (Ne.symm ne_b251_lb1) (ninS (Ne.symm ne_vb_lb1) nin0))
    refine own_via (mkF m 38 #[rv tk, .unset] [(.ref b251)]) st254 ?_
    refine own_aln 39 X254 hx (hb hby own_d509) rfl rfl rfl ?_
    obtain ⟨T255, X255, e255, st255⟩ := getF X254 hx hZ hown (host := "") (Or.inl (own_w hw 39 rfl)) Via.refl rfl Ft (g := (mkF m 39 #[rv tk, .unset] [(.ref tk), (.ref b251)])) rfl rfl (hb hby own_d510)
    refine own_to (mkF m 42 #[rv tk, .unset] [(.ref tx), (.ref b251)]) st255 ?_
    obtain ⟨cq256, kq256, q256a, q256b, q256c⟩ := isOf hZ e255 E_b251
    obtain ⟨_, T256, Lc256, X256, hQ256, st256⟩ := own_virtual X255 hx (y := (⟨"java/lang/StringBuilder", "append", "(Ljava/lang/String;)Ljava/lang/StringBuilder;"⟩ : MethodName)) (z := (⟨"java/lang/StringBuilder", "append", "(Ljava/lang/String;)Ljava/lang/StringBuilder;"⟩ : MethodName)) hown (mvT hZ (own_w hw 100 rfl)) (mvT hZ (own_w hw 101 rfl)) (notFace_of_selects (args := #[]) (mvT hZ (own_w hw 103 rfl))) (mvT hZ (own_w hw 103 rfl)) (mvT hZ (own_w hw 102 rfl)) (by decide) (backOf (W := 0) (own_rmSS l Z a0 hw [] G1 b251 tx tt kt (7 : Int32) (1 : Int32) [(.int (x0.toInt8.toInt32))] [(.int ((115 : Int32).toInt8.toInt32)), (.int ((116 : Int32).toInt8.toInt32)), (.int ((114 : Int32).toInt8.toInt32)), (.int ((105 : Int32).toInt8.toInt32)), (.int ((110 : Int32).toInt8.toInt32)), (.int ((103 : Int32).toInt8.toInt32)), (.int ((32 : Int32).toInt8.toInt32)), (.int (0 : Int32)), (.int (0 : Int32)), (.int (0 : Int32)), (.int (0 : Int32)), (.int (0 : Int32)), (.int (0 : Int32)), (.int (0 : Int32)), (.int (0 : Int32)), (.int (0 : Int32))] vb kv [(.int ((115 : Int32).toInt8.toInt32)), (.int ((116 : Int32).toInt8.toInt32)), (.int ((114 : Int32).toInt8.toInt32)), (.int ((105 : Int32).toInt8.toInt32)), (.int ((110 : Int32).toInt8.toInt32)), (.int ((103 : Int32).toInt8.toInt32)), (.int ((32 : Int32).toInt8.toInt32)), (.int (x0.toInt8.toInt32)), (.int (0 : Int32)), (.int (0 : Int32)), (.int (0 : Int32)), (.int (0 : Int32)), (.int (0 : Int32)), (.int (0 : Int32)), (.int (0 : Int32)), (.int (0 : Int32))] T254.heap n0 (Nat.le_trans Z0 KP.1) OL ge_b251 E_b251 BV BC BN BA Et Fv Fc Vt ge_vb ne_b251_vb ne_tx_vb (by decide) O2 P5 (own_rmGB_7_1 l Z a0 hw [] G1 vb kv tx tt kt ((115 : Int32).toInt8.toInt32) ((116 : Int32).toInt8.toInt32) ((114 : Int32).toInt8.toInt32) ((105 : Int32).toInt8.toInt32) ((110 : Int32).toInt8.toInt32) ((103 : Int32).toInt8.toInt32) ((32 : Int32).toInt8.toInt32) (0 : Int32) (0 : Int32) (0 : Int32) (0 : Int32) (0 : Int32) (0 : Int32) (0 : Int32) (0 : Int32) (0 : Int32) (x0.toInt8.toInt32) T254.heap n0 (Nat.le_trans Z0 KP.1) OL ge_vb ne_tx_vb ne_tt_vb BA Et Fv Fc Vt O2 P5)) hZ (own_w hw 104 rfl) (own_w hw 58 rfl) (by decide) (by decide)) q256a q256c (g := (mkF m 42 #[rv tk, .unset] [(.ref tx), (.ref b251)])) rfl (by rw [hml]; rfl) (argsL := [(.ref tx)]) (rest := []) (lenOf own_pd19 rfl) rfl (by show 2 * 0 + _ ≤ _; exact Nat.le_of_eq rfl) (hb hby own_d511) rfl e255 (kc := 4) (ks := 52) rfl rfl (by decide) (by decide)
    obtain ⟨rfl, N256q, K256, _, BV, BC, BN, BA⟩ := hQ256
    have N256 := Fr.app N254 N256q
    have SFk : ∀ x ∈ [b251, vb], Safe Z own_EL T253.vm T254.heap x := (sfS SF_sb (sfS SF_vb sf0))
    have SF_vb := Safe.keep K256 SFk CH SF_vb
    have SF_sb := Safe.keep K256 SFk CH SF_sb
    have CHR := CHR.trans (CHr.keep K256 SFk CH)
    have CH := CH.keep K256 SFk
    have OL := OL.keep K256 (allS ge_b251 (allS ge_vb all0))
    have KP := KP.trans K256 (allS (Or.inr sz_b251) (allS (Or.inr sz_vb) all0))
    have hk1 := Nat.le_trans hk1 K256.1
    have Fk := Fk.keep K256 (ninS ne_tk_b251 (ninS ne_tk_vb nin0))
    have Ft := Ft.keep K256 (ninS ne_tk_b251 (ninS ne_tk_vb nin0))
    have Et := Et.keep K256
    have Fv := Fv.keep K256 (ninS ne_tx_b251 (ninS ne_tx_vb nin0))
    have Fc := Fc.keep K256 (ninS ne_tx_b251 (ninS ne_tx_vb nin0))
    have Vt := Vt.keep K256 (ninS ne_tt_b251 (ninS ne_tt_vb nin0))
    have E_b251 := E_b251.keep K256
    refine own_via (mkF m 45 #[rv tk, .unset] [(.ref b251)]) st256 ?_
    obtain ⟨cq257, kq257, q257a, q257b, q257c⟩ := isOf hZ rfl E_b251
    obtain ⟨_, T257, Lc257, X257, hQ257, st257⟩ := own_virtual X256 hx (y := (⟨"java/lang/StringBuilder", "toString", "()Ljava/lang/String;"⟩ : MethodName)) (z := (⟨"java/lang/StringBuilder", "toString", "()Ljava/lang/String;"⟩ : MethodName)) hown (mvT hZ (own_w hw 140 rfl)) (mvT hZ (own_w hw 141 rfl)) (notFace_of_selects (args := #[]) (mvT hZ (own_w hw 143 rfl))) (mvT hZ (own_w hw 143 rfl)) (mvT hZ (own_w hw 142 rfl)) (by decide) (backOf (W := 0) (own_rmTS l Z a0 hw [] G1 b251 (8 : Int32) [(.int ((115 : Int32).toInt8.toInt32)), (.int ((116 : Int32).toInt8.toInt32)), (.int ((114 : Int32).toInt8.toInt32)), (.int ((105 : Int32).toInt8.toInt32)), (.int ((110 : Int32).toInt8.toInt32)), (.int ((103 : Int32).toInt8.toInt32)), (.int ((32 : Int32).toInt8.toInt32)), (.int (x0.toInt8.toInt32)), (.int (0 : Int32)), (.int (0 : Int32)), (.int (0 : Int32)), (.int (0 : Int32)), (.int (0 : Int32)), (.int (0 : Int32)), (.int (0 : Int32)), (.int (0 : Int32))] vb kv [(.int ((115 : Int32).toInt8.toInt32)), (.int ((116 : Int32).toInt8.toInt32)), (.int ((114 : Int32).toInt8.toInt32)), (.int ((105 : Int32).toInt8.toInt32)), (.int ((110 : Int32).toInt8.toInt32)), (.int ((103 : Int32).toInt8.toInt32)), (.int ((32 : Int32).toInt8.toInt32)), (.int (x0.toInt8.toInt32))] T256.heap n0 (Nat.le_trans Z0 KP.1) OL E_b251 BV BC BN BA (by decide) (fun h1 z1 o1 v1 => own_rmCB_8 l Z a0 hw [] vb kv ((115 : Int32).toInt8.toInt32) ((116 : Int32).toInt8.toInt32) ((114 : Int32).toInt8.toInt32) ((105 : Int32).toInt8.toInt32) ((110 : Int32).toInt8.toInt32) ((103 : Int32).toInt8.toInt32) ((32 : Int32).toInt8.toInt32) (x0.toInt8.toInt32) (0 : Int32) (0 : Int32) (0 : Int32) (0 : Int32) (0 : Int32) (0 : Int32) (0 : Int32) (0 : Int32) h1 n0 z1 o1 v1) O2 P5) hZ (own_w hw 144 rfl) (own_w hw 58 rfl) (by decide) (by decide)) q257a q257c (g := (mkF m 45 #[rv tk, .unset] [(.ref b251)])) rfl (by rw [hml]; rfl) (argsL := []) (rest := []) (lenOf own_pd20 rfl) rfl (by show 2 * 0 + _ ≤ _; exact Nat.le_of_eq rfl) (hb hby own_d512) rfl rfl (kc := 6) (ks := 72) rfl rfl (by decide) (by decide)
    obtain ⟨rs, ts, ks, rfl, N257q, K257, SGr⟩ := hQ257
    have N257 := Fr.app N256 N257q
    have SF_vb := Safe.keep K257 sf0 CH SF_vb
    have SF_sb := Safe.keep K257 sf0 CH SF_sb
    have CHR := CHR.trans (CHr.keep K257 sf0 CH)
    have CH := CH.keep K257 sf0
    have OL := OL.keep K257 all0
    have KP := KP.trans K257 all0
    have hk1 := Nat.le_trans hk1 K257.1
    have Fk := Fk.keep K257 nin0
    have Ft := Ft.keep K257 nin0
    have Et := Et.keep K257
    have Fv := Fv.keep K257 nin0
    have Fc := Fc.keep K257 nin0
    have Vt := Vt.keep K257 nin0
    have E_b251 := E_b251.keep K257
    have BV := BV.keep K257 nin0
    have BC := BC.keep K257 nin0
    have BN := BN.keep K257 nin0
    have BA := BA.keep K257 nin0
    refine own_via (mkF m 48 #[rv tk, .unset] [(.ref rs)]) st257 ?_
    refine own_asn 49 #[rv tk, rv rs] X257 hx (hb hby own_d513) rfl rfl rfl ?_
    refine own_go 80 X257 hx (hb hby own_d514) (by decide) (by decide) ?_
    refine own_aln 81 X257 hx (hb hby own_d498) rfl rfl rfl ?_
    exact own_retAH (s := s) (vm₁ := T253.vm) X257 hS (by exact hk1) hZ hEW (by exact CH) (by rw [hh]; exact CHR) hx Bd.returns rfl hlk (hb hby own_d499) rfl (by decide) (by decide) (by exact ⟨rs, ts, ks, rfl, N257, KP, by rw [own_pf_1]; exact ⟨SGr.1, SGr.2.1, SGr.2.2.1, SGr.2.2.2, (own_allS (show own_C8 115 from ⟨by decide, by decide⟩) (own_allS (show own_C8 116 from ⟨by decide, by decide⟩) (own_allS (show own_C8 114 from ⟨by decide, by decide⟩) (own_allS (show own_C8 105 from ⟨by decide, by decide⟩) (own_allS (show own_C8 110 from ⟨by decide, by decide⟩) (own_allS (show own_C8 103 from ⟨by decide, by decide⟩) (own_allS (show own_C8 32 from ⟨by decide, by decide⟩) (own_allS c8_x0 own_all0)))))))), Nat.le_of_ble_eq_true rfl⟩⟩)
  · subst q
    rw [own_c2_2] at St
    have Et : Exa Z h0 tx "java/lang/String" := St.1
    have Fv : Fld Z h0 tx "java/lang/String" "value" "[B" (.ref tt) := St.2.1
    have Fc : Fld Z h0 tx "java/lang/String" "coder" "B" (.int (0 : Int32)) := St.2.2.1
    have Vt : Arv Z h0 tt kt .byte (2 : Int32) [(.int (x0.toInt8.toInt32)), (.int (x1.toInt8.toInt32))] (.int (0 : Int32)) := St.2.2.2.1
    refine own_aln 1 X0 hx (hb hby own_d491) rfl rfl rfl ?_
    obtain ⟨T258, X258, e258, st258⟩ := getF X0 hx hZ hown (host := "") (Or.inl (own_w hw 37 rfl)) Via.refl e0 Fk (g := (mkF m 1 #[rv tk, .unset] [(.ref tk)])) rfl rfl (hb hby own_d492)
    refine own_to (mkF m 4 #[rv tk, .unset] [(.ref aS)]) st258 ?_
    obtain ⟨T259, X259, e259, st259⟩ := getS2 X258 hx hZ hown (host := "") (Or.inl (own_w hw 52 rfl)) Via.refl e258 (SaE.ext OL.2) (g := (mkF m 4 #[rv tk, .unset] [(.ref aS)])) rfl (hb hby own_d493)
    refine own_to (mkF m 7 #[rv tk, .unset] [(.ref aE), (.ref aS)]) st259 ?_
    refine own_to (T' := T259) (mkF m 16 #[rv tk, .unset] []) (fun _ k => Jvm.RoadKit.acmp (g := (mkF m 7 #[rv tk, .unset] [(.ref aE), (.ref aS)])) X259 hx rfl rfl rfl (pc0 := 7) (pc' := 16) (same := false) rfl (hb hby own_d494) rfl (decide_eq_false fun q => ne_aS_aE (Value.ref.inj q)) (by decide) (by decide) k) ?_
    refine own_aln 17 X259 hx (hb hby own_d500) rfl rfl rfl ?_
    obtain ⟨T260, X260, e260, st260⟩ := getF X259 hx hZ hown (host := "") (Or.inl (own_w hw 37 rfl)) Via.refl e259 Fk (g := (mkF m 17 #[rv tk, .unset] [(.ref tk)])) rfl rfl (hb hby own_d501)
    refine own_to (mkF m 20 #[rv tk, .unset] [(.ref aS)]) st260 ?_
    obtain ⟨T261, X261, e261, st261⟩ := getS2 X260 hx hZ hown (host := "") (Or.inl (own_w hw 54 rfl)) Via.refl e260 (SaS.ext OL.2) (g := (mkF m 20 #[rv tk, .unset] [(.ref aS)])) rfl (hb hby own_d502)
    refine own_to (mkF m 23 #[rv tk, .unset] [(.ref aS), (.ref aS)]) st261 ?_
    refine own_to (T' := T261) (mkF m 26 #[rv tk, .unset] []) (fun _ k => Jvm.RoadKit.acmp (g := (mkF m 23 #[rv tk, .unset] [(.ref aS), (.ref aS)])) X261 hx rfl rfl rfl (pc0 := 23) (pc' := 26) (same := true) rfl (hb hby own_d503) rfl (decide_eq_true rfl) (by decide) (by decide) k) ?_
    obtain ⟨T262, h262, X262, e262, E262, A262, D262, -, st262⟩ := newO X261 hx hZ hown (own_w hw 56 rfl) (own_w hw 57 rfl) (own_w hw 58 rfl) e261 (g := (mkF m 26 #[rv tk, .unset] [])) rfl (hb hby own_d504) (by decide) (by decide)
    obtain ⟨b262, g262⟩ : ∃ z, z = h0.size := ⟨_, rfl⟩
    rw [← g262] at A262 D262 st262
    have sz_b262 : h0.size ≤ b262 := Nat.le_trans KP.1 (Nat.le_of_eq g262.symm)
    have ge_b262 : n0 ≤ b262 := Nat.le_trans Z0 sz_b262
    have ne_tk_b262 : tk ≠ b262 := Nat.ne_of_lt (Nat.lt_of_lt_of_le Fk.lt (Nat.le_of_eq g262.symm))
    have ne_tx_b262 : tx ≠ b262 := Nat.ne_of_lt (Nat.lt_of_lt_of_le Et.lt (Nat.le_of_eq g262.symm))
    have ne_tt_b262 : tt ≠ b262 := Nat.ne_of_lt (Nat.lt_of_lt_of_le Vt.lt (Nat.le_of_eq g262.symm))
    have CHR := CHR.trans (CHr.ext E262 CH)
    have CH := CH.ext E262
    have OL := OL.ext E262
    have KP := KP.ext E262
    have hk1 := Nat.le_trans hk1 E262.1
    have Fk := Fk.ext E262
    have Ft := Ft.ext E262
    have Et := Et.ext E262
    have Fv := Fv.ext E262
    have Fc := Fc.ext E262
    have Vt := Vt.ext E262
    have E_b262 : Exa Z h262 b262 "java/lang/StringBuilder" := A262
    have F_value_b262 : Fld Z h262 b262 "java/lang/AbstractStringBuilder" "value" "[B" .null := D262 (Or.inl (own_w hw 71 rfl)) (ty := (.array .byte)) (by decide)
    have F_coder_b262 : Fld Z h262 b262 "java/lang/AbstractStringBuilder" "coder" "B" (.int (0 : Int32)) := D262 (Or.inl (own_w hw 73 rfl)) (ty := .byte) (by decide)
    have F_count_b262 : Fld Z h262 b262 "java/lang/AbstractStringBuilder" "count" "I" (.int (0 : Int32)) := D262 (Or.inl (own_w hw 85 rfl)) (ty := .int) (by decide)
    refine own_to (mkF m 29 #[rv tk, .unset] [(.ref b262)]) st262 ?_
    refine own_dup 30 X262 hx (hb hby own_d505) rfl rfl ?_
    have KP0 := KP
    have lt0_tk := Fk.lt
    have lt0_tx := Et.lt
    have lt0_tt := Vt.lt
    have lt0_b262 := E_b262.lt
    obtain ⟨_, T263, Lc263, X263, hQ263, st263⟩ := own_special X262 hx (y := (⟨"java/lang/StringBuilder", "<init>", "()V"⟩ : MethodName)) rfl hown (mvT hZ (own_w hw 59 rfl)) (mvT hZ (own_w hw 60 rfl)) (mvT hZ (own_w hw 61 rfl)) (by decide) (backOf (W := 1) (own_rmSI l Z a0 hw [] b262 G1 h262 n0 (Nat.le_trans Z0 KP.1) OL ge_b262 E_b262 F_value_b262 F_coder_b262 F_count_b262 O2 P5) hZ (own_w hw 61 rfl) (own_w hw 58 rfl) (by decide) (by decide)) (g := (mkF m 30 #[rv tk, .unset] [(.ref b262), (.ref b262)])) rfl (by rw [hml]; rfl) (a := b262) (argsL := []) (rest := [(.ref b262)]) (lenOf own_pd18 rfl) rfl (by show 2 * 0 + _ ≤ _; exact Nat.le_of_eq rfl) (hb hby own_d506) rfl e262 (kc := 2) (ks := 20) rfl rfl (by decide) (by decide)
    obtain ⟨rfl, N263q, K263, vb, kv, ge_vb, sz0_vb, BV, BC, BN, BA⟩ := hQ263
    have N263 := Fr.app N0 N263q
    have SFk : ∀ x ∈ [b262], Safe Z own_EL s.vm h262 x := (sfS (Safe.exa hZ.alike E_b262 (by decide) (by decide)) sf0)
    have SF_vb : Safe Z own_EL s.vm T263.heap vb := Safe.keep K263 SFk CH (Safe.new sz0_vb)
    have CHR := CHR.trans (CHr.keep K263 SFk CH)
    have CH := CH.keep K263 SFk
    have OL := OL.keep K263 (allS ge_b262 all0)
    have KP := KP.trans K263 (allS (Or.inr sz_b262) all0)
    have hk1 := Nat.le_trans hk1 K263.1
    have Fk := Fk.keep K263 (ninS ne_tk_b262 nin0)
    have Ft := Ft.keep K263 (ninS ne_tk_b262 nin0)
    have Et := Et.keep K263
    have Fv := Fv.keep K263 (ninS ne_tx_b262 nin0)
    have Fc := Fc.keep K263 (ninS ne_tx_b262 nin0)
    have Vt := Vt.keep K263 (ninS ne_tt_b262 nin0)
    have E_b262 := E_b262.keep K263
    refine own_via (mkF m 33 #[rv tk, .unset] [(.ref b262)]) st263 ?_
    have sz_vb : h0.size ≤ vb := Nat.le_trans KP0.1 sz0_vb
    have ne_tk_vb : tk ≠ vb := Nat.ne_of_lt (Nat.lt_of_lt_of_le lt0_tk sz0_vb)
    have ne_tx_vb : tx ≠ vb := Nat.ne_of_lt (Nat.lt_of_lt_of_le lt0_tx sz0_vb)
    have ne_tt_vb : tt ≠ vb := Nat.ne_of_lt (Nat.lt_of_lt_of_le lt0_tt sz0_vb)
    have ne_b262_vb : b262 ≠ vb := Nat.ne_of_lt (Nat.lt_of_lt_of_le lt0_b262 sz0_vb)
    have SF_sb := Safe.exa (EL := own_EL) (vm := s.vm) hZ.alike E_b262 (by decide) (by decide)
    have lts_vb := BA.lt
    have lts_b262 := E_b262.lt
    obtain ⟨la1, T264, h264, k1, lb1, lk1, X264, e264, E264, hS, hk2, hZ, hown, E_la1, F_coder_la1, F_value_la1, V_lb1, -, -, CR264, -, sfe264, st264⟩ := ldcCH (s := s) (vm0 := s.vm) X263 hx hZ hown (own_w hw 208 rfl) hwsS rfl hS hk1 hEW (List.mem_of_getElem? (i := 1) rfl) CH (vs := [(.int ((115 : Int32).toInt8.toInt32)), (.int ((116 : Int32).toInt8.toInt32)), (.int ((114 : Int32).toInt8.toInt32)), (.int ((105 : Int32).toInt8.toInt32)), (.int ((110 : Int32).toInt8.toInt32)), (.int ((103 : Int32).toInt8.toInt32)), (.int ((32 : Int32).toInt8.toInt32))]) (z := (7 : Int32)) own_ht7 (by decide) rfl (g := (mkF m 33 #[rv tk, .unset] [(.ref b262)])) rfl (hb hby own_d507) (n := 28) own_hn7 (by decide) (by decide) (by decide)
    have OL := OL.ext E264
    have KP := KP.ext E264
    have Fk := Fk.ext E264
    have Ft := Ft.ext E264
    have Et := Et.ext E264
    have Fv := Fv.ext E264
    have Fc := Fc.ext E264
    have Vt := Vt.ext E264
    have E_b262 := E_b262.ext E264
    have BV := BV.ext E264
    have BC := BC.ext E264
    have BN := BN.ext E264
    have BA := BA.ext E264
    have hk1 := hk2
    have SF_vb := CR264.safe lts_vb SF_vb
    have ne_vb_la1 := (sfe264 vb SF_vb).1
    have ne_vb_lb1 := (sfe264 vb SF_vb).2
    have SF_sb := CR264.safe lts_b262 SF_sb
    have ne_b262_la1 := (sfe264 b262 SF_sb).1
    have ne_b262_lb1 := (sfe264 b262 SF_sb).2
    have CHR := CHR.trans CR264
    have CH := CR264.1
    refine own_to (mkF m 35 #[rv tk, .unset] [(.ref la1), (.ref b262)]) st264 ?_
    obtain ⟨cq265, kq265, q265a, q265b, q265c⟩ := isOf hZ e264 E_b262
    obtain ⟨_, T265, Lc265, X265, hQ265, st265⟩ := own_virtual X264 hx (y := (⟨"java/lang/StringBuilder", "append", "(Ljava/lang/String;)Ljava/lang/StringBuilder;"⟩ : MethodName)) (z := (⟨"java/lang/StringBuilder", "append", "(Ljava/lang/String;)Ljava/lang/StringBuilder;"⟩ : MethodName)) hown (mvT hZ (own_w hw 100 rfl)) (mvT hZ (own_w hw 101 rfl)) (notFace_of_selects (args := #[]) (mvT hZ (own_w hw 103 rfl))) (mvT hZ (own_w hw 103 rfl)) (mvT hZ (own_w hw 102 rfl)) (by decide) (backOf (W := 0) (own_rmSS l Z a0 hw [] G1 b262 la1 lb1 lk1 (0 : Int32) (7 : Int32) [(.int ((115 : Int32).toInt8.toInt32)), (.int ((116 : Int32).toInt8.toInt32)), (.int ((114 : Int32).toInt8.toInt32)), (.int ((105 : Int32).toInt8.toInt32)), (.int ((110 : Int32).toInt8.toInt32)), (.int ((103 : Int32).toInt8.toInt32)), (.int ((32 : Int32).toInt8.toInt32))] [(.int (0 : Int32)), (.int (0 : Int32)), (.int (0 : Int32)), (.int (0 : Int32)), (.int (0 : Int32)), (.int (0 : Int32)), (.int (0 : Int32)), (.int (0 : Int32)), (.int (0 : Int32)), (.int (0 : Int32)), (.int (0 : Int32)), (.int (0 : Int32)), (.int (0 : Int32)), (.int (0 : Int32)), (.int (0 : Int32)), (.int (0 : Int32))] vb kv [(.int ((115 : Int32).toInt8.toInt32)), (.int ((116 : Int32).toInt8.toInt32)), (.int ((114 : Int32).toInt8.toInt32)), (.int ((105 : Int32).toInt8.toInt32)), (.int ((110 : Int32).toInt8.toInt32)), (.int ((103 : Int32).toInt8.toInt32)), (.int ((32 : Int32).toInt8.toInt32)), (.int (0 : Int32)), (.int (0 : Int32)), (.int (0 : Int32)), (.int (0 : Int32)), (.int (0 : Int32)), (.int (0 : Int32)), (.int (0 : Int32)), (.int (0 : Int32)), (.int (0 : Int32))] h264 n0 (Nat.le_trans Z0 KP.1) OL ge_b262 E_b262 BV BC BN BA E_la1 F_value_la1 F_coder_la1 V_lb1 ge_vb ne_b262_vb (Ne.symm ne_vb_la1) (by decide) O2 P5 (own_rmGB_0_7 l Z a0 hw [] G1 vb kv la1 lb1 lk1 (0 : Int32) (0 : Int32) (0 : Int32) (0 : Int32) (0 : Int32) (0 : Int32) (0 : Int32) (0 : Int32) (0 : Int32) (0 : Int32) (0 : Int32) (0 : Int32) (0 : Int32) (0 : Int32) (0 : Int32) (0 : Int32) ((115 : Int32).toInt8.toInt32) ((116 : Int32).toInt8.toInt32) ((114 : Int32).toInt8.toInt32) ((105 : Int32).toInt8.toInt32) ((110 : Int32).toInt8.toInt32) ((103 : Int32).toInt8.toInt32) ((32 : Int32).toInt8.toInt32) h264 n0 (Nat.le_trans Z0 KP.1) OL ge_vb (Ne.symm ne_vb_la1) (Ne.symm ne_vb_lb1) BA E_la1 F_value_la1 F_coder_la1 V_lb1 O2 P5)) hZ (own_w hw 104 rfl) (own_w hw 58 rfl) (by decide) (by decide)) q265a q265c (g := (mkF m 35 #[rv tk, .unset] [(.ref la1), (.ref b262)])) rfl (by rw [hml]; rfl) (argsL := [(.ref la1)]) (rest := []) (lenOf own_pd19 rfl) rfl (by show 2 * 0 + _ ≤ _; exact Nat.le_of_eq rfl) (hb hby own_d508) rfl e264 (kc := 4) (ks := 52) rfl rfl (by decide) (by decide)
    obtain ⟨rfl, N265q, K265, _, BV, BC, BN, BA⟩ := hQ265
    have N265 := Fr.app N263 N265q
    have SFk : ∀ x ∈ [b262, vb], Safe Z own_EL T264.vm h264 x := (sfS SF_sb (sfS SF_vb sf0))
    have SF_vb := Safe.keep K265 SFk CH SF_vb
    have SF_sb := Safe.keep K265 SFk CH SF_sb
    have CHR := CHR.trans (CHr.keep K265 SFk CH)
    have CH := CH.keep K265 SFk
    have OL := OL.keep K265 (allS ge_b262 (allS ge_vb all0))
    have KP := KP.trans K265 (allS (Or.inr sz_b262) (allS (Or.inr sz_vb) all0))
    have hk1 := Nat.le_trans hk1 K265.1
    have Fk := Fk.keep K265 (ninS ne_tk_b262 (ninS ne_tk_vb nin0))
    have Ft := Ft.keep K265 (ninS ne_tk_b262 (ninS ne_tk_vb nin0))
    have Et := Et.keep K265
    have Fv := Fv.keep K265 (ninS ne_tx_b262 (ninS ne_tx_vb nin0))
    have Fc := Fc.keep K265 (ninS ne_tx_b262 (ninS ne_tx_vb nin0))
    have Vt := Vt.keep K265 (ninS ne_tt_b262 (ninS ne_tt_vb nin0))
    have E_b262 := E_b262.keep K265
    have E_la1 := E_la1.keep K265
    have F_coder_la1 := F_coder_la1.keep K265 (ninS (Ne.symm ne_b262_la1) (ninS (Ne.symm ne_vb_la1) nin0))
    have F_value_la1 := F_value_la1.keep K265 (ninS (Ne.symm ne_b262_la1) (ninS (Ne.symm ne_vb_la1) nin0))
    have V_lb1 := V_lb1.keep K265 (ninS (Ne.symm ne_b262_lb1) (ninS (Ne.symm ne_vb_lb1) nin0))
    refine own_via (mkF m 38 #[rv tk, .unset] [(.ref b262)]) st265 ?_
    refine own_aln 39 X265 hx (hb hby own_d509) rfl rfl rfl ?_
    obtain ⟨T266, X266, e266, st266⟩ := getF X265 hx hZ hown (host := "") (Or.inl (own_w hw 39 rfl)) Via.refl rfl Ft (g := (mkF m 39 #[rv tk, .unset] [(.ref tk), (.ref b262)])) rfl rfl (hb hby own_d510)
    refine own_to (mkF m 42 #[rv tk, .unset] [(.ref tx), (.ref b262)]) st266 ?_
    obtain ⟨cq267, kq267, q267a, q267b, q267c⟩ := isOf hZ e266 E_b262
    obtain ⟨_, T267, Lc267, X267, hQ267, st267⟩ := own_virtual X266 hx (y := (⟨"java/lang/StringBuilder", "append", "(Ljava/lang/String;)Ljava/lang/StringBuilder;"⟩ : MethodName)) (z := (⟨"java/lang/StringBuilder", "append", "(Ljava/lang/String;)Ljava/lang/StringBuilder;"⟩ : MethodName)) hown (mvT hZ (own_w hw 100 rfl)) (mvT hZ (own_w hw 101 rfl)) (notFace_of_selects (args := #[]) (mvT hZ (own_w hw 103 rfl))) (mvT hZ (own_w hw 103 rfl)) (mvT hZ (own_w hw 102 rfl)) (by decide) (backOf (W := 0) (own_rmSS l Z a0 hw [] G1 b262 tx tt kt (7 : Int32) (2 : Int32) [(.int (x0.toInt8.toInt32)), (.int (x1.toInt8.toInt32))] [(.int ((115 : Int32).toInt8.toInt32)), (.int ((116 : Int32).toInt8.toInt32)), (.int ((114 : Int32).toInt8.toInt32)), (.int ((105 : Int32).toInt8.toInt32)), (.int ((110 : Int32).toInt8.toInt32)), (.int ((103 : Int32).toInt8.toInt32)), (.int ((32 : Int32).toInt8.toInt32)), (.int (0 : Int32)), (.int (0 : Int32)), (.int (0 : Int32)), (.int (0 : Int32)), (.int (0 : Int32)), (.int (0 : Int32)), (.int (0 : Int32)), (.int (0 : Int32)), (.int (0 : Int32))] vb kv [(.int ((115 : Int32).toInt8.toInt32)), (.int ((116 : Int32).toInt8.toInt32)), (.int ((114 : Int32).toInt8.toInt32)), (.int ((105 : Int32).toInt8.toInt32)), (.int ((110 : Int32).toInt8.toInt32)), (.int ((103 : Int32).toInt8.toInt32)), (.int ((32 : Int32).toInt8.toInt32)), (.int (x0.toInt8.toInt32)), (.int (x1.toInt8.toInt32)), (.int (0 : Int32)), (.int (0 : Int32)), (.int (0 : Int32)), (.int (0 : Int32)), (.int (0 : Int32)), (.int (0 : Int32)), (.int (0 : Int32))] T265.heap n0 (Nat.le_trans Z0 KP.1) OL ge_b262 E_b262 BV BC BN BA Et Fv Fc Vt ge_vb ne_b262_vb ne_tx_vb (by decide) O2 P5 (own_rmGB_7_2 l Z a0 hw [] G1 vb kv tx tt kt ((115 : Int32).toInt8.toInt32) ((116 : Int32).toInt8.toInt32) ((114 : Int32).toInt8.toInt32) ((105 : Int32).toInt8.toInt32) ((110 : Int32).toInt8.toInt32) ((103 : Int32).toInt8.toInt32) ((32 : Int32).toInt8.toInt32) (0 : Int32) (0 : Int32) (0 : Int32) (0 : Int32) (0 : Int32) (0 : Int32) (0 : Int32) (0 : Int32) (0 : Int32) (x0.toInt8.toInt32) (x1.toInt8.toInt32) T265.heap n0 (Nat.le_trans Z0 KP.1) OL ge_vb ne_tx_vb ne_tt_vb BA Et Fv Fc Vt O2 P5)) hZ (own_w hw 104 rfl) (own_w hw 58 rfl) (by decide) (by decide)) q267a q267c (g := (mkF m 42 #[rv tk, .unset] [(.ref tx), (.ref b262)])) rfl (by rw [hml]; rfl) (argsL := [(.ref tx)]) (rest := []) (lenOf own_pd19 rfl) rfl (by show 2 * 0 + _ ≤ _; exact Nat.le_of_eq rfl) (hb hby own_d511) rfl e266 (kc := 4) (ks := 52) rfl rfl (by decide) (by decide)
    obtain ⟨rfl, N267q, K267, _, BV, BC, BN, BA⟩ := hQ267
    have N267 := Fr.app N265 N267q
    have SFk : ∀ x ∈ [b262, vb], Safe Z own_EL T264.vm T265.heap x := (sfS SF_sb (sfS SF_vb sf0))
    have SF_vb := Safe.keep K267 SFk CH SF_vb
    have SF_sb := Safe.keep K267 SFk CH SF_sb
    have CHR := CHR.trans (CHr.keep K267 SFk CH)
    have CH := CH.keep K267 SFk
    have OL := OL.keep K267 (allS ge_b262 (allS ge_vb all0))
    have KP := KP.trans K267 (allS (Or.inr sz_b262) (allS (Or.inr sz_vb) all0))
    have hk1 := Nat.le_trans hk1 K267.1
    have Fk := Fk.keep K267 (ninS ne_tk_b262 (ninS ne_tk_vb nin0))
    have Ft := Ft.keep K267 (ninS ne_tk_b262 (ninS ne_tk_vb nin0))
    have Et := Et.keep K267
    have Fv := Fv.keep K267 (ninS ne_tx_b262 (ninS ne_tx_vb nin0))
    have Fc := Fc.keep K267 (ninS ne_tx_b262 (ninS ne_tx_vb nin0))
    have Vt := Vt.keep K267 (ninS ne_tt_b262 (ninS ne_tt_vb nin0))
    have E_b262 := E_b262.keep K267
    refine own_via (mkF m 45 #[rv tk, .unset] [(.ref b262)]) st267 ?_
    obtain ⟨cq268, kq268, q268a, q268b, q268c⟩ := isOf hZ rfl E_b262
    obtain ⟨_, T268, Lc268, X268, hQ268, st268⟩ := own_virtual X267 hx (y := (⟨"java/lang/StringBuilder", "toString", "()Ljava/lang/String;"⟩ : MethodName)) (z := (⟨"java/lang/StringBuilder", "toString", "()Ljava/lang/String;"⟩ : MethodName)) hown (mvT hZ (own_w hw 140 rfl)) (mvT hZ (own_w hw 141 rfl)) (notFace_of_selects (args := #[]) (mvT hZ (own_w hw 143 rfl))) (mvT hZ (own_w hw 143 rfl)) (mvT hZ (own_w hw 142 rfl)) (by decide) (backOf (W := 0) (own_rmTS l Z a0 hw [] G1 b262 (9 : Int32) [(.int ((115 : Int32).toInt8.toInt32)), (.int ((116 : Int32).toInt8.toInt32)), (.int ((114 : Int32).toInt8.toInt32)), (.int ((105 : Int32).toInt8.toInt32)), (.int ((110 : Int32).toInt8.toInt32)), (.int ((103 : Int32).toInt8.toInt32)), (.int ((32 : Int32).toInt8.toInt32)), (.int (x0.toInt8.toInt32)), (.int (x1.toInt8.toInt32)), (.int (0 : Int32)), (.int (0 : Int32)), (.int (0 : Int32)), (.int (0 : Int32)), (.int (0 : Int32)), (.int (0 : Int32)), (.int (0 : Int32))] vb kv [(.int ((115 : Int32).toInt8.toInt32)), (.int ((116 : Int32).toInt8.toInt32)), (.int ((114 : Int32).toInt8.toInt32)), (.int ((105 : Int32).toInt8.toInt32)), (.int ((110 : Int32).toInt8.toInt32)), (.int ((103 : Int32).toInt8.toInt32)), (.int ((32 : Int32).toInt8.toInt32)), (.int (x0.toInt8.toInt32)), (.int (x1.toInt8.toInt32))] T267.heap n0 (Nat.le_trans Z0 KP.1) OL E_b262 BV BC BN BA (by decide) (fun h1 z1 o1 v1 => own_rmCB_9 l Z a0 hw [] vb kv ((115 : Int32).toInt8.toInt32) ((116 : Int32).toInt8.toInt32) ((114 : Int32).toInt8.toInt32) ((105 : Int32).toInt8.toInt32) ((110 : Int32).toInt8.toInt32) ((103 : Int32).toInt8.toInt32) ((32 : Int32).toInt8.toInt32) (x0.toInt8.toInt32) (x1.toInt8.toInt32) (0 : Int32) (0 : Int32) (0 : Int32) (0 : Int32) (0 : Int32) (0 : Int32) (0 : Int32) h1 n0 z1 o1 v1) O2 P5) hZ (own_w hw 144 rfl) (own_w hw 58 rfl) (by decide) (by decide)) q268a q268c (g := (mkF m 45 #[rv tk, .unset] [(.ref b262)])) rfl (by rw [hml]; rfl) (argsL := []) (rest := []) (lenOf own_pd20 rfl) rfl (by show 2 * 0 + _ ≤ _; exact Nat.le_of_eq rfl) (hb hby own_d512) rfl rfl (kc := 6) (ks := 72) rfl rfl (by decide) (by decide)
    obtain ⟨rs, ts, ks, rfl, N268q, K268, SGr⟩ := hQ268
    have N268 := Fr.app N267 N268q
    have SF_vb := Safe.keep K268 sf0 CH SF_vb
    have SF_sb := Safe.keep K268 sf0 CH SF_sb
    have CHR := CHR.trans (CHr.keep K268 sf0 CH)
    have CH := CH.keep K268 sf0
    have OL := OL.keep K268 all0
    have KP := KP.trans K268 all0
    have hk1 := Nat.le_trans hk1 K268.1
    have Fk := Fk.keep K268 nin0
    have Ft := Ft.keep K268 nin0
    have Et := Et.keep K268
    have Fv := Fv.keep K268 nin0
    have Fc := Fc.keep K268 nin0
    have Vt := Vt.keep K268 nin0
    have E_b262 := E_b262.keep K268
    have BV := BV.keep K268 nin0
    have BC := BC.keep K268 nin0
    have BN := BN.keep K268 nin0
    have BA := BA.keep K268 nin0
    refine own_via (mkF m 48 #[rv tk, .unset] [(.ref rs)]) st268 ?_
    refine own_asn 49 #[rv tk, rv rs] X268 hx (hb hby own_d513) rfl rfl rfl ?_
    refine own_go 80 X268 hx (hb hby own_d514) (by decide) (by decide) ?_
    refine own_aln 81 X268 hx (hb hby own_d498) rfl rfl rfl ?_
    exact own_retAH (s := s) (vm₁ := T264.vm) X268 hS (by exact hk1) hZ hEW (by exact CH) (by rw [hh]; exact CHR) hx Bd.returns rfl hlk (hb hby own_d499) rfl (by decide) (by decide) (by exact ⟨rs, ts, ks, rfl, N268, KP, by rw [own_pf_2]; exact ⟨SGr.1, SGr.2.1, SGr.2.2.1, SGr.2.2.2, (own_allS (show own_C8 115 from ⟨by decide, by decide⟩) (own_allS (show own_C8 116 from ⟨by decide, by decide⟩) (own_allS (show own_C8 114 from ⟨by decide, by decide⟩) (own_allS (show own_C8 105 from ⟨by decide, by decide⟩) (own_allS (show own_C8 110 from ⟨by decide, by decide⟩) (own_allS (show own_C8 103 from ⟨by decide, by decide⟩) (own_allS (show own_C8 32 from ⟨by decide, by decide⟩) (own_allS c8_x0 (own_allS c8_x1 own_all0))))))))), Nat.le_of_ble_eq_true rfl⟩⟩)
def own_QDQ (Z : State) (len x0 x1 G1 : Int32) (tk ak tx tt : Addr) (kt : ClassId) (aE aS : Addr) (h0 : Heap) (n0 : Nat) (v : Option Value) (h : Heap) (L : List Loc) : Prop := ∃ (sx t : Addr) (kb : ClassId), v = some (.ref sx) ∧ Fr n0 L ∧ Keep h0 h [] ∧ own_Str Z h sx t kb (own_qt len x0 x1)
set_option maxRecDepth 65536 in
set_option maxHeartbeats 40000000 in
theorem own_rmDQ (l : Launch) (Z : State) (a0 : Array Value) (hw : ∀ d ∈ tables_1, d.before a0 Z = true) (ws : List Jvm.Cond) (len x0 x1 G1 : Int32) (tk ak tx tt : Addr) (kt : ClassId) (aE aS : Addr) (h0 : Heap) (n0 : Nat) (Z0 : n0 ≤ h0.size) (OL : Old Z n0 h0) (hlen : len = 0 ∨ len = 1 ∨ len = 2) (c8_x0 : own_C8 x0) (c8_x1 : own_C8 x1) (Fk : Fld Z h0 tk "com/example/ianus/ianus/Token" "kind" "Lcom/example/ianus/ianus/Token$Kind;" (.ref ak)) (Ft : Fld Z h0 tk "com/example/ianus/ianus/Token" "text" "Ljava/lang/String;" (.ref tx)) (St : own_Str Z h0 tx tt kt (own_c2 len x0 x1)) (O2 : Sta Z Z.heap "java/lang/String" "COMPACT_STRINGS" "Z" (.int G1)) (P5 : ¬ (G1 = (0 : Int32))) (SaE : Sta Z Z.heap "com/example/ianus/ianus/Token$Kind" "END" "Lcom/example/ianus/ianus/Token$Kind;" (.ref aE)) (SaS : Sta Z Z.heap "com/example/ianus/ianus/Token$Kind" "STRING" "Lcom/example/ianus/ianus/Token$Kind;" (.ref aS)) (ne_ak_aE : ak ≠ aE) (ne_ak_aS : ak ≠ aS) :
    MetFree l (⟨"com/example/ianus/ianus/Token", "describe", "()Ljava/lang/String;"⟩ : MethodName) (head1 (Jvm.Cond.code (⟨"com/example/ianus/ianus/Token", "describe", "()Ljava/lang/String;"⟩ : MethodName) prog_18_method_9_code 2 (some (.object "java/lang/String")) :: ws) ({ frames := 6, cells := 6, slots := 90, locals := 124 } : Room)) (fun aa_ U => aa_ = #[(.ref tk)] ∧ Z.Warmed39 U.vm ∧ U.heap = h0 ∧ CHv Z own_EL U.vm h0) (fun _ _ _ _ _ => True) (fun _ U o U' => ∃ v L, o = .returned v ∧ own_QDQ Z len x0 x1 G1 tk ak tx tt kt aE aS h0 n0 v U'.heap L ∧ CHr Z own_EL U.vm U.heap U'.vm U'.heap ∧ ReturnedEndW U o U' L ({ frames := 6, cells := 6, slots := 90, locals := 124 } : Room).cells ({ frames := 6, cells := 6, slots := 90, locals := 124 } : Room).slots) := by
  refine MetFree.of_bodySF (plainFor_of_name own_pn2) hisR ?_
  intro p e s m args below meth c s₁ Bd hml0 hP hK
  obtain ⟨rfl, hZ, hh, CH⟩ := hP
  have hx := Bd.exec
  have hby := Bd.bytes
  have hlk : meth.locks = false := BodyLoose.notSynchronized Bd
  have hml : c.maxLocals = 2 := hml0
  have hown : s.vm.findClass "com/example/ianus/ianus/Token" = some m.cls := findClass_of_methodNamed Bd.named
  have hnm := (name_of_methodNamed Bd.named Bd.method).1
  have X0 : Stand p l e ({ frames := 6, cells := 6, slots := 90, locals := 124 } : Room) s m #[(.ref tk)] below meth c s₁ [] 0 0 := Stand.of_body Bd
  have e0 : s₁.heap = h0 := by rw [← hh, Bd.state]; rfl
  have N0 := Fr.nil n0
  have KP : Keep h0 h0 [] := Keep.refl _ _
  have hS : s.Since s.vm 0 := (State.WarmedH.refl s).since 0
  have hk1 : 0 ≤ h0.size := Nat.zero_le _
  have CHR : CHr Z own_EL s.vm h0 s.vm h0 := CHr.refl CH
  have hEW : EW Z a0 own_EL := own_EWof hw
  have hwsS : ∀ d ∈ Bundle.stringAtoms, d.before a0 Z = true := fun d hd => hw d (own_wS d hd)
  refine own_start (Fin := (own_FinH Z s (own_QDQ Z len x0 x1 G1 tk ak tx tt kt aE aS h0 n0) ({ frames := 6, cells := 6, slots := 90, locals := 124 } : Room).cells ({ frames := 6, cells := 6, slots := 90, locals := 124 } : Room).slots)) (own_from (mkF m 0 #[rv tk, .unset] []) (castTop (own_ef_DQ m tk)) ?_)
  rcases hlen with q | q | q
  · subst q
    rw [own_c2_0] at St
    have Et : Exa Z h0 tx "java/lang/String" := St.1
    have Fv : Fld Z h0 tx "java/lang/String" "value" "[B" (.ref tt) := St.2.1
    have Fc : Fld Z h0 tx "java/lang/String" "coder" "B" (.int (0 : Int32)) := St.2.2.1
    have Vt : Arv Z h0 tt kt .byte (0 : Int32) [] (.int (0 : Int32)) := St.2.2.2.1
    refine own_aln 1 X0 hx (hb hby own_d491) rfl rfl rfl ?_
    obtain ⟨T269, X269, e269, st269⟩ := getF X0 hx hZ hown (host := "") (Or.inl (own_w hw 37 rfl)) Via.refl e0 Fk (g := (mkF m 1 #[rv tk, .unset] [(.ref tk)])) rfl rfl (hb hby own_d492)
    refine own_to (mkF m 4 #[rv tk, .unset] [(.ref ak)]) st269 ?_
    obtain ⟨T270, X270, e270, st270⟩ := getS2 X269 hx hZ hown (host := "") (Or.inl (own_w hw 52 rfl)) Via.refl e269 (SaE.ext OL.2) (g := (mkF m 4 #[rv tk, .unset] [(.ref ak)])) rfl (hb hby own_d493)
    refine own_to (mkF m 7 #[rv tk, .unset] [(.ref aE), (.ref ak)]) st270 ?_
    refine own_to (T' := T270) (mkF m 16 #[rv tk, .unset] []) (fun _ k => Jvm.RoadKit.acmp (g := (mkF m 7 #[rv tk, .unset] [(.ref aE), (.ref ak)])) X270 hx rfl rfl rfl (pc0 := 7) (pc' := 16) (same := false) rfl (hb hby own_d494) rfl (decide_eq_false fun q => ne_ak_aE (Value.ref.inj q)) (by decide) (by decide) k) ?_
    refine own_aln 17 X270 hx (hb hby own_d500) rfl rfl rfl ?_
    obtain ⟨T271, X271, e271, st271⟩ := getF X270 hx hZ hown (host := "") (Or.inl (own_w hw 37 rfl)) Via.refl e270 Fk (g := (mkF m 17 #[rv tk, .unset] [(.ref tk)])) rfl rfl (hb hby own_d501)
    refine own_to (mkF m 20 #[rv tk, .unset] [(.ref ak)]) st271 ?_
    obtain ⟨T272, X272, e272, st272⟩ := getS2 X271 hx hZ hown (host := "") (Or.inl (own_w hw 54 rfl)) Via.refl e271 (SaS.ext OL.2) (g := (mkF m 20 #[rv tk, .unset] [(.ref ak)])) rfl (hb hby own_d502)
    refine own_to (mkF m 23 #[rv tk, .unset] [(.ref aS), (.ref ak)]) st272 ?_
    refine own_to (T' := T272) (mkF m 52 #[rv tk, .unset] []) (fun _ k => Jvm.RoadKit.acmp (g := (mkF m 23 #[rv tk, .unset] [(.ref aS), (.ref ak)])) X272 hx rfl rfl rfl (pc0 := 23) (pc' := 52) (same := false) rfl (hb hby own_d503) rfl (decide_eq_false fun q => ne_ak_aS (Value.ref.inj q)) (by decide) (by decide) k) ?_
    obtain ⟨T273, h273, X273, e273, E273, A273, D273, -, st273⟩ := newO X272 hx hZ hown (own_w hw 56 rfl) (own_w hw 57 rfl) (own_w hw 58 rfl) e272 (g := (mkF m 52 #[rv tk, .unset] [])) rfl (hb hby own_d515) (by decide) (by decide)
    obtain ⟨b273, g273⟩ : ∃ z, z = h0.size := ⟨_, rfl⟩
    rw [← g273] at A273 D273 st273
    have sz_b273 : h0.size ≤ b273 := Nat.le_trans KP.1 (Nat.le_of_eq g273.symm)
    have ge_b273 : n0 ≤ b273 := Nat.le_trans Z0 sz_b273
    have ne_tk_b273 : tk ≠ b273 := Nat.ne_of_lt (Nat.lt_of_lt_of_le Fk.lt (Nat.le_of_eq g273.symm))
    have ne_tx_b273 : tx ≠ b273 := Nat.ne_of_lt (Nat.lt_of_lt_of_le Et.lt (Nat.le_of_eq g273.symm))
    have ne_tt_b273 : tt ≠ b273 := Nat.ne_of_lt (Nat.lt_of_lt_of_le Vt.lt (Nat.le_of_eq g273.symm))
    have CHR := CHR.trans (CHr.ext E273 CH)
    have CH := CH.ext E273
    have OL := OL.ext E273
    have KP := KP.ext E273
    have hk1 := Nat.le_trans hk1 E273.1
    have Fk := Fk.ext E273
    have Ft := Ft.ext E273
    have Et := Et.ext E273
    have Fv := Fv.ext E273
    have Fc := Fc.ext E273
    have Vt := Vt.ext E273
    have E_b273 : Exa Z h273 b273 "java/lang/StringBuilder" := A273
    have F_value_b273 : Fld Z h273 b273 "java/lang/AbstractStringBuilder" "value" "[B" .null := D273 (Or.inl (own_w hw 71 rfl)) (ty := (.array .byte)) (by decide)
    have F_coder_b273 : Fld Z h273 b273 "java/lang/AbstractStringBuilder" "coder" "B" (.int (0 : Int32)) := D273 (Or.inl (own_w hw 73 rfl)) (ty := .byte) (by decide)
    have F_count_b273 : Fld Z h273 b273 "java/lang/AbstractStringBuilder" "count" "I" (.int (0 : Int32)) := D273 (Or.inl (own_w hw 85 rfl)) (ty := .int) (by decide)
    refine own_to (mkF m 55 #[rv tk, .unset] [(.ref b273)]) st273 ?_
    refine own_dup 56 X273 hx (hb hby own_d516) rfl rfl ?_
    have KP0 := KP
    have lt0_tk := Fk.lt
    have lt0_tx := Et.lt
    have lt0_tt := Vt.lt
    have lt0_b273 := E_b273.lt
    obtain ⟨_, T274, Lc274, X274, hQ274, st274⟩ := own_special X273 hx (y := (⟨"java/lang/StringBuilder", "<init>", "()V"⟩ : MethodName)) rfl hown (mvT hZ (own_w hw 59 rfl)) (mvT hZ (own_w hw 60 rfl)) (mvT hZ (own_w hw 61 rfl)) (by decide) (backOf (W := 1) (own_rmSI l Z a0 hw [] b273 G1 h273 n0 (Nat.le_trans Z0 KP.1) OL ge_b273 E_b273 F_value_b273 F_coder_b273 F_count_b273 O2 P5) hZ (own_w hw 61 rfl) (own_w hw 58 rfl) (by decide) (by decide)) (g := (mkF m 56 #[rv tk, .unset] [(.ref b273), (.ref b273)])) rfl (by rw [hml]; rfl) (a := b273) (argsL := []) (rest := [(.ref b273)]) (lenOf own_pd18 rfl) rfl (by show 2 * 0 + _ ≤ _; exact Nat.le_of_eq rfl) (hb hby own_d517) rfl e273 (kc := 2) (ks := 20) rfl rfl (by decide) (by decide)
    obtain ⟨rfl, N274q, K274, vb, kv, ge_vb, sz0_vb, BV, BC, BN, BA⟩ := hQ274
    have N274 := Fr.app N0 N274q
    have SFk : ∀ x ∈ [b273], Safe Z own_EL s.vm h273 x := (sfS (Safe.exa hZ.alike E_b273 (by decide) (by decide)) sf0)
    have SF_vb : Safe Z own_EL s.vm T274.heap vb := Safe.keep K274 SFk CH (Safe.new sz0_vb)
    have CHR := CHR.trans (CHr.keep K274 SFk CH)
    have CH := CH.keep K274 SFk
    have OL := OL.keep K274 (allS ge_b273 all0)
    have KP := KP.trans K274 (allS (Or.inr sz_b273) all0)
    have hk1 := Nat.le_trans hk1 K274.1
    have Fk := Fk.keep K274 (ninS ne_tk_b273 nin0)
    have Ft := Ft.keep K274 (ninS ne_tk_b273 nin0)
    have Et := Et.keep K274
    have Fv := Fv.keep K274 (ninS ne_tx_b273 nin0)
    have Fc := Fc.keep K274 (ninS ne_tx_b273 nin0)
    have Vt := Vt.keep K274 (ninS ne_tt_b273 nin0)
    have E_b273 := E_b273.keep K274
    refine own_via (mkF m 59 #[rv tk, .unset] [(.ref b273)]) st274 ?_
    have sz_vb : h0.size ≤ vb := Nat.le_trans KP0.1 sz0_vb
    have ne_tk_vb : tk ≠ vb := Nat.ne_of_lt (Nat.lt_of_lt_of_le lt0_tk sz0_vb)
    have ne_tx_vb : tx ≠ vb := Nat.ne_of_lt (Nat.lt_of_lt_of_le lt0_tx sz0_vb)
    have ne_tt_vb : tt ≠ vb := Nat.ne_of_lt (Nat.lt_of_lt_of_le lt0_tt sz0_vb)
    have ne_b273_vb : b273 ≠ vb := Nat.ne_of_lt (Nat.lt_of_lt_of_le lt0_b273 sz0_vb)
    refine own_bi 61 34 X274 hx (hb hby own_d518) rfl rfl ?_
    obtain ⟨cq275, kq275, q275a, q275b, q275c⟩ := isOf hZ rfl E_b273
    obtain ⟨_, T275, Lc275, X275, hQ275, st275⟩ := own_virtual X274 hx (y := (⟨"java/lang/StringBuilder", "append", "(C)Ljava/lang/StringBuilder;"⟩ : MethodName)) (z := (⟨"java/lang/StringBuilder", "append", "(C)Ljava/lang/StringBuilder;"⟩ : MethodName)) hown (mvT hZ (own_w hw 74 rfl)) (mvT hZ (own_w hw 75 rfl)) (notFace_of_selects (args := #[]) (mvT hZ (own_w hw 77 rfl))) (mvT hZ (own_w hw 77 rfl)) (mvT hZ (own_w hw 76 rfl)) (by decide) (backOf (W := 0) (own_rmSC l Z a0 hw [] b273 (1 : Int32) vb kv [(.int ((34 : Int32).toInt8.toInt32)), (.int (0 : Int32)), (.int (0 : Int32)), (.int (0 : Int32)), (.int (0 : Int32)), (.int (0 : Int32)), (.int (0 : Int32)), (.int (0 : Int32)), (.int (0 : Int32)), (.int (0 : Int32)), (.int (0 : Int32)), (.int (0 : Int32)), (.int (0 : Int32)), (.int (0 : Int32)), (.int (0 : Int32)), (.int (0 : Int32))] T274.heap n0 (Nat.le_trans Z0 KP.1) OL ge_b273 ge_vb E_b273 (own_rmAC_0 l Z a0 hw [] G1 b273 vb kv (0 : Int32) (0 : Int32) (0 : Int32) (0 : Int32) (0 : Int32) (0 : Int32) (0 : Int32) (0 : Int32) (0 : Int32) (0 : Int32) (0 : Int32) (0 : Int32) (0 : Int32) (0 : Int32) (0 : Int32) (0 : Int32) T274.heap n0 (Nat.le_trans Z0 KP.1) OL ge_b273 ge_vb ne_b273_vb E_b273 BV BC BN BA O2 P5)) hZ (own_w hw 78 rfl) (own_w hw 58 rfl) (by decide) (by decide)) q275a q275c (g := (mkF m 61 #[rv tk, .unset] [(.int (34 : Int32)), (.ref b273)])) rfl (by rw [hml]; rfl) (argsL := [(.int (34 : Int32))]) (rest := []) (lenOf own_pd21 rfl) rfl (by show 2 * 0 + _ ≤ _; exact Nat.le_of_eq rfl) (hb hby own_d519) rfl rfl (kc := 2) (ks := 20) rfl rfl (by decide) (by decide)
    obtain ⟨rfl, N275q, K275, _, BV, BC, BN, BA⟩ := hQ275
    have N275 := Fr.app N274 N275q
    have SFk : ∀ x ∈ [b273, vb], Safe Z own_EL s.vm T274.heap x := (sfS (Safe.exa hZ.alike E_b273 (by decide) (by decide)) (sfS SF_vb sf0))
    have SF_vb := Safe.keep K275 SFk CH SF_vb
    have CHR := CHR.trans (CHr.keep K275 SFk CH)
    have CH := CH.keep K275 SFk
    have OL := OL.keep K275 (allS ge_b273 (allS ge_vb all0))
    have KP := KP.trans K275 (allS (Or.inr sz_b273) (allS (Or.inr sz_vb) all0))
    have hk1 := Nat.le_trans hk1 K275.1
    have Fk := Fk.keep K275 (ninS ne_tk_b273 (ninS ne_tk_vb nin0))
    have Ft := Ft.keep K275 (ninS ne_tk_b273 (ninS ne_tk_vb nin0))
    have Et := Et.keep K275
    have Fv := Fv.keep K275 (ninS ne_tx_b273 (ninS ne_tx_vb nin0))
    have Fc := Fc.keep K275 (ninS ne_tx_b273 (ninS ne_tx_vb nin0))
    have Vt := Vt.keep K275 (ninS ne_tt_b273 (ninS ne_tt_vb nin0))
    have E_b273 := E_b273.keep K275
    refine own_via (mkF m 64 #[rv tk, .unset] [(.ref b273)]) st275 ?_
    refine own_aln 65 X275 hx (hb hby own_d520) rfl rfl rfl ?_
    obtain ⟨T276, X276, e276, st276⟩ := getF X275 hx hZ hown (host := "") (Or.inl (own_w hw 39 rfl)) Via.refl rfl Ft (g := (mkF m 65 #[rv tk, .unset] [(.ref tk), (.ref b273)])) rfl rfl (hb hby own_d521)
    refine own_to (mkF m 68 #[rv tk, .unset] [(.ref tx), (.ref b273)]) st276 ?_
    obtain ⟨cq277, kq277, q277a, q277b, q277c⟩ := isOf hZ e276 E_b273
    obtain ⟨_, T277, Lc277, X277, hQ277, st277⟩ := own_virtual X276 hx (y := (⟨"java/lang/StringBuilder", "append", "(Ljava/lang/String;)Ljava/lang/StringBuilder;"⟩ : MethodName)) (z := (⟨"java/lang/StringBuilder", "append", "(Ljava/lang/String;)Ljava/lang/StringBuilder;"⟩ : MethodName)) hown (mvT hZ (own_w hw 100 rfl)) (mvT hZ (own_w hw 101 rfl)) (notFace_of_selects (args := #[]) (mvT hZ (own_w hw 103 rfl))) (mvT hZ (own_w hw 103 rfl)) (mvT hZ (own_w hw 102 rfl)) (by decide) (backOf (W := 0) (own_rmSS l Z a0 hw [] G1 b273 tx tt kt (1 : Int32) (0 : Int32) [] [(.int ((34 : Int32).toInt8.toInt32)), (.int (0 : Int32)), (.int (0 : Int32)), (.int (0 : Int32)), (.int (0 : Int32)), (.int (0 : Int32)), (.int (0 : Int32)), (.int (0 : Int32)), (.int (0 : Int32)), (.int (0 : Int32)), (.int (0 : Int32)), (.int (0 : Int32)), (.int (0 : Int32)), (.int (0 : Int32)), (.int (0 : Int32)), (.int (0 : Int32))] vb kv [(.int ((34 : Int32).toInt8.toInt32)), (.int (0 : Int32)), (.int (0 : Int32)), (.int (0 : Int32)), (.int (0 : Int32)), (.int (0 : Int32)), (.int (0 : Int32)), (.int (0 : Int32)), (.int (0 : Int32)), (.int (0 : Int32)), (.int (0 : Int32)), (.int (0 : Int32)), (.int (0 : Int32)), (.int (0 : Int32)), (.int (0 : Int32)), (.int (0 : Int32))] T275.heap n0 (Nat.le_trans Z0 KP.1) OL ge_b273 E_b273 BV BC BN BA Et Fv Fc Vt ge_vb ne_b273_vb ne_tx_vb (by decide) O2 P5 (own_rmGB_1_0 l Z a0 hw [] G1 vb kv tx tt kt ((34 : Int32).toInt8.toInt32) (0 : Int32) (0 : Int32) (0 : Int32) (0 : Int32) (0 : Int32) (0 : Int32) (0 : Int32) (0 : Int32) (0 : Int32) (0 : Int32) (0 : Int32) (0 : Int32) (0 : Int32) (0 : Int32) (0 : Int32)  T275.heap n0 (Nat.le_trans Z0 KP.1) OL ge_vb ne_tx_vb ne_tt_vb BA Et Fv Fc Vt O2 P5)) hZ (own_w hw 104 rfl) (own_w hw 58 rfl) (by decide) (by decide)) q277a q277c (g := (mkF m 68 #[rv tk, .unset] [(.ref tx), (.ref b273)])) rfl (by rw [hml]; rfl) (argsL := [(.ref tx)]) (rest := []) (lenOf own_pd19 rfl) rfl (by show 2 * 0 + _ ≤ _; exact Nat.le_of_eq rfl) (hb hby own_d522) rfl e276 (kc := 2) (ks := 20) rfl rfl (by decide) (by decide)
    obtain ⟨rfl, N277q, K277, _, BV, BC, BN, BA⟩ := hQ277
    have N277 := Fr.app N275 N277q
    have SFk : ∀ x ∈ [b273, vb], Safe Z own_EL s.vm T275.heap x := (sfS (Safe.exa hZ.alike E_b273 (by decide) (by decide)) (sfS SF_vb sf0))
    have SF_vb := Safe.keep K277 SFk CH SF_vb
    have CHR := CHR.trans (CHr.keep K277 SFk CH)
    have CH := CH.keep K277 SFk
    have OL := OL.keep K277 (allS ge_b273 (allS ge_vb all0))
    have KP := KP.trans K277 (allS (Or.inr sz_b273) (allS (Or.inr sz_vb) all0))
    have hk1 := Nat.le_trans hk1 K277.1
    have Fk := Fk.keep K277 (ninS ne_tk_b273 (ninS ne_tk_vb nin0))
    have Ft := Ft.keep K277 (ninS ne_tk_b273 (ninS ne_tk_vb nin0))
    have Et := Et.keep K277
    have Fv := Fv.keep K277 (ninS ne_tx_b273 (ninS ne_tx_vb nin0))
    have Fc := Fc.keep K277 (ninS ne_tx_b273 (ninS ne_tx_vb nin0))
    have Vt := Vt.keep K277 (ninS ne_tt_b273 (ninS ne_tt_vb nin0))
    have E_b273 := E_b273.keep K277
    refine own_via (mkF m 71 #[rv tk, .unset] [(.ref b273)]) st277 ?_
    refine own_bi 73 34 X277 hx (hb hby own_d523) rfl rfl ?_
    obtain ⟨cq278, kq278, q278a, q278b, q278c⟩ := isOf hZ rfl E_b273
    obtain ⟨_, T278, Lc278, X278, hQ278, st278⟩ := own_virtual X277 hx (y := (⟨"java/lang/StringBuilder", "append", "(C)Ljava/lang/StringBuilder;"⟩ : MethodName)) (z := (⟨"java/lang/StringBuilder", "append", "(C)Ljava/lang/StringBuilder;"⟩ : MethodName)) hown (mvT hZ (own_w hw 74 rfl)) (mvT hZ (own_w hw 75 rfl)) (notFace_of_selects (args := #[]) (mvT hZ (own_w hw 77 rfl))) (mvT hZ (own_w hw 77 rfl)) (mvT hZ (own_w hw 76 rfl)) (by decide) (backOf (W := 0) (own_rmSC l Z a0 hw [] b273 (2 : Int32) vb kv [(.int ((34 : Int32).toInt8.toInt32)), (.int ((34 : Int32).toInt8.toInt32)), (.int (0 : Int32)), (.int (0 : Int32)), (.int (0 : Int32)), (.int (0 : Int32)), (.int (0 : Int32)), (.int (0 : Int32)), (.int (0 : Int32)), (.int (0 : Int32)), (.int (0 : Int32)), (.int (0 : Int32)), (.int (0 : Int32)), (.int (0 : Int32)), (.int (0 : Int32)), (.int (0 : Int32))] T277.heap n0 (Nat.le_trans Z0 KP.1) OL ge_b273 ge_vb E_b273 (own_rmAC_1 l Z a0 hw [] G1 b273 vb kv ((34 : Int32).toInt8.toInt32) (0 : Int32) (0 : Int32) (0 : Int32) (0 : Int32) (0 : Int32) (0 : Int32) (0 : Int32) (0 : Int32) (0 : Int32) (0 : Int32) (0 : Int32) (0 : Int32) (0 : Int32) (0 : Int32) (0 : Int32) T277.heap n0 (Nat.le_trans Z0 KP.1) OL ge_b273 ge_vb ne_b273_vb E_b273 BV BC BN BA O2 P5)) hZ (own_w hw 78 rfl) (own_w hw 58 rfl) (by decide) (by decide)) q278a q278c (g := (mkF m 73 #[rv tk, .unset] [(.int (34 : Int32)), (.ref b273)])) rfl (by rw [hml]; rfl) (argsL := [(.int (34 : Int32))]) (rest := []) (lenOf own_pd21 rfl) rfl (by show 2 * 0 + _ ≤ _; exact Nat.le_of_eq rfl) (hb hby own_d524) rfl rfl (kc := 2) (ks := 20) rfl rfl (by decide) (by decide)
    obtain ⟨rfl, N278q, K278, _, BV, BC, BN, BA⟩ := hQ278
    have N278 := Fr.app N277 N278q
    have SFk : ∀ x ∈ [b273, vb], Safe Z own_EL s.vm T277.heap x := (sfS (Safe.exa hZ.alike E_b273 (by decide) (by decide)) (sfS SF_vb sf0))
    have SF_vb := Safe.keep K278 SFk CH SF_vb
    have CHR := CHR.trans (CHr.keep K278 SFk CH)
    have CH := CH.keep K278 SFk
    have OL := OL.keep K278 (allS ge_b273 (allS ge_vb all0))
    have KP := KP.trans K278 (allS (Or.inr sz_b273) (allS (Or.inr sz_vb) all0))
    have hk1 := Nat.le_trans hk1 K278.1
    have Fk := Fk.keep K278 (ninS ne_tk_b273 (ninS ne_tk_vb nin0))
    have Ft := Ft.keep K278 (ninS ne_tk_b273 (ninS ne_tk_vb nin0))
    have Et := Et.keep K278
    have Fv := Fv.keep K278 (ninS ne_tx_b273 (ninS ne_tx_vb nin0))
    have Fc := Fc.keep K278 (ninS ne_tx_b273 (ninS ne_tx_vb nin0))
    have Vt := Vt.keep K278 (ninS ne_tt_b273 (ninS ne_tt_vb nin0))
    have E_b273 := E_b273.keep K278
    refine own_via (mkF m 76 #[rv tk, .unset] [(.ref b273)]) st278 ?_
    obtain ⟨cq279, kq279, q279a, q279b, q279c⟩ := isOf hZ rfl E_b273
    obtain ⟨_, T279, Lc279, X279, hQ279, st279⟩ := own_virtual X278 hx (y := (⟨"java/lang/StringBuilder", "toString", "()Ljava/lang/String;"⟩ : MethodName)) (z := (⟨"java/lang/StringBuilder", "toString", "()Ljava/lang/String;"⟩ : MethodName)) hown (mvT hZ (own_w hw 140 rfl)) (mvT hZ (own_w hw 141 rfl)) (notFace_of_selects (args := #[]) (mvT hZ (own_w hw 143 rfl))) (mvT hZ (own_w hw 143 rfl)) (mvT hZ (own_w hw 142 rfl)) (by decide) (backOf (W := 0) (own_rmTS l Z a0 hw [] G1 b273 (2 : Int32) [(.int ((34 : Int32).toInt8.toInt32)), (.int ((34 : Int32).toInt8.toInt32)), (.int (0 : Int32)), (.int (0 : Int32)), (.int (0 : Int32)), (.int (0 : Int32)), (.int (0 : Int32)), (.int (0 : Int32)), (.int (0 : Int32)), (.int (0 : Int32)), (.int (0 : Int32)), (.int (0 : Int32)), (.int (0 : Int32)), (.int (0 : Int32)), (.int (0 : Int32)), (.int (0 : Int32))] vb kv [(.int ((34 : Int32).toInt8.toInt32)), (.int ((34 : Int32).toInt8.toInt32))] T278.heap n0 (Nat.le_trans Z0 KP.1) OL E_b273 BV BC BN BA (by decide) (fun h1 z1 o1 v1 => own_rmCB_2 l Z a0 hw [] vb kv ((34 : Int32).toInt8.toInt32) ((34 : Int32).toInt8.toInt32) (0 : Int32) (0 : Int32) (0 : Int32) (0 : Int32) (0 : Int32) (0 : Int32) (0 : Int32) (0 : Int32) (0 : Int32) (0 : Int32) (0 : Int32) (0 : Int32) (0 : Int32) (0 : Int32) h1 n0 z1 o1 v1) O2 P5) hZ (own_w hw 144 rfl) (own_w hw 58 rfl) (by decide) (by decide)) q279a q279c (g := (mkF m 76 #[rv tk, .unset] [(.ref b273)])) rfl (by rw [hml]; rfl) (argsL := []) (rest := []) (lenOf own_pd20 rfl) rfl (by show 2 * 0 + _ ≤ _; exact Nat.le_of_eq rfl) (hb hby own_d525) rfl rfl (kc := 4) (ks := 40) rfl rfl (by decide) (by decide)
    obtain ⟨rs, ts, ks, rfl, N279q, K279, SGr⟩ := hQ279
    have N279 := Fr.app N278 N279q
    have SF_vb := Safe.keep K279 sf0 CH SF_vb
    have CHR := CHR.trans (CHr.keep K279 sf0 CH)
    have CH := CH.keep K279 sf0
    have OL := OL.keep K279 all0
    have KP := KP.trans K279 all0
    have hk1 := Nat.le_trans hk1 K279.1
    have Fk := Fk.keep K279 nin0
    have Ft := Ft.keep K279 nin0
    have Et := Et.keep K279
    have Fv := Fv.keep K279 nin0
    have Fc := Fc.keep K279 nin0
    have Vt := Vt.keep K279 nin0
    have E_b273 := E_b273.keep K279
    have BV := BV.keep K279 nin0
    have BC := BC.keep K279 nin0
    have BN := BN.keep K279 nin0
    have BA := BA.keep K279 nin0
    refine own_via (mkF m 79 #[rv tk, .unset] [(.ref rs)]) st279 ?_
    refine own_asn 80 #[rv tk, rv rs] X279 hx (hb hby own_d526) rfl rfl rfl ?_
    refine own_aln 81 X279 hx (hb hby own_d498) rfl rfl rfl ?_
    exact own_retAH (s := s) (vm₁ := s.vm) X279 hS (by exact hk1) hZ hEW (by exact CH) (by rw [hh]; exact CHR) hx Bd.returns rfl hlk (hb hby own_d499) rfl (by decide) (by decide) (by exact ⟨rs, ts, ks, rfl, N279, KP, by rw [own_qt_0]; exact ⟨SGr.1, SGr.2.1, SGr.2.2.1, SGr.2.2.2, (own_allS (show own_C8 34 from ⟨by decide, by decide⟩) (own_allS (show own_C8 34 from ⟨by decide, by decide⟩) own_all0)), Nat.le_of_ble_eq_true rfl⟩⟩)
  · subst q
    rw [own_c2_1] at St
    have Et : Exa Z h0 tx "java/lang/String" := St.1
    have Fv : Fld Z h0 tx "java/lang/String" "value" "[B" (.ref tt) := St.2.1
    have Fc : Fld Z h0 tx "java/lang/String" "coder" "B" (.int (0 : Int32)) := St.2.2.1
    have Vt : Arv Z h0 tt kt .byte (1 : Int32) [(.int (x0.toInt8.toInt32))] (.int (0 : Int32)) := St.2.2.2.1
    refine own_aln 1 X0 hx (hb hby own_d491) rfl rfl rfl ?_
    obtain ⟨T280, X280, e280, st280⟩ := getF X0 hx hZ hown (host := "") (Or.inl (own_w hw 37 rfl)) Via.refl e0 Fk (g := (mkF m 1 #[rv tk, .unset] [(.ref tk)])) rfl rfl (hb hby own_d492)
    refine own_to (mkF m 4 #[rv tk, .unset] [(.ref ak)]) st280 ?_
    obtain ⟨T281, X281, e281, st281⟩ := getS2 X280 hx hZ hown (host := "") (Or.inl (own_w hw 52 rfl)) Via.refl e280 (SaE.ext OL.2) (g := (mkF m 4 #[rv tk, .unset] [(.ref ak)])) rfl (hb hby own_d493)
    refine own_to (mkF m 7 #[rv tk, .unset] [(.ref aE), (.ref ak)]) st281 ?_
    refine own_to (T' := T281) (mkF m 16 #[rv tk, .unset] []) (fun _ k => Jvm.RoadKit.acmp (g := (mkF m 7 #[rv tk, .unset] [(.ref aE), (.ref ak)])) X281 hx rfl rfl rfl (pc0 := 7) (pc' := 16) (same := false) rfl (hb hby own_d494) rfl (decide_eq_false fun q => ne_ak_aE (Value.ref.inj q)) (by decide) (by decide) k) ?_
    refine own_aln 17 X281 hx (hb hby own_d500) rfl rfl rfl ?_
    obtain ⟨T282, X282, e282, st282⟩ := getF X281 hx hZ hown (host := "") (Or.inl (own_w hw 37 rfl)) Via.refl e281 Fk (g := (mkF m 17 #[rv tk, .unset] [(.ref tk)])) rfl rfl (hb hby own_d501)
    refine own_to (mkF m 20 #[rv tk, .unset] [(.ref ak)]) st282 ?_
    obtain ⟨T283, X283, e283, st283⟩ := getS2 X282 hx hZ hown (host := "") (Or.inl (own_w hw 54 rfl)) Via.refl e282 (SaS.ext OL.2) (g := (mkF m 20 #[rv tk, .unset] [(.ref ak)])) rfl (hb hby own_d502)
    refine own_to (mkF m 23 #[rv tk, .unset] [(.ref aS), (.ref ak)]) st283 ?_
    refine own_to (T' := T283) (mkF m 52 #[rv tk, .unset] []) (fun _ k => Jvm.RoadKit.acmp (g := (mkF m 23 #[rv tk, .unset] [(.ref aS), (.ref ak)])) X283 hx rfl rfl rfl (pc0 := 23) (pc' := 52) (same := false) rfl (hb hby own_d503) rfl (decide_eq_false fun q => ne_ak_aS (Value.ref.inj q)) (by decide) (by decide) k) ?_
    obtain ⟨T284, h284, X284, e284, E284, A284, D284, -, st284⟩ := newO X283 hx hZ hown (own_w hw 56 rfl) (own_w hw 57 rfl) (own_w hw 58 rfl) e283 (g := (mkF m 52 #[rv tk, .unset] [])) rfl (hb hby own_d515) (by decide) (by decide)
    obtain ⟨b284, g284⟩ : ∃ z, z = h0.size := ⟨_, rfl⟩
    rw [← g284] at A284 D284 st284
    have sz_b284 : h0.size ≤ b284 := Nat.le_trans KP.1 (Nat.le_of_eq g284.symm)
    have ge_b284 : n0 ≤ b284 := Nat.le_trans Z0 sz_b284
    have ne_tk_b284 : tk ≠ b284 := Nat.ne_of_lt (Nat.lt_of_lt_of_le Fk.lt (Nat.le_of_eq g284.symm))
    have ne_tx_b284 : tx ≠ b284 := Nat.ne_of_lt (Nat.lt_of_lt_of_le Et.lt (Nat.le_of_eq g284.symm))
    have ne_tt_b284 : tt ≠ b284 := Nat.ne_of_lt (Nat.lt_of_lt_of_le Vt.lt (Nat.le_of_eq g284.symm))
    have CHR := CHR.trans (CHr.ext E284 CH)
    have CH := CH.ext E284
    have OL := OL.ext E284
    have KP := KP.ext E284
    have hk1 := Nat.le_trans hk1 E284.1
    have Fk := Fk.ext E284
    have Ft := Ft.ext E284
    have Et := Et.ext E284
    have Fv := Fv.ext E284
    have Fc := Fc.ext E284
    have Vt := Vt.ext E284
    have E_b284 : Exa Z h284 b284 "java/lang/StringBuilder" := A284
    have F_value_b284 : Fld Z h284 b284 "java/lang/AbstractStringBuilder" "value" "[B" .null := D284 (Or.inl (own_w hw 71 rfl)) (ty := (.array .byte)) (by decide)
    have F_coder_b284 : Fld Z h284 b284 "java/lang/AbstractStringBuilder" "coder" "B" (.int (0 : Int32)) := D284 (Or.inl (own_w hw 73 rfl)) (ty := .byte) (by decide)
    have F_count_b284 : Fld Z h284 b284 "java/lang/AbstractStringBuilder" "count" "I" (.int (0 : Int32)) := D284 (Or.inl (own_w hw 85 rfl)) (ty := .int) (by decide)
    refine own_to (mkF m 55 #[rv tk, .unset] [(.ref b284)]) st284 ?_
    refine own_dup 56 X284 hx (hb hby own_d516) rfl rfl ?_
    have KP0 := KP
    have lt0_tk := Fk.lt
    have lt0_tx := Et.lt
    have lt0_tt := Vt.lt
    have lt0_b284 := E_b284.lt
    obtain ⟨_, T285, Lc285, X285, hQ285, st285⟩ := own_special X284 hx (y := (⟨"java/lang/StringBuilder", "<init>", "()V"⟩ : MethodName)) rfl hown (mvT hZ (own_w hw 59 rfl)) (mvT hZ (own_w hw 60 rfl)) (mvT hZ (own_w hw 61 rfl)) (by decide) (backOf (W := 1) (own_rmSI l Z a0 hw [] b284 G1 h284 n0 (Nat.le_trans Z0 KP.1) OL ge_b284 E_b284 F_value_b284 F_coder_b284 F_count_b284 O2 P5) hZ (own_w hw 61 rfl) (own_w hw 58 rfl) (by decide) (by decide)) (g := (mkF m 56 #[rv tk, .unset] [(.ref b284), (.ref b284)])) rfl (by rw [hml]; rfl) (a := b284) (argsL := []) (rest := [(.ref b284)]) (lenOf own_pd18 rfl) rfl (by show 2 * 0 + _ ≤ _; exact Nat.le_of_eq rfl) (hb hby own_d517) rfl e284 (kc := 2) (ks := 20) rfl rfl (by decide) (by decide)
    obtain ⟨rfl, N285q, K285, vb, kv, ge_vb, sz0_vb, BV, BC, BN, BA⟩ := hQ285
    have N285 := Fr.app N0 N285q
    have SFk : ∀ x ∈ [b284], Safe Z own_EL s.vm h284 x := (sfS (Safe.exa hZ.alike E_b284 (by decide) (by decide)) sf0)
    have SF_vb : Safe Z own_EL s.vm T285.heap vb := Safe.keep K285 SFk CH (Safe.new sz0_vb)
    have CHR := CHR.trans (CHr.keep K285 SFk CH)
    have CH := CH.keep K285 SFk
    have OL := OL.keep K285 (allS ge_b284 all0)
    have KP := KP.trans K285 (allS (Or.inr sz_b284) all0)
    have hk1 := Nat.le_trans hk1 K285.1
    have Fk := Fk.keep K285 (ninS ne_tk_b284 nin0)
    have Ft := Ft.keep K285 (ninS ne_tk_b284 nin0)
    have Et := Et.keep K285
    have Fv := Fv.keep K285 (ninS ne_tx_b284 nin0)
    have Fc := Fc.keep K285 (ninS ne_tx_b284 nin0)
    have Vt := Vt.keep K285 (ninS ne_tt_b284 nin0)
    have E_b284 := E_b284.keep K285
    refine own_via (mkF m 59 #[rv tk, .unset] [(.ref b284)]) st285 ?_
    have sz_vb : h0.size ≤ vb := Nat.le_trans KP0.1 sz0_vb
    have ne_tk_vb : tk ≠ vb := Nat.ne_of_lt (Nat.lt_of_lt_of_le lt0_tk sz0_vb)
    have ne_tx_vb : tx ≠ vb := Nat.ne_of_lt (Nat.lt_of_lt_of_le lt0_tx sz0_vb)
    have ne_tt_vb : tt ≠ vb := Nat.ne_of_lt (Nat.lt_of_lt_of_le lt0_tt sz0_vb)
    have ne_b284_vb : b284 ≠ vb := Nat.ne_of_lt (Nat.lt_of_lt_of_le lt0_b284 sz0_vb)
    refine own_bi 61 34 X285 hx (hb hby own_d518) rfl rfl ?_
    obtain ⟨cq286, kq286, q286a, q286b, q286c⟩ := isOf hZ rfl E_b284
    obtain ⟨_, T286, Lc286, X286, hQ286, st286⟩ := own_virtual X285 hx (y := (⟨"java/lang/StringBuilder", "append", "(C)Ljava/lang/StringBuilder;"⟩ : MethodName)) (z := (⟨"java/lang/StringBuilder", "append", "(C)Ljava/lang/StringBuilder;"⟩ : MethodName)) hown (mvT hZ (own_w hw 74 rfl)) (mvT hZ (own_w hw 75 rfl)) (notFace_of_selects (args := #[]) (mvT hZ (own_w hw 77 rfl))) (mvT hZ (own_w hw 77 rfl)) (mvT hZ (own_w hw 76 rfl)) (by decide) (backOf (W := 0) (own_rmSC l Z a0 hw [] b284 (1 : Int32) vb kv [(.int ((34 : Int32).toInt8.toInt32)), (.int (0 : Int32)), (.int (0 : Int32)), (.int (0 : Int32)), (.int (0 : Int32)), (.int (0 : Int32)), (.int (0 : Int32)), (.int (0 : Int32)), (.int (0 : Int32)), (.int (0 : Int32)), (.int (0 : Int32)), (.int (0 : Int32)), (.int (0 : Int32)), (.int (0 : Int32)), (.int (0 : Int32)), (.int (0 : Int32))] T285.heap n0 (Nat.le_trans Z0 KP.1) OL ge_b284 ge_vb E_b284 (own_rmAC_0 l Z a0 hw [] G1 b284 vb kv (0 : Int32) (0 : Int32) (0 : Int32) (0 : Int32) (0 : Int32) (0 : Int32) (0 : Int32) (0 : Int32) (0 : Int32) (0 : Int32) (0 : Int32) (0 : Int32) (0 : Int32) (0 : Int32) (0 : Int32) (0 : Int32) T285.heap n0 (Nat.le_trans Z0 KP.1) OL ge_b284 ge_vb ne_b284_vb E_b284 BV BC BN BA O2 P5)) hZ (own_w hw 78 rfl) (own_w hw 58 rfl) (by decide) (by decide)) q286a q286c (g := (mkF m 61 #[rv tk, .unset] [(.int (34 : Int32)), (.ref b284)])) rfl (by rw [hml]; rfl) (argsL := [(.int (34 : Int32))]) (rest := []) (lenOf own_pd21 rfl) rfl (by show 2 * 0 + _ ≤ _; exact Nat.le_of_eq rfl) (hb hby own_d519) rfl rfl (kc := 2) (ks := 20) rfl rfl (by decide) (by decide)
    obtain ⟨rfl, N286q, K286, _, BV, BC, BN, BA⟩ := hQ286
    have N286 := Fr.app N285 N286q
    have SFk : ∀ x ∈ [b284, vb], Safe Z own_EL s.vm T285.heap x := (sfS (Safe.exa hZ.alike E_b284 (by decide) (by decide)) (sfS SF_vb sf0))
    have SF_vb := Safe.keep K286 SFk CH SF_vb
    have CHR := CHR.trans (CHr.keep K286 SFk CH)
    have CH := CH.keep K286 SFk
    have OL := OL.keep K286 (allS ge_b284 (allS ge_vb all0))
    have KP := KP.trans K286 (allS (Or.inr sz_b284) (allS (Or.inr sz_vb) all0))
    have hk1 := Nat.le_trans hk1 K286.1
    have Fk := Fk.keep K286 (ninS ne_tk_b284 (ninS ne_tk_vb nin0))
    have Ft := Ft.keep K286 (ninS ne_tk_b284 (ninS ne_tk_vb nin0))
    have Et := Et.keep K286
    have Fv := Fv.keep K286 (ninS ne_tx_b284 (ninS ne_tx_vb nin0))
    have Fc := Fc.keep K286 (ninS ne_tx_b284 (ninS ne_tx_vb nin0))
    have Vt := Vt.keep K286 (ninS ne_tt_b284 (ninS ne_tt_vb nin0))
    have E_b284 := E_b284.keep K286
    refine own_via (mkF m 64 #[rv tk, .unset] [(.ref b284)]) st286 ?_
    refine own_aln 65 X286 hx (hb hby own_d520) rfl rfl rfl ?_
    obtain ⟨T287, X287, e287, st287⟩ := getF X286 hx hZ hown (host := "") (Or.inl (own_w hw 39 rfl)) Via.refl rfl Ft (g := (mkF m 65 #[rv tk, .unset] [(.ref tk), (.ref b284)])) rfl rfl (hb hby own_d521)
    refine own_to (mkF m 68 #[rv tk, .unset] [(.ref tx), (.ref b284)]) st287 ?_
    obtain ⟨cq288, kq288, q288a, q288b, q288c⟩ := isOf hZ e287 E_b284
    obtain ⟨_, T288, Lc288, X288, hQ288, st288⟩ := own_virtual X287 hx (y := (⟨"java/lang/StringBuilder", "append", "(Ljava/lang/String;)Ljava/lang/StringBuilder;"⟩ : MethodName)) (z := (⟨"java/lang/StringBuilder", "append", "(Ljava/lang/String;)Ljava/lang/StringBuilder;"⟩ : MethodName)) hown (mvT hZ (own_w hw 100 rfl)) (mvT hZ (own_w hw 101 rfl)) (notFace_of_selects (args := #[]) (mvT hZ (own_w hw 103 rfl))) (mvT hZ (own_w hw 103 rfl)) (mvT hZ (own_w hw 102 rfl)) (by decide) (backOf (W := 0) (own_rmSS l Z a0 hw [] G1 b284 tx tt kt (1 : Int32) (1 : Int32) [(.int (x0.toInt8.toInt32))] [(.int ((34 : Int32).toInt8.toInt32)), (.int (0 : Int32)), (.int (0 : Int32)), (.int (0 : Int32)), (.int (0 : Int32)), (.int (0 : Int32)), (.int (0 : Int32)), (.int (0 : Int32)), (.int (0 : Int32)), (.int (0 : Int32)), (.int (0 : Int32)), (.int (0 : Int32)), (.int (0 : Int32)), (.int (0 : Int32)), (.int (0 : Int32)), (.int (0 : Int32))] vb kv [(.int ((34 : Int32).toInt8.toInt32)), (.int (x0.toInt8.toInt32)), (.int (0 : Int32)), (.int (0 : Int32)), (.int (0 : Int32)), (.int (0 : Int32)), (.int (0 : Int32)), (.int (0 : Int32)), (.int (0 : Int32)), (.int (0 : Int32)), (.int (0 : Int32)), (.int (0 : Int32)), (.int (0 : Int32)), (.int (0 : Int32)), (.int (0 : Int32)), (.int (0 : Int32))] T286.heap n0 (Nat.le_trans Z0 KP.1) OL ge_b284 E_b284 BV BC BN BA Et Fv Fc Vt ge_vb ne_b284_vb ne_tx_vb (by decide) O2 P5 (own_rmGB_1_1 l Z a0 hw [] G1 vb kv tx tt kt ((34 : Int32).toInt8.toInt32) (0 : Int32) (0 : Int32) (0 : Int32) (0 : Int32) (0 : Int32) (0 : Int32) (0 : Int32) (0 : Int32) (0 : Int32) (0 : Int32) (0 : Int32) (0 : Int32) (0 : Int32) (0 : Int32) (0 : Int32) (x0.toInt8.toInt32) T286.heap n0 (Nat.le_trans Z0 KP.1) OL ge_vb ne_tx_vb ne_tt_vb BA Et Fv Fc Vt O2 P5)) hZ (own_w hw 104 rfl) (own_w hw 58 rfl) (by decide) (by decide)) q288a q288c (g := (mkF m 68 #[rv tk, .unset] [(.ref tx), (.ref b284)])) rfl (by rw [hml]; rfl) (argsL := [(.ref tx)]) (rest := []) (lenOf own_pd19 rfl) rfl (by show 2 * 0 + _ ≤ _; exact Nat.le_of_eq rfl) (hb hby own_d522) rfl e287 (kc := 2) (ks := 20) rfl rfl (by decide) (by decide)
    obtain ⟨rfl, N288q, K288, _, BV, BC, BN, BA⟩ := hQ288
    have N288 := Fr.app N286 N288q
    have SFk : ∀ x ∈ [b284, vb], Safe Z own_EL s.vm T286.heap x := (sfS (Safe.exa hZ.alike E_b284 (by decide) (by decide)) (sfS SF_vb sf0))
    have SF_vb := Safe.keep K288 SFk CH SF_vb
    have CHR := CHR.trans (CHr.keep K288 SFk CH)
    have CH := CH.keep K288 SFk
    have OL := OL.keep K288 (allS ge_b284 (allS ge_vb all0))
    have KP := KP.trans K288 (allS (Or.inr sz_b284) (allS (Or.inr sz_vb) all0))
    have hk1 := Nat.le_trans hk1 K288.1
    have Fk := Fk.keep K288 (ninS ne_tk_b284 (ninS ne_tk_vb nin0))
    have Ft := Ft.keep K288 (ninS ne_tk_b284 (ninS ne_tk_vb nin0))
    have Et := Et.keep K288
    have Fv := Fv.keep K288 (ninS ne_tx_b284 (ninS ne_tx_vb nin0))
    have Fc := Fc.keep K288 (ninS ne_tx_b284 (ninS ne_tx_vb nin0))
    have Vt := Vt.keep K288 (ninS ne_tt_b284 (ninS ne_tt_vb nin0))
    have E_b284 := E_b284.keep K288
    refine own_via (mkF m 71 #[rv tk, .unset] [(.ref b284)]) st288 ?_
    refine own_bi 73 34 X288 hx (hb hby own_d523) rfl rfl ?_
    obtain ⟨cq289, kq289, q289a, q289b, q289c⟩ := isOf hZ rfl E_b284
    obtain ⟨_, T289, Lc289, X289, hQ289, st289⟩ := own_virtual X288 hx (y := (⟨"java/lang/StringBuilder", "append", "(C)Ljava/lang/StringBuilder;"⟩ : MethodName)) (z := (⟨"java/lang/StringBuilder", "append", "(C)Ljava/lang/StringBuilder;"⟩ : MethodName)) hown (mvT hZ (own_w hw 74 rfl)) (mvT hZ (own_w hw 75 rfl)) (notFace_of_selects (args := #[]) (mvT hZ (own_w hw 77 rfl))) (mvT hZ (own_w hw 77 rfl)) (mvT hZ (own_w hw 76 rfl)) (by decide) (backOf (W := 0) (own_rmSC l Z a0 hw [] b284 (3 : Int32) vb kv [(.int ((34 : Int32).toInt8.toInt32)), (.int (x0.toInt8.toInt32)), (.int ((34 : Int32).toInt8.toInt32)), (.int (0 : Int32)), (.int (0 : Int32)), (.int (0 : Int32)), (.int (0 : Int32)), (.int (0 : Int32)), (.int (0 : Int32)), (.int (0 : Int32)), (.int (0 : Int32)), (.int (0 : Int32)), (.int (0 : Int32)), (.int (0 : Int32)), (.int (0 : Int32)), (.int (0 : Int32))] T288.heap n0 (Nat.le_trans Z0 KP.1) OL ge_b284 ge_vb E_b284 (own_rmAC_2 l Z a0 hw [] G1 b284 vb kv ((34 : Int32).toInt8.toInt32) (x0.toInt8.toInt32) (0 : Int32) (0 : Int32) (0 : Int32) (0 : Int32) (0 : Int32) (0 : Int32) (0 : Int32) (0 : Int32) (0 : Int32) (0 : Int32) (0 : Int32) (0 : Int32) (0 : Int32) (0 : Int32) T288.heap n0 (Nat.le_trans Z0 KP.1) OL ge_b284 ge_vb ne_b284_vb E_b284 BV BC BN BA O2 P5)) hZ (own_w hw 78 rfl) (own_w hw 58 rfl) (by decide) (by decide)) q289a q289c (g := (mkF m 73 #[rv tk, .unset] [(.int (34 : Int32)), (.ref b284)])) rfl (by rw [hml]; rfl) (argsL := [(.int (34 : Int32))]) (rest := []) (lenOf own_pd21 rfl) rfl (by show 2 * 0 + _ ≤ _; exact Nat.le_of_eq rfl) (hb hby own_d524) rfl rfl (kc := 2) (ks := 20) rfl rfl (by decide) (by decide)
    obtain ⟨rfl, N289q, K289, _, BV, BC, BN, BA⟩ := hQ289
    have N289 := Fr.app N288 N289q
    have SFk : ∀ x ∈ [b284, vb], Safe Z own_EL s.vm T288.heap x := (sfS (Safe.exa hZ.alike E_b284 (by decide) (by decide)) (sfS SF_vb sf0))
    have SF_vb := Safe.keep K289 SFk CH SF_vb
    have CHR := CHR.trans (CHr.keep K289 SFk CH)
    have CH := CH.keep K289 SFk
    have OL := OL.keep K289 (allS ge_b284 (allS ge_vb all0))
    have KP := KP.trans K289 (allS (Or.inr sz_b284) (allS (Or.inr sz_vb) all0))
    have hk1 := Nat.le_trans hk1 K289.1
    have Fk := Fk.keep K289 (ninS ne_tk_b284 (ninS ne_tk_vb nin0))
    have Ft := Ft.keep K289 (ninS ne_tk_b284 (ninS ne_tk_vb nin0))
    have Et := Et.keep K289
    have Fv := Fv.keep K289 (ninS ne_tx_b284 (ninS ne_tx_vb nin0))
    have Fc := Fc.keep K289 (ninS ne_tx_b284 (ninS ne_tx_vb nin0))
    have Vt := Vt.keep K289 (ninS ne_tt_b284 (ninS ne_tt_vb nin0))
    have E_b284 := E_b284.keep K289
    refine own_via (mkF m 76 #[rv tk, .unset] [(.ref b284)]) st289 ?_
    obtain ⟨cq290, kq290, q290a, q290b, q290c⟩ := isOf hZ rfl E_b284
    obtain ⟨_, T290, Lc290, X290, hQ290, st290⟩ := own_virtual X289 hx (y := (⟨"java/lang/StringBuilder", "toString", "()Ljava/lang/String;"⟩ : MethodName)) (z := (⟨"java/lang/StringBuilder", "toString", "()Ljava/lang/String;"⟩ : MethodName)) hown (mvT hZ (own_w hw 140 rfl)) (mvT hZ (own_w hw 141 rfl)) (notFace_of_selects (args := #[]) (mvT hZ (own_w hw 143 rfl))) (mvT hZ (own_w hw 143 rfl)) (mvT hZ (own_w hw 142 rfl)) (by decide) (backOf (W := 0) (own_rmTS l Z a0 hw [] G1 b284 (3 : Int32) [(.int ((34 : Int32).toInt8.toInt32)), (.int (x0.toInt8.toInt32)), (.int ((34 : Int32).toInt8.toInt32)), (.int (0 : Int32)), (.int (0 : Int32)), (.int (0 : Int32)), (.int (0 : Int32)), (.int (0 : Int32)), (.int (0 : Int32)), (.int (0 : Int32)), (.int (0 : Int32)), (.int (0 : Int32)), (.int (0 : Int32)), (.int (0 : Int32)), (.int (0 : Int32)), (.int (0 : Int32))] vb kv [(.int ((34 : Int32).toInt8.toInt32)), (.int (x0.toInt8.toInt32)), (.int ((34 : Int32).toInt8.toInt32))] T289.heap n0 (Nat.le_trans Z0 KP.1) OL E_b284 BV BC BN BA (by decide) (fun h1 z1 o1 v1 => own_rmCB_3 l Z a0 hw [] vb kv ((34 : Int32).toInt8.toInt32) (x0.toInt8.toInt32) ((34 : Int32).toInt8.toInt32) (0 : Int32) (0 : Int32) (0 : Int32) (0 : Int32) (0 : Int32) (0 : Int32) (0 : Int32) (0 : Int32) (0 : Int32) (0 : Int32) (0 : Int32) (0 : Int32) (0 : Int32) h1 n0 z1 o1 v1) O2 P5) hZ (own_w hw 144 rfl) (own_w hw 58 rfl) (by decide) (by decide)) q290a q290c (g := (mkF m 76 #[rv tk, .unset] [(.ref b284)])) rfl (by rw [hml]; rfl) (argsL := []) (rest := []) (lenOf own_pd20 rfl) rfl (by show 2 * 0 + _ ≤ _; exact Nat.le_of_eq rfl) (hb hby own_d525) rfl rfl (kc := 4) (ks := 40) rfl rfl (by decide) (by decide)
    obtain ⟨rs, ts, ks, rfl, N290q, K290, SGr⟩ := hQ290
    have N290 := Fr.app N289 N290q
    have SF_vb := Safe.keep K290 sf0 CH SF_vb
    have CHR := CHR.trans (CHr.keep K290 sf0 CH)
    have CH := CH.keep K290 sf0
    have OL := OL.keep K290 all0
    have KP := KP.trans K290 all0
    have hk1 := Nat.le_trans hk1 K290.1
    have Fk := Fk.keep K290 nin0
    have Ft := Ft.keep K290 nin0
    have Et := Et.keep K290
    have Fv := Fv.keep K290 nin0
    have Fc := Fc.keep K290 nin0
    have Vt := Vt.keep K290 nin0
    have E_b284 := E_b284.keep K290
    have BV := BV.keep K290 nin0
    have BC := BC.keep K290 nin0
    have BN := BN.keep K290 nin0
    have BA := BA.keep K290 nin0
    refine own_via (mkF m 79 #[rv tk, .unset] [(.ref rs)]) st290 ?_
    refine own_asn 80 #[rv tk, rv rs] X290 hx (hb hby own_d526) rfl rfl rfl ?_
    refine own_aln 81 X290 hx (hb hby own_d498) rfl rfl rfl ?_
    exact own_retAH (s := s) (vm₁ := s.vm) X290 hS (by exact hk1) hZ hEW (by exact CH) (by rw [hh]; exact CHR) hx Bd.returns rfl hlk (hb hby own_d499) rfl (by decide) (by decide) (by exact ⟨rs, ts, ks, rfl, N290, KP, by rw [own_qt_1]; exact ⟨SGr.1, SGr.2.1, SGr.2.2.1, SGr.2.2.2, (own_allS (show own_C8 34 from ⟨by decide, by decide⟩) (own_allS c8_x0 (own_allS (show own_C8 34 from ⟨by decide, by decide⟩) own_all0))), Nat.le_of_ble_eq_true rfl⟩⟩)
  · subst q
    rw [own_c2_2] at St
    have Et : Exa Z h0 tx "java/lang/String" := St.1
    have Fv : Fld Z h0 tx "java/lang/String" "value" "[B" (.ref tt) := St.2.1
    have Fc : Fld Z h0 tx "java/lang/String" "coder" "B" (.int (0 : Int32)) := St.2.2.1
    have Vt : Arv Z h0 tt kt .byte (2 : Int32) [(.int (x0.toInt8.toInt32)), (.int (x1.toInt8.toInt32))] (.int (0 : Int32)) := St.2.2.2.1
    refine own_aln 1 X0 hx (hb hby own_d491) rfl rfl rfl ?_
    obtain ⟨T291, X291, e291, st291⟩ := getF X0 hx hZ hown (host := "") (Or.inl (own_w hw 37 rfl)) Via.refl e0 Fk (g := (mkF m 1 #[rv tk, .unset] [(.ref tk)])) rfl rfl (hb hby own_d492)
    refine own_to (mkF m 4 #[rv tk, .unset] [(.ref ak)]) st291 ?_
    obtain ⟨T292, X292, e292, st292⟩ := getS2 X291 hx hZ hown (host := "") (Or.inl (own_w hw 52 rfl)) Via.refl e291 (SaE.ext OL.2) (g := (mkF m 4 #[rv tk, .unset] [(.ref ak)])) rfl (hb hby own_d493)
    refine own_to (mkF m 7 #[rv tk, .unset] [(.ref aE), (.ref ak)]) st292 ?_
    refine own_to (T' := T292) (mkF m 16 #[rv tk, .unset] []) (fun _ k => Jvm.RoadKit.acmp (g := (mkF m 7 #[rv tk, .unset] [(.ref aE), (.ref ak)])) X292 hx rfl rfl rfl (pc0 := 7) (pc' := 16) (same := false) rfl (hb hby own_d494) rfl (decide_eq_false fun q => ne_ak_aE (Value.ref.inj q)) (by decide) (by decide) k) ?_
    refine own_aln 17 X292 hx (hb hby own_d500) rfl rfl rfl ?_
    obtain ⟨T293, X293, e293, st293⟩ := getF X292 hx hZ hown (host := "") (Or.inl (own_w hw 37 rfl)) Via.refl e292 Fk (g := (mkF m 17 #[rv tk, .unset] [(.ref tk)])) rfl rfl (hb hby own_d501)
    refine own_to (mkF m 20 #[rv tk, .unset] [(.ref ak)]) st293 ?_
    obtain ⟨T294, X294, e294, st294⟩ := getS2 X293 hx hZ hown (host := "") (Or.inl (own_w hw 54 rfl)) Via.refl e293 (SaS.ext OL.2) (g := (mkF m 20 #[rv tk, .unset] [(.ref ak)])) rfl (hb hby own_d502)
    refine own_to (mkF m 23 #[rv tk, .unset] [(.ref aS), (.ref ak)]) st294 ?_
    refine own_to (T' := T294) (mkF m 52 #[rv tk, .unset] []) (fun _ k => Jvm.RoadKit.acmp (g := (mkF m 23 #[rv tk, .unset] [(.ref aS), (.ref ak)])) X294 hx rfl rfl rfl (pc0 := 23) (pc' := 52) (same := false) rfl (hb hby own_d503) rfl (decide_eq_false fun q => ne_ak_aS (Value.ref.inj q)) (by decide) (by decide) k) ?_
    obtain ⟨T295, h295, X295, e295, E295, A295, D295, -, st295⟩ := newO X294 hx hZ hown (own_w hw 56 rfl) (own_w hw 57 rfl) (own_w hw 58 rfl) e294 (g := (mkF m 52 #[rv tk, .unset] [])) rfl (hb hby own_d515) (by decide) (by decide)
    obtain ⟨b295, g295⟩ : ∃ z, z = h0.size := ⟨_, rfl⟩
    rw [← g295] at A295 D295 st295
    have sz_b295 : h0.size ≤ b295 := Nat.le_trans KP.1 (Nat.le_of_eq g295.symm)
    have ge_b295 : n0 ≤ b295 := Nat.le_trans Z0 sz_b295
    have ne_tk_b295 : tk ≠ b295 := Nat.ne_of_lt (Nat.lt_of_lt_of_le Fk.lt (Nat.le_of_eq g295.symm))
    have ne_tx_b295 : tx ≠ b295 := Nat.ne_of_lt (Nat.lt_of_lt_of_le Et.lt (Nat.le_of_eq g295.symm))
    have ne_tt_b295 : tt ≠ b295 := Nat.ne_of_lt (Nat.lt_of_lt_of_le Vt.lt (Nat.le_of_eq g295.symm))
    have CHR := CHR.trans (CHr.ext E295 CH)
    have CH := CH.ext E295
    have OL := OL.ext E295
    have KP := KP.ext E295
    have hk1 := Nat.le_trans hk1 E295.1
    have Fk := Fk.ext E295
    have Ft := Ft.ext E295
    have Et := Et.ext E295
    have Fv := Fv.ext E295
    have Fc := Fc.ext E295
    have Vt := Vt.ext E295
    have E_b295 : Exa Z h295 b295 "java/lang/StringBuilder" := A295
    have F_value_b295 : Fld Z h295 b295 "java/lang/AbstractStringBuilder" "value" "[B" .null := D295 (Or.inl (own_w hw 71 rfl)) (ty := (.array .byte)) (by decide)
    have F_coder_b295 : Fld Z h295 b295 "java/lang/AbstractStringBuilder" "coder" "B" (.int (0 : Int32)) := D295 (Or.inl (own_w hw 73 rfl)) (ty := .byte) (by decide)
    have F_count_b295 : Fld Z h295 b295 "java/lang/AbstractStringBuilder" "count" "I" (.int (0 : Int32)) := D295 (Or.inl (own_w hw 85 rfl)) (ty := .int) (by decide)
    refine own_to (mkF m 55 #[rv tk, .unset] [(.ref b295)]) st295 ?_
    refine own_dup 56 X295 hx (hb hby own_d516) rfl rfl ?_
    have KP0 := KP
    have lt0_tk := Fk.lt
    have lt0_tx := Et.lt
    have lt0_tt := Vt.lt
    have lt0_b295 := E_b295.lt
    obtain ⟨_, T296, Lc296, X296, hQ296, st296⟩ := own_special X295 hx (y := (⟨"java/lang/StringBuilder", "<init>", "()V"⟩ : MethodName)) rfl hown (mvT hZ (own_w hw 59 rfl)) (mvT hZ (own_w hw 60 rfl)) (mvT hZ (own_w hw 61 rfl)) (by decide) (backOf (W := 1) (own_rmSI l Z a0 hw [] b295 G1 h295 n0 (Nat.le_trans Z0 KP.1) OL ge_b295 E_b295 F_value_b295 F_coder_b295 F_count_b295 O2 P5) hZ (own_w hw 61 rfl) (own_w hw 58 rfl) (by decide) (by decide)) (g := (mkF m 56 #[rv tk, .unset] [(.ref b295), (.ref b295)])) rfl (by rw [hml]; rfl) (a := b295) (argsL := []) (rest := [(.ref b295)]) (lenOf own_pd18 rfl) rfl (by show 2 * 0 + _ ≤ _; exact Nat.le_of_eq rfl) (hb hby own_d517) rfl e295 (kc := 2) (ks := 20) rfl rfl (by decide) (by decide)
    obtain ⟨rfl, N296q, K296, vb, kv, ge_vb, sz0_vb, BV, BC, BN, BA⟩ := hQ296
    have N296 := Fr.app N0 N296q
    have SFk : ∀ x ∈ [b295], Safe Z own_EL s.vm h295 x := (sfS (Safe.exa hZ.alike E_b295 (by decide) (by decide)) sf0)
    have SF_vb : Safe Z own_EL s.vm T296.heap vb := Safe.keep K296 SFk CH (Safe.new sz0_vb)
    have CHR := CHR.trans (CHr.keep K296 SFk CH)
    have CH := CH.keep K296 SFk
    have OL := OL.keep K296 (allS ge_b295 all0)
    have KP := KP.trans K296 (allS (Or.inr sz_b295) all0)
    have hk1 := Nat.le_trans hk1 K296.1
    have Fk := Fk.keep K296 (ninS ne_tk_b295 nin0)
    have Ft := Ft.keep K296 (ninS ne_tk_b295 nin0)
    have Et := Et.keep K296
    have Fv := Fv.keep K296 (ninS ne_tx_b295 nin0)
    have Fc := Fc.keep K296 (ninS ne_tx_b295 nin0)
    have Vt := Vt.keep K296 (ninS ne_tt_b295 nin0)
    have E_b295 := E_b295.keep K296
    refine own_via (mkF m 59 #[rv tk, .unset] [(.ref b295)]) st296 ?_
    have sz_vb : h0.size ≤ vb := Nat.le_trans KP0.1 sz0_vb
    have ne_tk_vb : tk ≠ vb := Nat.ne_of_lt (Nat.lt_of_lt_of_le lt0_tk sz0_vb)
    have ne_tx_vb : tx ≠ vb := Nat.ne_of_lt (Nat.lt_of_lt_of_le lt0_tx sz0_vb)
    have ne_tt_vb : tt ≠ vb := Nat.ne_of_lt (Nat.lt_of_lt_of_le lt0_tt sz0_vb)
    have ne_b295_vb : b295 ≠ vb := Nat.ne_of_lt (Nat.lt_of_lt_of_le lt0_b295 sz0_vb)
    refine own_bi 61 34 X296 hx (hb hby own_d518) rfl rfl ?_
    obtain ⟨cq297, kq297, q297a, q297b, q297c⟩ := isOf hZ rfl E_b295
    obtain ⟨_, T297, Lc297, X297, hQ297, st297⟩ := own_virtual X296 hx (y := (⟨"java/lang/StringBuilder", "append", "(C)Ljava/lang/StringBuilder;"⟩ : MethodName)) (z := (⟨"java/lang/StringBuilder", "append", "(C)Ljava/lang/StringBuilder;"⟩ : MethodName)) hown (mvT hZ (own_w hw 74 rfl)) (mvT hZ (own_w hw 75 rfl)) (notFace_of_selects (args := #[]) (mvT hZ (own_w hw 77 rfl))) (mvT hZ (own_w hw 77 rfl)) (mvT hZ (own_w hw 76 rfl)) (by decide) (backOf (W := 0) (own_rmSC l Z a0 hw [] b295 (1 : Int32) vb kv [(.int ((34 : Int32).toInt8.toInt32)), (.int (0 : Int32)), (.int (0 : Int32)), (.int (0 : Int32)), (.int (0 : Int32)), (.int (0 : Int32)), (.int (0 : Int32)), (.int (0 : Int32)), (.int (0 : Int32)), (.int (0 : Int32)), (.int (0 : Int32)), (.int (0 : Int32)), (.int (0 : Int32)), (.int (0 : Int32)), (.int (0 : Int32)), (.int (0 : Int32))] T296.heap n0 (Nat.le_trans Z0 KP.1) OL ge_b295 ge_vb E_b295 (own_rmAC_0 l Z a0 hw [] G1 b295 vb kv (0 : Int32) (0 : Int32) (0 : Int32) (0 : Int32) (0 : Int32) (0 : Int32) (0 : Int32) (0 : Int32) (0 : Int32) (0 : Int32) (0 : Int32) (0 : Int32) (0 : Int32) (0 : Int32) (0 : Int32) (0 : Int32) T296.heap n0 (Nat.le_trans Z0 KP.1) OL ge_b295 ge_vb ne_b295_vb E_b295 BV BC BN BA O2 P5)) hZ (own_w hw 78 rfl) (own_w hw 58 rfl) (by decide) (by decide)) q297a q297c (g := (mkF m 61 #[rv tk, .unset] [(.int (34 : Int32)), (.ref b295)])) rfl (by rw [hml]; rfl) (argsL := [(.int (34 : Int32))]) (rest := []) (lenOf own_pd21 rfl) rfl (by show 2 * 0 + _ ≤ _; exact Nat.le_of_eq rfl) (hb hby own_d519) rfl rfl (kc := 2) (ks := 20) rfl rfl (by decide) (by decide)
    obtain ⟨rfl, N297q, K297, _, BV, BC, BN, BA⟩ := hQ297
    have N297 := Fr.app N296 N297q
    have SFk : ∀ x ∈ [b295, vb], Safe Z own_EL s.vm T296.heap x := (sfS (Safe.exa hZ.alike E_b295 (by decide) (by decide)) (sfS SF_vb sf0))
    have SF_vb := Safe.keep K297 SFk CH SF_vb
    have CHR := CHR.trans (CHr.keep K297 SFk CH)
    have CH := CH.keep K297 SFk
    have OL := OL.keep K297 (allS ge_b295 (allS ge_vb all0))
    have KP := KP.trans K297 (allS (Or.inr sz_b295) (allS (Or.inr sz_vb) all0))
    have hk1 := Nat.le_trans hk1 K297.1
    have Fk := Fk.keep K297 (ninS ne_tk_b295 (ninS ne_tk_vb nin0))
    have Ft := Ft.keep K297 (ninS ne_tk_b295 (ninS ne_tk_vb nin0))
    have Et := Et.keep K297
    have Fv := Fv.keep K297 (ninS ne_tx_b295 (ninS ne_tx_vb nin0))
    have Fc := Fc.keep K297 (ninS ne_tx_b295 (ninS ne_tx_vb nin0))
    have Vt := Vt.keep K297 (ninS ne_tt_b295 (ninS ne_tt_vb nin0))
    have E_b295 := E_b295.keep K297
    refine own_via (mkF m 64 #[rv tk, .unset] [(.ref b295)]) st297 ?_
    refine own_aln 65 X297 hx (hb hby own_d520) rfl rfl rfl ?_
    obtain ⟨T298, X298, e298, st298⟩ := getF X297 hx hZ hown (host := "") (Or.inl (own_w hw 39 rfl)) Via.refl rfl Ft (g := (mkF m 65 #[rv tk, .unset] [(.ref tk), (.ref b295)])) rfl rfl (hb hby own_d521)
    refine own_to (mkF m 68 #[rv tk, .unset] [(.ref tx), (.ref b295)]) st298 ?_
    obtain ⟨cq299, kq299, q299a, q299b, q299c⟩ := isOf hZ e298 E_b295
    obtain ⟨_, T299, Lc299, X299, hQ299, st299⟩ := own_virtual X298 hx (y := (⟨"java/lang/StringBuilder", "append", "(Ljava/lang/String;)Ljava/lang/StringBuilder;"⟩ : MethodName)) (z := (⟨"java/lang/StringBuilder", "append", "(Ljava/lang/String;)Ljava/lang/StringBuilder;"⟩ : MethodName)) hown (mvT hZ (own_w hw 100 rfl)) (mvT hZ (own_w hw 101 rfl)) (notFace_of_selects (args := #[]) (mvT hZ (own_w hw 103 rfl))) (mvT hZ (own_w hw 103 rfl)) (mvT hZ (own_w hw 102 rfl)) (by decide) (backOf (W := 0) (own_rmSS l Z a0 hw [] G1 b295 tx tt kt (1 : Int32) (2 : Int32) [(.int (x0.toInt8.toInt32)), (.int (x1.toInt8.toInt32))] [(.int ((34 : Int32).toInt8.toInt32)), (.int (0 : Int32)), (.int (0 : Int32)), (.int (0 : Int32)), (.int (0 : Int32)), (.int (0 : Int32)), (.int (0 : Int32)), (.int (0 : Int32)), (.int (0 : Int32)), (.int (0 : Int32)), (.int (0 : Int32)), (.int (0 : Int32)), (.int (0 : Int32)), (.int (0 : Int32)), (.int (0 : Int32)), (.int (0 : Int32))] vb kv [(.int ((34 : Int32).toInt8.toInt32)), (.int (x0.toInt8.toInt32)), (.int (x1.toInt8.toInt32)), (.int (0 : Int32)), (.int (0 : Int32)), (.int (0 : Int32)), (.int (0 : Int32)), (.int (0 : Int32)), (.int (0 : Int32)), (.int (0 : Int32)), (.int (0 : Int32)), (.int (0 : Int32)), (.int (0 : Int32)), (.int (0 : Int32)), (.int (0 : Int32)), (.int (0 : Int32))] T297.heap n0 (Nat.le_trans Z0 KP.1) OL ge_b295 E_b295 BV BC BN BA Et Fv Fc Vt ge_vb ne_b295_vb ne_tx_vb (by decide) O2 P5 (own_rmGB_1_2 l Z a0 hw [] G1 vb kv tx tt kt ((34 : Int32).toInt8.toInt32) (0 : Int32) (0 : Int32) (0 : Int32) (0 : Int32) (0 : Int32) (0 : Int32) (0 : Int32) (0 : Int32) (0 : Int32) (0 : Int32) (0 : Int32) (0 : Int32) (0 : Int32) (0 : Int32) (0 : Int32) (x0.toInt8.toInt32) (x1.toInt8.toInt32) T297.heap n0 (Nat.le_trans Z0 KP.1) OL ge_vb ne_tx_vb ne_tt_vb BA Et Fv Fc Vt O2 P5)) hZ (own_w hw 104 rfl) (own_w hw 58 rfl) (by decide) (by decide)) q299a q299c (g := (mkF m 68 #[rv tk, .unset] [(.ref tx), (.ref b295)])) rfl (by rw [hml]; rfl) (argsL := [(.ref tx)]) (rest := []) (lenOf own_pd19 rfl) rfl (by show 2 * 0 + _ ≤ _; exact Nat.le_of_eq rfl) (hb hby own_d522) rfl e298 (kc := 2) (ks := 20) rfl rfl (by decide) (by decide)
    obtain ⟨rfl, N299q, K299, _, BV, BC, BN, BA⟩ := hQ299
    have N299 := Fr.app N297 N299q
    have SFk : ∀ x ∈ [b295, vb], Safe Z own_EL s.vm T297.heap x := (sfS (Safe.exa hZ.alike E_b295 (by decide) (by decide)) (sfS SF_vb sf0))
    have SF_vb := Safe.keep K299 SFk CH SF_vb
    have CHR := CHR.trans (CHr.keep K299 SFk CH)
    have CH := CH.keep K299 SFk
    have OL := OL.keep K299 (allS ge_b295 (allS ge_vb all0))
    have KP := KP.trans K299 (allS (Or.inr sz_b295) (allS (Or.inr sz_vb) all0))
    have hk1 := Nat.le_trans hk1 K299.1
    have Fk := Fk.keep K299 (ninS ne_tk_b295 (ninS ne_tk_vb nin0))
    have Ft := Ft.keep K299 (ninS ne_tk_b295 (ninS ne_tk_vb nin0))
    have Et := Et.keep K299
    have Fv := Fv.keep K299 (ninS ne_tx_b295 (ninS ne_tx_vb nin0))
    have Fc := Fc.keep K299 (ninS ne_tx_b295 (ninS ne_tx_vb nin0))
    have Vt := Vt.keep K299 (ninS ne_tt_b295 (ninS ne_tt_vb nin0))
    have E_b295 := E_b295.keep K299
    refine own_via (mkF m 71 #[rv tk, .unset] [(.ref b295)]) st299 ?_
    refine own_bi 73 34 X299 hx (hb hby own_d523) rfl rfl ?_
    obtain ⟨cq300, kq300, q300a, q300b, q300c⟩ := isOf hZ rfl E_b295
    obtain ⟨_, T300, Lc300, X300, hQ300, st300⟩ := own_virtual X299 hx (y := (⟨"java/lang/StringBuilder", "append", "(C)Ljava/lang/StringBuilder;"⟩ : MethodName)) (z := (⟨"java/lang/StringBuilder", "append", "(C)Ljava/lang/StringBuilder;"⟩ : MethodName)) hown (mvT hZ (own_w hw 74 rfl)) (mvT hZ (own_w hw 75 rfl)) (notFace_of_selects (args := #[]) (mvT hZ (own_w hw 77 rfl))) (mvT hZ (own_w hw 77 rfl)) (mvT hZ (own_w hw 76 rfl)) (by decide) (backOf (W := 0) (own_rmSC l Z a0 hw [] b295 (4 : Int32) vb kv [(.int ((34 : Int32).toInt8.toInt32)), (.int (x0.toInt8.toInt32)), (.int (x1.toInt8.toInt32)), (.int ((34 : Int32).toInt8.toInt32)), (.int (0 : Int32)), (.int (0 : Int32)), (.int (0 : Int32)), (.int (0 : Int32)), (.int (0 : Int32)), (.int (0 : Int32)), (.int (0 : Int32)), (.int (0 : Int32)), (.int (0 : Int32)), (.int (0 : Int32)), (.int (0 : Int32)), (.int (0 : Int32))] T299.heap n0 (Nat.le_trans Z0 KP.1) OL ge_b295 ge_vb E_b295 (own_rmAC_3 l Z a0 hw [] G1 b295 vb kv ((34 : Int32).toInt8.toInt32) (x0.toInt8.toInt32) (x1.toInt8.toInt32) (0 : Int32) (0 : Int32) (0 : Int32) (0 : Int32) (0 : Int32) (0 : Int32) (0 : Int32) (0 : Int32) (0 : Int32) (0 : Int32) (0 : Int32) (0 : Int32) (0 : Int32) T299.heap n0 (Nat.le_trans Z0 KP.1) OL ge_b295 ge_vb ne_b295_vb E_b295 BV BC BN BA O2 P5)) hZ (own_w hw 78 rfl) (own_w hw 58 rfl) (by decide) (by decide)) q300a q300c (g := (mkF m 73 #[rv tk, .unset] [(.int (34 : Int32)), (.ref b295)])) rfl (by rw [hml]; rfl) (argsL := [(.int (34 : Int32))]) (rest := []) (lenOf own_pd21 rfl) rfl (by show 2 * 0 + _ ≤ _; exact Nat.le_of_eq rfl) (hb hby own_d524) rfl rfl (kc := 2) (ks := 20) rfl rfl (by decide) (by decide)
    obtain ⟨rfl, N300q, K300, _, BV, BC, BN, BA⟩ := hQ300
    have N300 := Fr.app N299 N300q
    have SFk : ∀ x ∈ [b295, vb], Safe Z own_EL s.vm T299.heap x := (sfS (Safe.exa hZ.alike E_b295 (by decide) (by decide)) (sfS SF_vb sf0))
    have SF_vb := Safe.keep K300 SFk CH SF_vb
    have CHR := CHR.trans (CHr.keep K300 SFk CH)
    have CH := CH.keep K300 SFk
    have OL := OL.keep K300 (allS ge_b295 (allS ge_vb all0))
    have KP := KP.trans K300 (allS (Or.inr sz_b295) (allS (Or.inr sz_vb) all0))
    have hk1 := Nat.le_trans hk1 K300.1
    have Fk := Fk.keep K300 (ninS ne_tk_b295 (ninS ne_tk_vb nin0))
    have Ft := Ft.keep K300 (ninS ne_tk_b295 (ninS ne_tk_vb nin0))
    have Et := Et.keep K300
    have Fv := Fv.keep K300 (ninS ne_tx_b295 (ninS ne_tx_vb nin0))
    have Fc := Fc.keep K300 (ninS ne_tx_b295 (ninS ne_tx_vb nin0))
    have Vt := Vt.keep K300 (ninS ne_tt_b295 (ninS ne_tt_vb nin0))
    have E_b295 := E_b295.keep K300
    refine own_via (mkF m 76 #[rv tk, .unset] [(.ref b295)]) st300 ?_
    obtain ⟨cq301, kq301, q301a, q301b, q301c⟩ := isOf hZ rfl E_b295
    obtain ⟨_, T301, Lc301, X301, hQ301, st301⟩ := own_virtual X300 hx (y := (⟨"java/lang/StringBuilder", "toString", "()Ljava/lang/String;"⟩ : MethodName)) (z := (⟨"java/lang/StringBuilder", "toString", "()Ljava/lang/String;"⟩ : MethodName)) hown (mvT hZ (own_w hw 140 rfl)) (mvT hZ (own_w hw 141 rfl)) (notFace_of_selects (args := #[]) (mvT hZ (own_w hw 143 rfl))) (mvT hZ (own_w hw 143 rfl)) (mvT hZ (own_w hw 142 rfl)) (by decide) (backOf (W := 0) (own_rmTS l Z a0 hw [] G1 b295 (4 : Int32) [(.int ((34 : Int32).toInt8.toInt32)), (.int (x0.toInt8.toInt32)), (.int (x1.toInt8.toInt32)), (.int ((34 : Int32).toInt8.toInt32)), (.int (0 : Int32)), (.int (0 : Int32)), (.int (0 : Int32)), (.int (0 : Int32)), (.int (0 : Int32)), (.int (0 : Int32)), (.int (0 : Int32)), (.int (0 : Int32)), (.int (0 : Int32)), (.int (0 : Int32)), (.int (0 : Int32)), (.int (0 : Int32))] vb kv [(.int ((34 : Int32).toInt8.toInt32)), (.int (x0.toInt8.toInt32)), (.int (x1.toInt8.toInt32)), (.int ((34 : Int32).toInt8.toInt32))] T300.heap n0 (Nat.le_trans Z0 KP.1) OL E_b295 BV BC BN BA (by decide) (fun h1 z1 o1 v1 => own_rmCB_4 l Z a0 hw [] vb kv ((34 : Int32).toInt8.toInt32) (x0.toInt8.toInt32) (x1.toInt8.toInt32) ((34 : Int32).toInt8.toInt32) (0 : Int32) (0 : Int32) (0 : Int32) (0 : Int32) (0 : Int32) (0 : Int32) (0 : Int32) (0 : Int32) (0 : Int32) (0 : Int32) (0 : Int32) (0 : Int32) h1 n0 z1 o1 v1) O2 P5) hZ (own_w hw 144 rfl) (own_w hw 58 rfl) (by decide) (by decide)) q301a q301c (g := (mkF m 76 #[rv tk, .unset] [(.ref b295)])) rfl (by rw [hml]; rfl) (argsL := []) (rest := []) (lenOf own_pd20 rfl) rfl (by show 2 * 0 + _ ≤ _; exact Nat.le_of_eq rfl) (hb hby own_d525) rfl rfl (kc := 4) (ks := 40) rfl rfl (by decide) (by decide)
    obtain ⟨rs, ts, ks, rfl, N301q, K301, SGr⟩ := hQ301
    have N301 := Fr.app N300 N301q
    have SF_vb := Safe.keep K301 sf0 CH SF_vb
    have CHR := CHR.trans (CHr.keep K301 sf0 CH)
    have CH := CH.keep K301 sf0
    have OL := OL.keep K301 all0
    have KP := KP.trans K301 all0
    have hk1 := Nat.le_trans hk1 K301.1
    have Fk := Fk.keep K301 nin0
    have Ft := Ft.keep K301 nin0
    have Et := Et.keep K301
    have Fv := Fv.keep K301 nin0
    have Fc := Fc.keep K301 nin0
    have Vt := Vt.keep K301 nin0
    have E_b295 := E_b295.keep K301
    have BV := BV.keep K301 nin0
    have BC := BC.keep K301 nin0
    have BN := BN.keep K301 nin0
    have BA := BA.keep K301 nin0
    refine own_via (mkF m 79 #[rv tk, .unset] [(.ref rs)]) st301 ?_
    refine own_asn 80 #[rv tk, rv rs] X301 hx (hb hby own_d526) rfl rfl rfl ?_
    refine own_aln 81 X301 hx (hb hby own_d498) rfl rfl rfl ?_
    exact own_retAH (s := s) (vm₁ := s.vm) X301 hS (by exact hk1) hZ hEW (by exact CH) (by rw [hh]; exact CHR) hx Bd.returns rfl hlk (hb hby own_d499) rfl (by decide) (by decide) (by exact ⟨rs, ts, ks, rfl, N301, KP, by rw [own_qt_2]; exact ⟨SGr.1, SGr.2.1, SGr.2.2.1, SGr.2.2.2, (own_allS (show own_C8 34 from ⟨by decide, by decide⟩) (own_allS c8_x0 (own_allS c8_x1 (own_allS (show own_C8 34 from ⟨by decide, by decide⟩) own_all0)))), Nat.le_of_ble_eq_true rfl⟩⟩)
def own_Q0 (Z : State) (p0 p1 p2 p3 p4 G1 : Int32) (aI aS aN aY aE : Addr) (h0 : Heap) (n0 : Nat) (v : Option Value) (h : Heap) (L : List Loc) : Prop := v = some (.int 1) ∧ Fr n0 L
set_option maxRecDepth 65536 in
set_option maxHeartbeats 40000000 in
theorem own_rm0 (l : Launch) (Z : State) (a0 : Array Value) (hw : ∀ d ∈ tables_1, d.before a0 Z = true) (ws : List Jvm.Cond) (p0 p1 p2 p3 p4 G1 : Int32) (aI aS aN aY aE : Addr) (h0 : Heap) (n0 : Nat) (Z0 : n0 ≤ h0.size) (OL : Old Z n0 h0) (O2 : Sta Z Z.heap "java/lang/String" "COMPACT_STRINGS" "Z" (.int G1)) (P5 : ¬ (G1 = (0 : Int32))) (SaI : Sta Z Z.heap "com/example/ianus/ianus/Token$Kind" "IDENTIFIER" "Lcom/example/ianus/ianus/Token$Kind;" (.ref aI)) (SaS : Sta Z Z.heap "com/example/ianus/ianus/Token$Kind" "STRING" "Lcom/example/ianus/ianus/Token$Kind;" (.ref aS)) (SaN : Sta Z Z.heap "com/example/ianus/ianus/Token$Kind" "NUMBER" "Lcom/example/ianus/ianus/Token$Kind;" (.ref aN)) (SaY : Sta Z Z.heap "com/example/ianus/ianus/Token$Kind" "SYMBOL" "Lcom/example/ianus/ianus/Token$Kind;" (.ref aY)) (SaE : Sta Z Z.heap "com/example/ianus/ianus/Token$Kind" "END" "Lcom/example/ianus/ianus/Token$Kind;" (.ref aE)) (ne_aI_aE : aI ≠ aE) (ne_aI_aS : aI ≠ aS) (ne_aS_aE : aS ≠ aE) (ne_aN_aE : aN ≠ aE) (ne_aN_aS : aN ≠ aS) (ne_aY_aE : aY ≠ aE) (ne_aY_aS : aY ≠ aS) :
    MetFree l x (head1 (Jvm.Cond.code x code maxLocals ret :: ws) room_1) (fun aa_ U => aa_ = #[(.int p0), (.int p1), (.int p2), (.int p3), (.int p4)] ∧ Z.Warmed39 U.vm ∧ U.heap = h0 ∧ CHv Z own_EL U.vm h0) (fun _ _ _ _ _ => True) (fun _ U o U' => ∃ v L, o = .returned v ∧ own_Q0 Z p0 p1 p2 p3 p4 G1 aI aS aN aY aE h0 n0 v U'.heap L ∧ CHr Z own_EL U.vm U.heap U'.vm U'.heap ∧ ReturnedEndW U o U' L room_1.cells room_1.slots) := by
  refine MetFree.of_bodySF (plainFor_of_name own_pn1) hisR ?_
  intro p e s m args below meth c s₁ Bd hml0 hP hK
  obtain ⟨rfl, hZ, hh, CH⟩ := hP
  have hx := Bd.exec
  have hby := Bd.bytes
  have hlk : meth.locks = false := BodyLoose.notSynchronized Bd
  have hml : c.maxLocals = 17 := hml0
  have hown : s.vm.findClass "com/example/ianus/ianus/TokenDescribePinLaw" = some m.cls := findClass_of_methodNamed Bd.named
  have hnm := (name_of_methodNamed Bd.named Bd.method).1
  have X0 : Stand p l e room_1 s m #[(.int p0), (.int p1), (.int p2), (.int p3), (.int p4)] below meth c s₁ [] 0 0 := Stand.of_body Bd
  have e0 : s₁.heap = h0 := by rw [← hh, Bd.state]; rfl
  have N0 := Fr.nil n0
  have KP : Keep h0 h0 [] := Keep.refl _ _
  have hS : s.Since s.vm 0 := (State.WarmedH.refl s).since 0
  have hk1 : 0 ≤ h0.size := Nat.zero_le _
  have CHR : CHr Z own_EL s.vm h0 s.vm h0 := CHr.refl CH
  have hEW : EW Z a0 own_EL := own_EWof hw
  have hwsS : ∀ d ∈ Bundle.stringAtoms, d.before a0 Z = true := fun d hd => hw d (own_wS d hd)
  refine own_start (Fin := (own_FinH Z s (own_Q0 Z p0 p1 p2 p3 p4 G1 aI aS aN aY aE h0 n0) room_1.cells room_1.slots)) (own_from (mkF m 0 #[iv p0, iv p1, iv p2, iv p3, iv p4, .unset, .unset, .unset, .unset, .unset, .unset, .unset, .unset, .unset, .unset, .unset, .unset] []) (castTop (own_ef_0 m p0 p1 p2 p3 p4)) ?_)
  have hwsE : ∀ d ∈ StrChars.Road.wordsEq, d.before a0 Z = true := fun d hd => hw d (own_wEq d hd)
  refine own_iln 1 X0 hx (hb hby at_0) rfl rfl ?_
  refine own_to (mkF m 3 #[iv p0, iv p1, iv p2, iv p3, iv p4, .unset, .unset, .unset, .unset, .unset, .unset, .unset, .unset, .unset, .unset, .unset, .unset] [(.int (2147483647 : Int32)), (.int p0)]) (X0.ldcInt hx hown (mvT hZ (own_w hw 0 rfl)) (g := (mkF m 1 #[iv p0, iv p1, iv p2, iv p3, iv p4, .unset, .unset, .unset, .unset, .unset, .unset, .unset, .unset, .unset, .unset, .unset, .unset] [(.int p0)])) rfl (hb hby at_1)) ?_
  refine own_iand 4 X0 hx (hb hby at_3) rfl rfl ?_
  refine own_ic 5 5 X0 hx (hb hby at_4) rfl rfl ?_
  refine own_to (T' := s₁) (mkF m 6 #[iv p0, iv p1, iv p2, iv p3, iv p4, .unset, .unset, .unset, .unset, .unset, .unset, .unset, .unset, .unset, .unset, .unset, .unset] [(.int ((p0 &&& (2147483647 : Int32)) % (5 : Int32)))]) (fun _ k => iremM X0 hx rfl (hb hby at_5) rfl (by decide) k) ?_
  generalize hkk : ((p0 &&& (2147483647 : Int32)) % (5 : Int32)) = kk
  have h5kk := own_r5 _ hkk
  refine own_is 8 #[iv p0, iv p1, iv p2, iv p3, iv p4, iv kk, .unset, .unset, .unset, .unset, .unset, .unset, .unset, .unset, .unset, .unset, .unset] X0 hx (hb hby at_6) rfl rfl ?_
  refine own_iln 9 X0 hx (hb hby at_8) rfl rfl ?_
  refine own_to (mkF m 11 #[iv p0, iv p1, iv p2, iv p3, iv p4, iv kk, .unset, .unset, .unset, .unset, .unset, .unset, .unset, .unset, .unset, .unset, .unset] [(.int (2147483647 : Int32)), (.int p1)]) (X0.ldcInt hx hown (mvT hZ (own_w hw 0 rfl)) (g := (mkF m 9 #[iv p0, iv p1, iv p2, iv p3, iv p4, iv kk, .unset, .unset, .unset, .unset, .unset, .unset, .unset, .unset, .unset, .unset, .unset] [(.int p1)])) rfl (hb hby at_9)) ?_
  refine own_iand 12 X0 hx (hb hby at_11) rfl rfl ?_
  refine own_ic 13 3 X0 hx (hb hby at_12) rfl rfl ?_
  refine own_to (T' := s₁) (mkF m 14 #[iv p0, iv p1, iv p2, iv p3, iv p4, iv kk, .unset, .unset, .unset, .unset, .unset, .unset, .unset, .unset, .unset, .unset, .unset] [(.int ((p1 &&& (2147483647 : Int32)) % (3 : Int32)))]) (fun _ k => iremM X0 hx rfl (hb hby at_13) rfl (by decide) k) ?_
  generalize hnn : ((p1 &&& (2147483647 : Int32)) % (3 : Int32)) = nn
  have h3nn := own_r3 _ hnn
  refine own_is 16 #[iv p0, iv p1, iv p2, iv p3, iv p4, iv kk, iv nn, .unset, .unset, .unset, .unset, .unset, .unset, .unset, .unset, .unset, .unset] X0 hx (hb hby at_14) rfl rfl ?_
  refine own_iln 17 X0 hx (hb hby at_16) rfl rfl ?_
  refine own_si 20 255 X0 hx (hb hby at_17) rfl rfl ?_
  refine own_iand 21 X0 hx (hb hby at_20) rfl rfl ?_
  refine own_i2c 22 X0 hx (hb hby at_21) rfl rfl ?_
  generalize hca : ((p2 &&& (255 : Int32)).toUInt32.toUInt16.toUInt32.toInt32) = ca
  have c8_ca : own_C8 ca := own_ch8 hca
  refine own_is 24 #[iv p0, iv p1, iv p2, iv p3, iv p4, iv kk, iv nn, iv ca, .unset, .unset, .unset, .unset, .unset, .unset, .unset, .unset, .unset] X0 hx (hb hby at_22) rfl rfl ?_
  refine own_iln 25 X0 hx (hb hby at_24) rfl rfl ?_
  refine own_bi 27 8 X0 hx (hb hby at_25) rfl rfl ?_
  refine own_iushr 28 X0 hx (hb hby at_27) rfl rfl ?_
  refine own_si 31 255 X0 hx (hb hby at_28) rfl rfl ?_
  refine own_iand 32 X0 hx (hb hby at_31) rfl rfl ?_
  refine own_i2c 33 X0 hx (hb hby at_32) rfl rfl ?_
  generalize hcb : ((((p2.toUInt32 >>> ((8 : Int32) &&& 31).toUInt32).toInt32) &&& (255 : Int32)).toUInt32.toUInt16.toUInt32.toInt32) = cb
  have c8_cb : own_C8 cb := own_ch8 hcb
  refine own_is 35 #[iv p0, iv p1, iv p2, iv p3, iv p4, iv kk, iv nn, iv ca, iv cb, .unset, .unset, .unset, .unset, .unset, .unset, .unset, .unset] X0 hx (hb hby at_33) rfl rfl ?_
  refine own_iln 36 X0 hx (hb hby at_35) rfl rfl ?_
  refine own_bi 38 16 X0 hx (hb hby at_36) rfl rfl ?_
  refine own_iushr 39 X0 hx (hb hby at_38) rfl rfl ?_
  refine own_si 42 255 X0 hx (hb hby at_39) rfl rfl ?_
  refine own_iand 43 X0 hx (hb hby at_42) rfl rfl ?_
  refine own_i2c 44 X0 hx (hb hby at_43) rfl rfl ?_
  generalize hcc : ((((p2.toUInt32 >>> ((16 : Int32) &&& 31).toUInt32).toInt32) &&& (255 : Int32)).toUInt32.toUInt16.toUInt32.toInt32) = cc
  have c8_cc : own_C8 cc := own_ch8 hcc
  refine own_is 46 #[iv p0, iv p1, iv p2, iv p3, iv p4, iv kk, iv nn, iv ca, iv cb, iv cc, .unset, .unset, .unset, .unset, .unset, .unset, .unset] X0 hx (hb hby at_44) rfl rfl ?_
  refine own_iln 47 X0 hx (hb hby at_46) rfl rfl ?_
  refine own_bi 49 24 X0 hx (hb hby at_47) rfl rfl ?_
  refine own_iushr 50 X0 hx (hb hby at_49) rfl rfl ?_
  refine own_si 53 255 X0 hx (hb hby at_50) rfl rfl ?_
  refine own_iand 54 X0 hx (hb hby at_53) rfl rfl ?_
  refine own_i2c 55 X0 hx (hb hby at_54) rfl rfl ?_
  generalize hcd : ((((p2.toUInt32 >>> ((24 : Int32) &&& 31).toUInt32).toInt32) &&& (255 : Int32)).toUInt32.toUInt16.toUInt32.toInt32) = cd
  have c8_cd : own_C8 cd := own_ch8 hcd
  refine own_is 57 #[iv p0, iv p1, iv p2, iv p3, iv p4, iv kk, iv nn, iv ca, iv cb, iv cc, iv cd, .unset, .unset, .unset, .unset, .unset, .unset] X0 hx (hb hby at_55) rfl rfl ?_
  rcases h5kk with q | q | q | q | q
  · subst q
    obtain ⟨T302, X302, e302, st302⟩ := getS2 X0 hx hZ hown (host := "") (Or.inl (own_w hw 1 rfl)) Via.refl e0 (SaI.ext OL.2) (g := (mkF m 57 #[iv p0, iv p1, iv p2, iv p3, iv p4, iv 0, iv nn, iv ca, iv cb, iv cc, iv cd, .unset, .unset, .unset, .unset, .unset, .unset] [])) rfl (hb hby at_57)
    refine own_to (mkF m 60 #[iv p0, iv p1, iv p2, iv p3, iv p4, iv 0, iv nn, iv ca, iv cb, iv cc, iv cd, .unset, .unset, .unset, .unset, .unset, .unset] [(.ref aI)]) st302 ?_
    refine own_as 62 #[iv p0, iv p1, iv p2, iv p3, iv p4, iv 0, iv nn, iv ca, iv cb, iv cc, iv cd, rv aI, .unset, .unset, .unset, .unset, .unset] X302 hx (hb hby at_60) rfl rfl rfl ?_
    refine own_il 64 X302 hx (hb hby at_62) rfl rfl ?_
    refine own_ic 65 1 X302 hx (hb hby at_64) rfl rfl ?_
    refine own_icY 76 X302 hx (hb hby at_65) (feq (by decide : ¬ ((0 : Int32) = (1 : Int32)))).2 (by decide) (by decide) ?_
    refine own_il 78 X302 hx (hb hby at_76) rfl rfl ?_
    refine own_ic 79 2 X302 hx (hb hby at_78) rfl rfl ?_
    refine own_icY 90 X302 hx (hb hby at_79) (feq (by decide : ¬ ((0 : Int32) = (2 : Int32)))).2 (by decide) (by decide) ?_
    refine own_il 92 X302 hx (hb hby at_90) rfl rfl ?_
    refine own_ic 93 3 X302 hx (hb hby at_92) rfl rfl ?_
    refine own_icY 104 X302 hx (hb hby at_93) (feq (by decide : ¬ ((0 : Int32) = (3 : Int32)))).2 (by decide) (by decide) ?_
    refine own_il 106 X302 hx (hb hby at_104) rfl rfl ?_
    refine own_ic 107 4 X302 hx (hb hby at_106) rfl rfl ?_
    refine own_icY 115 X302 hx (hb hby at_107) (feq (by decide : ¬ ((0 : Int32) = (4 : Int32)))).2 (by decide) (by decide) ?_
    refine own_il 117 X302 hx (hb hby at_115) rfl rfl ?_
    refine own_il 119 X302 hx (hb hby at_117) rfl rfl ?_
    refine own_il 121 X302 hx (hb hby at_119) rfl rfl ?_
    obtain ⟨_, _, ⟨T303, L303, k303, n303⟩, -, X303, hS303, gr303, ⟨Lc303, hQ303, l303, y303, z303, CR303⟩, st303⟩ := callSS (s := s.setVm s.vm) X302 hx (y := (⟨"com/example/ianus/ianus/TokenDescribePinLaw", "make", "(ICC)Ljava/lang/String;"⟩ : MethodName)) hown (mvT hZ (own_w hw 4 rfl)) (mvT hZ (own_w hw 5 rfl)) (mvT hZ (own_w hw 6 rfl)) (mvT hZ (own_w hw 7 rfl)) (by decide) (backOfSH (s := s) (vm0 := s.vm) (W := 0) (own_rmMK l Z a0 hw [] nn ca cb G1 h0 n0 (Nat.le_trans Z0 KP.1) OL h3nn c8_ca c8_cb O2 P5) hZ (own_w hw 7 rfl) (own_w hw 6 rfl) (by decide) (by decide) hEW CH) (g := (mkF m 121 #[iv p0, iv p1, iv p2, iv p3, iv p4, iv 0, iv nn, iv ca, iv cb, iv cc, iv cd, rv aI, .unset, .unset, .unset, .unset, .unset] [(.int cb), (.int ca), (.int nn)])) rfl (by rw [hml]; rfl) (argsL := [(.int nn), (.int ca), (.int cb)]) (rest := []) (lenOf own_pd22 rfl) rfl (by show 2 * 0 + _ ≤ _; exact Nat.le_of_eq rfl) (hb hby at_121) (fun _ _ => ⟨rfl, e302, (by decide : 0 + 6 ≤ _), (by decide : 0 + 12 ≤ _)⟩)
    dsimp only [Pt.U, Pt.locs, Pt.cells, Pt.slots] at X303 hS303 gr303 l303 y303 z303 CR303 st303 hQ303
    subst l303 y303 z303
    obtain ⟨o_tx, t_tx, kb_tx, rfl, N303q, K303, S_tx⟩ := hQ303
    have N303 := Fr.app N0 N303q
    obtain ⟨X303, hS, hZ, hown⟩ := rebS hS (hk1 : _ ≤ (h0).size) X303 hS303 (by rw [e302] at gr303; exact gr303) hZ hown
    have OL := OL.keep K303 all0
    have KP := KP.trans K303 all0
    have hk1 : T303.heap.size ≤ T303.heap.size := Nat.le_refl _
    have CHR := CHR.trans CR303
    have CH := CR303.1
    have X303 : Stand p l e room_1 (s.setVm T303.vm) m #[(.int p0), (.int p1), (.int p2), (.int p3), (.int p4)] below meth c T303 _ 6 12 := X303
    refine own_via (mkF m 124 #[iv p0, iv p1, iv p2, iv p3, iv p4, iv 0, iv nn, iv ca, iv cb, iv cc, iv cd, rv aI, .unset, .unset, .unset, .unset, .unset] [(.ref o_tx)]) st303 ?_
    refine own_as 126 #[iv p0, iv p1, iv p2, iv p3, iv p4, iv 0, iv nn, iv ca, iv cb, iv cc, iv cd, rv aI, rv o_tx, .unset, .unset, .unset, .unset] X303 hx (hb hby at_124) rfl rfl rfl ?_
    refine own_il 128 X303 hx (hb hby at_126) rfl rfl ?_
    refine own_il 130 X303 hx (hb hby at_128) rfl rfl ?_
    refine own_il 132 X303 hx (hb hby at_130) rfl rfl ?_
    obtain ⟨_, _, ⟨T304, L304, k304, n304⟩, -, X304, hS304, gr304, ⟨Lc304, hQ304, l304, y304, z304, CR304⟩, st304⟩ := callSS (s := s.setVm T303.vm) X303 hx (y := (⟨"com/example/ianus/ianus/TokenDescribePinLaw", "make", "(ICC)Ljava/lang/String;"⟩ : MethodName)) hown (mvT hZ (own_w hw 4 rfl)) (mvT hZ (own_w hw 5 rfl)) (mvT hZ (own_w hw 6 rfl)) (mvT hZ (own_w hw 7 rfl)) (by decide) (backOfSH (s := s) (vm0 := T303.vm) (W := 0) (own_rmMK l Z a0 hw [] nn cc cd G1 T303.heap n0 (Nat.le_trans Z0 KP.1) OL h3nn c8_cc c8_cd O2 P5) hZ (own_w hw 7 rfl) (own_w hw 6 rfl) (by decide) (by decide) hEW CH) (g := (mkF m 132 #[iv p0, iv p1, iv p2, iv p3, iv p4, iv 0, iv nn, iv ca, iv cb, iv cc, iv cd, rv aI, rv o_tx, .unset, .unset, .unset, .unset] [(.int cd), (.int cc), (.int nn)])) rfl (by rw [hml]; rfl) (argsL := [(.int nn), (.int cc), (.int cd)]) (rest := []) (lenOf own_pd22 rfl) rfl (by show 2 * 0 + _ ≤ _; exact Nat.le_of_eq rfl) (hb hby at_132) (fun _ _ => ⟨rfl, rfl, (by decide : 6 + 6 ≤ _), (by decide : 12 + 12 ≤ _)⟩)
    dsimp only [Pt.U, Pt.locs, Pt.cells, Pt.slots] at X304 hS304 gr304 l304 y304 z304 CR304 st304 hQ304
    subst l304 y304 z304
    obtain ⟨o_vx, t_vx, kb_vx, rfl, N304q, K304, S_vx⟩ := hQ304
    have N304 := Fr.app N303 N304q
    obtain ⟨X304, hS, hZ, hown⟩ := rebS hS (hk1 : _ ≤ (T303.heap).size) X304 hS304 (gr304) hZ hown
    have OL := OL.keep K304 all0
    have KP := KP.trans K304 all0
    have S_tx := S_tx.keep K304 nin0 nin0
    have hk1 : T304.heap.size ≤ T304.heap.size := Nat.le_refl _
    have CHR := CHR.trans CR304
    have CH := CR304.1
    have X304 : Stand p l e room_1 (s.setVm T304.vm) m #[(.int p0), (.int p1), (.int p2), (.int p3), (.int p4)] below meth c T304 _ 12 24 := X304
    refine own_via (mkF m 135 #[iv p0, iv p1, iv p2, iv p3, iv p4, iv 0, iv nn, iv ca, iv cb, iv cc, iv cd, rv aI, rv o_tx, .unset, .unset, .unset, .unset] [(.ref o_vx)]) st304 ?_
    refine own_as 137 #[iv p0, iv p1, iv p2, iv p3, iv p4, iv 0, iv nn, iv ca, iv cb, iv cc, iv cd, rv aI, rv o_tx, rv o_vx, .unset, .unset, .unset] X304 hx (hb hby at_135) rfl rfl rfl ?_
    obtain ⟨T305, h305, X305, e305, E305, A305, D305, -, st305⟩ := newO X304 hx hZ hown (own_w hw 30 rfl) (own_w hw 31 rfl) (own_w hw 32 rfl) rfl (g := (mkF m 137 #[iv p0, iv p1, iv p2, iv p3, iv p4, iv 0, iv nn, iv ca, iv cb, iv cc, iv cd, rv aI, rv o_tx, rv o_vx, .unset, .unset, .unset] [])) rfl (hb hby at_137) (by decide) (by decide)
    obtain ⟨b305, g305⟩ : ∃ z, z = T304.heap.size := ⟨_, rfl⟩
    rw [← g305] at A305 D305 st305
    have sz_b305 : h0.size ≤ b305 := Nat.le_trans KP.1 (Nat.le_of_eq g305.symm)
    have ge_b305 : n0 ≤ b305 := Nat.le_trans Z0 sz_b305
    have ne_o_tx_b305 : o_tx ≠ b305 := Nat.ne_of_lt (Nat.lt_of_lt_of_le S_tx.lt (Nat.le_of_eq g305.symm))
    have ne_t_tx_b305 : t_tx ≠ b305 := Nat.ne_of_lt (Nat.lt_of_lt_of_le S_tx.ltT (Nat.le_of_eq g305.symm))
    have CHR := CHR.trans (CHr.ext E305 CH)
    have CH := CH.ext E305
    have OL := OL.ext E305
    have KP := KP.ext E305
    have hk1 := Nat.le_trans hk1 E305.1
    have S_tx := S_tx.ext E305
    have E_b305 : Exa Z h305 b305 "com/example/ianus/ianus/Token" := A305
    have F_kind_b305 : Fld Z h305 b305 "com/example/ianus/ianus/Token" "kind" "Lcom/example/ianus/ianus/Token$Kind;" .null := D305 (Or.inr (own_w hw 38 rfl)) (ty := (.object "com/example/ianus/ianus/Token$Kind")) (by decide)
    have F_text_b305 : Fld Z h305 b305 "com/example/ianus/ianus/Token" "text" "Ljava/lang/String;" .null := D305 (Or.inr (own_w hw 40 rfl)) (ty := (.object "java/lang/String")) (by decide)
    have F_value_b305 : Fld Z h305 b305 "com/example/ianus/ianus/Token" "value" "Ljava/lang/String;" .null := D305 (Or.inr (own_w hw 42 rfl)) (ty := (.object "java/lang/String")) (by decide)
    have F_line_b305 : Fld Z h305 b305 "com/example/ianus/ianus/Token" "line" "I" (.int (0 : Int32)) := D305 (Or.inr (own_w hw 44 rfl)) (ty := .int) (by decide)
    have F_column_b305 : Fld Z h305 b305 "com/example/ianus/ianus/Token" "column" "I" (.int (0 : Int32)) := D305 (Or.inr (own_w hw 46 rfl)) (ty := .int) (by decide)
    refine own_to (mkF m 140 #[iv p0, iv p1, iv p2, iv p3, iv p4, iv 0, iv nn, iv ca, iv cb, iv cc, iv cd, rv aI, rv o_tx, rv o_vx, .unset, .unset, .unset] [(.ref b305)]) st305 ?_
    refine own_dup 141 X305 hx (hb hby at_140) rfl rfl ?_
    refine own_al 143 X305 hx (hb hby at_141) rfl rfl rfl ?_
    refine own_al 145 X305 hx (hb hby at_143) rfl rfl rfl ?_
    refine own_al 147 X305 hx (hb hby at_145) rfl rfl rfl ?_
    refine own_iln 148 X305 hx (hb hby at_147) rfl rfl ?_
    refine own_il 150 X305 hx (hb hby at_148) rfl rfl ?_
    obtain ⟨_, T306, Lc306, X306, hQ306, st306⟩ := own_special X305 hx (y := (⟨"com/example/ianus/ianus/Token", "<init>", "(Lcom/example/ianus/ianus/Token$Kind;Ljava/lang/String;Ljava/lang/String;II)V"⟩ : MethodName)) rfl hown (mvT hZ (own_w hw 33 rfl)) (mvT hZ (own_w hw 34 rfl)) (mvT hZ (own_w hw 35 rfl)) (by decide) (backOf (W := 1) (own_rmCT l Z a0 hw [] b305 aI o_tx o_vx p3 p4 h305 n0 (Nat.le_trans Z0 KP.1) OL ge_b305 E_b305 F_kind_b305 F_text_b305 F_value_b305 F_line_b305 F_column_b305) hZ (own_w hw 35 rfl) (own_w hw 32 rfl) (by decide) (by decide)) (g := (mkF m 150 #[iv p0, iv p1, iv p2, iv p3, iv p4, iv 0, iv nn, iv ca, iv cb, iv cc, iv cd, rv aI, rv o_tx, rv o_vx, .unset, .unset, .unset] [(.int p4), (.int p3), (.ref o_vx), (.ref o_tx), (.ref aI), (.ref b305), (.ref b305)])) rfl (by rw [hml]; rfl) (a := b305) (argsL := [(.ref aI), (.ref o_tx), (.ref o_vx), (.int p3), (.int p4)]) (rest := [(.ref b305)]) (lenOf own_pd23 rfl) rfl (by show 2 * 0 + _ ≤ _; exact Nat.le_of_eq rfl) (hb hby at_150) rfl e305 (kc := 13) (ks := 29) rfl rfl (by decide) (by decide)
    obtain ⟨rfl, N306q, K306, Ek306, Fk306, Ft306⟩ := hQ306
    have N306 := Fr.app N304 N306q
    have SFk : ∀ x ∈ [b305], Safe Z own_EL T304.vm h305 x := (sfS (Safe.exa hZ.alike E_b305 (by decide) (by decide)) sf0)
    have CHR := CHR.trans (CHr.keep K306 SFk CH)
    have CH := CH.keep K306 SFk
    have OL := OL.keep K306 (allS ge_b305 all0)
    have KP := KP.trans K306 (allS (Or.inr sz_b305) all0)
    have hk1 := Nat.le_trans hk1 K306.1
    have S_tx := S_tx.keep K306 (ninS ne_o_tx_b305 nin0) (ninS ne_t_tx_b305 nin0)
    have E_b305 := E_b305.keep K306
    refine own_via (mkF m 153 #[iv p0, iv p1, iv p2, iv p3, iv p4, iv 0, iv nn, iv ca, iv cb, iv cc, iv cd, rv aI, rv o_tx, rv o_vx, .unset, .unset, .unset] [(.ref b305)]) st306 ?_
    have EK : Exa Z T306.heap b305 "com/example/ianus/ianus/Token" := Ek306
    have FK : Fld Z T306.heap b305 "com/example/ianus/ianus/Token" "kind" "Lcom/example/ianus/ianus/Token$Kind;" (.ref aI) := Fk306
    have FT : Fld Z T306.heap b305 "com/example/ianus/ianus/Token" "text" "Ljava/lang/String;" (.ref o_tx) := Ft306
    refine own_as 155 #[iv p0, iv p1, iv p2, iv p3, iv p4, iv 0, iv nn, iv ca, iv cb, iv cc, iv cd, rv aI, rv o_tx, rv o_vx, rv b305, .unset, .unset] X306 hx (hb hby at_153) rfl rfl rfl ?_
    refine own_al 157 X306 hx (hb hby at_155) rfl rfl rfl ?_
    obtain ⟨cq307, kq307, q307a, q307b, q307c⟩ := isOf (s := s.setVm T304.vm) hZ rfl EK
    obtain ⟨_, _, ⟨T307, L307, k307, n307⟩, -, X307, hS307, gr307, ⟨Lc307, hQ307, l307, y307, z307, CR307⟩, st307⟩ := Stand.virtualBackS (s := s.setVm T304.vm) X306 hx (y := (⟨"com/example/ianus/ianus/Token", "describe", "()Ljava/lang/String;"⟩ : MethodName)) (z := (⟨"com/example/ianus/ianus/Token", "describe", "()Ljava/lang/String;"⟩ : MethodName)) hown (mvT hZ (own_w hw 47 rfl)) (mvT hZ (own_w hw 48 rfl)) (notFace_of_selects (args := #[]) (mvT hZ (own_w hw 50 rfl))) (mvT hZ (own_w hw 50 rfl)) (mvT hZ (own_w hw 49 rfl)) (by decide) (backOfSH (s := s) (vm0 := T304.vm) (W := 0) (own_rmDQ l Z a0 hw [] nn ca cb G1 b305 aI o_tx t_tx kb_tx aE aS T306.heap n0 (Nat.le_trans Z0 KP.1) OL h3nn c8_ca c8_cb FK FT S_tx O2 P5 SaE SaS ne_aI_aE ne_aI_aS) hZ (own_w hw 51 rfl) (own_w hw 32 rfl) (by decide) (by decide) hEW CH) q307a q307c (g := (mkF m 157 #[iv p0, iv p1, iv p2, iv p3, iv p4, iv 0, iv nn, iv ca, iv cb, iv cc, iv cd, rv aI, rv o_tx, rv o_vx, rv b305, .unset, .unset] [(.ref b305)])) rfl (by rw [hml]; rfl) (Steps.refl _) (argsL := []) (rest := []) (lenOf own_pd20 rfl) rfl (by show 2 * 0 + _ ≤ _; exact Nat.le_of_eq rfl) (hb hby at_157) (fun _ _ => ⟨rfl, rfl, (by decide : 13 + 6 ≤ _), (by decide : 29 + 90 ≤ _)⟩)
    dsimp only [Pt.U, Pt.locs, Pt.cells, Pt.slots] at X307 hS307 gr307 l307 y307 z307 CR307 st307 hQ307
    subst l307 y307 z307
    obtain ⟨rr, tr, kr, rfl, N307q, K307, S_rr⟩ := hQ307
    have N307 := Fr.app N306 N307q
    obtain ⟨X307, hS, hZ, hown⟩ := rebS hS (hk1 : _ ≤ (T306.heap).size) X307 hS307 (gr307) hZ hown
    have OL := OL.keep K307 all0
    have KP := KP.trans K307 all0
    have S_tx := S_tx.keep K307 nin0 nin0
    have EK := EK.keep K307
    have FK := FK.keep K307 nin0
    have FT := FT.keep K307 nin0
    have hk1 : T307.heap.size ≤ T307.heap.size := Nat.le_refl _
    have CHR := CHR.trans CR307
    have CH := CR307.1
    have X307 : Stand p l e room_1 (s.setVm T307.vm) m #[(.int p0), (.int p1), (.int p2), (.int p3), (.int p4)] below meth c T307 _ 19 119 := X307
    refine own_via (mkF m 160 #[iv p0, iv p1, iv p2, iv p3, iv p4, iv 0, iv nn, iv ca, iv cb, iv cc, iv cd, rv aI, rv o_tx, rv o_vx, rv b305, .unset, .unset] [(.ref rr)]) st307 ?_
    refine own_as 162 #[iv p0, iv p1, iv p2, iv p3, iv p4, iv 0, iv nn, iv ca, iv cb, iv cc, iv cd, rv aI, rv o_tx, rv o_vx, rv b305, rv rr, .unset] X307 hx (hb hby at_160) rfl rfl rfl ?_
    refine own_il 164 X307 hx (hb hby at_162) rfl rfl ?_
    refine own_ic 165 4 X307 hx (hb hby at_164) rfl rfl ?_
    refine own_icY 175 X307 hx (hb hby at_165) (feq (by decide : ¬ ((0 : Int32) = (4 : Int32)))).2 (by decide) (by decide) ?_
    refine own_il 177 X307 hx (hb hby at_175) rfl rfl ?_
    refine own_ic 178 1 X307 hx (hb hby at_177) rfl rfl ?_
    refine own_icY 195 X307 hx (hb hby at_178) (feq (by decide : ¬ ((0 : Int32) = (1 : Int32)))).2 (by decide) (by decide) ?_
    refine own_il 197 X307 hx (hb hby at_195) rfl rfl ?_
    refine own_il 199 X307 hx (hb hby at_197) rfl rfl ?_
    refine own_il 201 X307 hx (hb hby at_199) rfl rfl ?_
    obtain ⟨_, T308, Lc308, X308, hQ308, st308⟩ := own_callS X307 hx (y := (⟨"com/example/ianus/ianus/TokenDescribePinLaw", "quoted", "(ICC)Ljava/lang/String;"⟩ : MethodName)) hown (mvT hZ (own_w hw 181 rfl)) (mvT hZ (own_w hw 182 rfl)) (mvT hZ (own_w hw 6 rfl)) (mvT hZ (own_w hw 183 rfl)) (by decide) (backOf (W := 0) (own_rmQT l Z a0 hw [] nn ca cb G1 T307.heap n0 (Nat.le_trans Z0 KP.1) OL h3nn c8_ca c8_cb O2 P5) hZ (own_w hw 183 rfl) (own_w hw 6 rfl) (by decide) (by decide)) (g := (mkF m 201 #[iv p0, iv p1, iv p2, iv p3, iv p4, iv 0, iv nn, iv ca, iv cb, iv cc, iv cd, rv aI, rv o_tx, rv o_vx, rv b305, rv rr, .unset] [(.int cb), (.int ca), (.int nn)])) rfl (by rw [hml]; rfl) (argsL := [(.int nn), (.int ca), (.int cb)]) (rest := []) (lenOf own_pd22 rfl) rfl (by show 2 * 0 + _ ≤ _; exact Nat.le_of_eq rfl) (hb hby at_201) rfl rfl (kc := 23) (ks := 149) rfl rfl (by decide) (by decide)
    obtain ⟨la1, lb1, lk1, rfl, N308q, K308, S_ex⟩ := hQ308
    have N308 := Fr.app N307 N308q
    have CHR := CHR.trans (CHr.keep K308 sf0 CH)
    have CH := CH.keep K308 sf0
    have OL := OL.keep K308 all0
    have KP := KP.trans K308 all0
    have hk1 := Nat.le_trans hk1 K308.1
    have S_rr := S_rr.keep K308 nin0 nin0
    refine own_to (mkF m 204 #[iv p0, iv p1, iv p2, iv p3, iv p4, iv 0, iv nn, iv ca, iv cb, iv cc, iv cd, rv aI, rv o_tx, rv o_vx, rv b305, rv rr, .unset] [(.ref la1)]) st308 ?_
    refine own_as 206 #[iv p0, iv p1, iv p2, iv p3, iv p4, iv 0, iv nn, iv ca, iv cb, iv cc, iv cd, rv aI, rv o_tx, rv o_vx, rv b305, rv rr, rv la1] X308 hx (hb hby at_204) rfl rfl rfl ?_
    refine own_al 208 X308 hx (hb hby at_206) rfl rfl rfl ?_
    refine own_al 210 X308 hx (hb hby at_208) rfl rfl rfl ?_
    obtain ⟨cq309, kq309, q309a, q309b, q309c⟩ := isOf hZ rfl S_rr.1
    obtain ⟨_, T309, Lc309, X309, hQ309, st309⟩ := own_virtual X308 hx (y := (⟨"java/lang/String", "equals", "(Ljava/lang/Object;)Z"⟩ : MethodName)) (z := (⟨"java/lang/String", "equals", "(Ljava/lang/Object;)Z"⟩ : MethodName)) hown (mvT hZ (own_w hw 194 rfl)) (mvT hZ (own_w hw 195 rfl)) (notFace_of_selects (args := #[]) (mvT hZ (own_w hw 197 rfl))) (mvT hZ (own_w hw 197 rfl)) (mvT hZ (own_w hw 196 rfl)) (by decide) (own_backEq (W := 0) hZ hwsE (own_w hw 9 rfl) S_rr S_ex (O2.ext OL.2) P5 (by decide) (by decide)) q309a q309c (g := (mkF m 210 #[iv p0, iv p1, iv p2, iv p3, iv p4, iv 0, iv nn, iv ca, iv cb, iv cc, iv cd, rv aI, rv o_tx, rv o_vx, rv b305, rv rr, rv la1] [(.ref la1), (.ref rr)])) rfl (by rw [hml]; rfl) (argsL := [(.ref la1)]) (rest := []) (lenOf own_pd24 rfl) rfl (by show 2 * 0 + _ ≤ _; exact Nat.le_of_eq rfl) (hb hby at_210) rfl rfl (kc := 23) (ks := 149) rfl rfl (by decide) (by decide)
    obtain ⟨hor309, rfl, e309⟩ := hQ309
    have N309q : Fr n0 ([] : List Loc) := Fr.nil n0
    have N309 := Fr.app N308 N309q
    rcases hor309 with ⟨rfl, q⟩ | ⟨rfl, q⟩
    · refine own_via (mkF m 213 #[iv p0, iv p1, iv p2, iv p3, iv p4, iv 0, iv nn, iv ca, iv cb, iv cc, iv cd, rv aI, rv o_tx, rv o_vx, rv b305, rv rr, rv la1] [(.int (1 : Int32))]) st309 ?_
      exact own_retNH (s := s) (vm₁ := T307.vm) X309 hS (by rw [e309]; exact hk1) hZ hEW (by rw [e309]; exact CH) (by rw [hh, e309]; exact CHR) hx (t := .boolean) Bd.returns (by simp) hlk (hb hby at_213) (by decide) (by decide) (by rw [e309]; exact ⟨rfl, N309⟩)
    · exact absurd rfl q
  · subst q
    obtain ⟨T310, X310, e310, st310⟩ := getS2 X0 hx hZ hown (host := "") (Or.inl (own_w hw 1 rfl)) Via.refl e0 (SaI.ext OL.2) (g := (mkF m 57 #[iv p0, iv p1, iv p2, iv p3, iv p4, iv 1, iv nn, iv ca, iv cb, iv cc, iv cd, .unset, .unset, .unset, .unset, .unset, .unset] [])) rfl (hb hby at_57)
    refine own_to (mkF m 60 #[iv p0, iv p1, iv p2, iv p3, iv p4, iv 1, iv nn, iv ca, iv cb, iv cc, iv cd, .unset, .unset, .unset, .unset, .unset, .unset] [(.ref aI)]) st310 ?_
    refine own_as 62 #[iv p0, iv p1, iv p2, iv p3, iv p4, iv 1, iv nn, iv ca, iv cb, iv cc, iv cd, rv aI, .unset, .unset, .unset, .unset, .unset] X310 hx (hb hby at_60) rfl rfl rfl ?_
    refine own_il 64 X310 hx (hb hby at_62) rfl rfl ?_
    refine own_ic 65 1 X310 hx (hb hby at_64) rfl rfl ?_
    refine own_icN 68 X310 hx (hb hby at_65) (teq (by decide : (1 : Int32) = (1 : Int32))).2 rfl ?_
    obtain ⟨T311, X311, e311, st311⟩ := getS2 X310 hx hZ hown (host := "") (Or.inl (own_w hw 207 rfl)) Via.refl e310 (SaS.ext OL.2) (g := (mkF m 68 #[iv p0, iv p1, iv p2, iv p3, iv p4, iv 1, iv nn, iv ca, iv cb, iv cc, iv cd, rv aI, .unset, .unset, .unset, .unset, .unset] [])) rfl (hb hby at_68)
    refine own_to (mkF m 71 #[iv p0, iv p1, iv p2, iv p3, iv p4, iv 1, iv nn, iv ca, iv cb, iv cc, iv cd, rv aI, .unset, .unset, .unset, .unset, .unset] [(.ref aS)]) st311 ?_
    refine own_as 73 #[iv p0, iv p1, iv p2, iv p3, iv p4, iv 1, iv nn, iv ca, iv cb, iv cc, iv cd, rv aS, .unset, .unset, .unset, .unset, .unset] X311 hx (hb hby at_71) rfl rfl rfl ?_
    refine own_go 115 X311 hx (hb hby at_73) (by decide) (by decide) ?_
    refine own_il 117 X311 hx (hb hby at_115) rfl rfl ?_
    refine own_il 119 X311 hx (hb hby at_117) rfl rfl ?_
    refine own_il 121 X311 hx (hb hby at_119) rfl rfl ?_
    obtain ⟨_, _, ⟨T312, L312, k312, n312⟩, -, X312, hS312, gr312, ⟨Lc312, hQ312, l312, y312, z312, CR312⟩, st312⟩ := callSS (s := s.setVm s.vm) X311 hx (y := (⟨"com/example/ianus/ianus/TokenDescribePinLaw", "make", "(ICC)Ljava/lang/String;"⟩ : MethodName)) hown (mvT hZ (own_w hw 4 rfl)) (mvT hZ (own_w hw 5 rfl)) (mvT hZ (own_w hw 6 rfl)) (mvT hZ (own_w hw 7 rfl)) (by decide) (backOfSH (s := s) (vm0 := s.vm) (W := 0) (own_rmMK l Z a0 hw [] nn ca cb G1 h0 n0 (Nat.le_trans Z0 KP.1) OL h3nn c8_ca c8_cb O2 P5) hZ (own_w hw 7 rfl) (own_w hw 6 rfl) (by decide) (by decide) hEW CH) (g := (mkF m 121 #[iv p0, iv p1, iv p2, iv p3, iv p4, iv 1, iv nn, iv ca, iv cb, iv cc, iv cd, rv aS, .unset, .unset, .unset, .unset, .unset] [(.int cb), (.int ca), (.int nn)])) rfl (by rw [hml]; rfl) (argsL := [(.int nn), (.int ca), (.int cb)]) (rest := []) (lenOf own_pd22 rfl) rfl (by show 2 * 0 + _ ≤ _; exact Nat.le_of_eq rfl) (hb hby at_121) (fun _ _ => ⟨rfl, e311, (by decide : 0 + 6 ≤ _), (by decide : 0 + 12 ≤ _)⟩)
    dsimp only [Pt.U, Pt.locs, Pt.cells, Pt.slots] at X312 hS312 gr312 l312 y312 z312 CR312 st312 hQ312
    subst l312 y312 z312
    obtain ⟨o_tx, t_tx, kb_tx, rfl, N312q, K312, S_tx⟩ := hQ312
    have N312 := Fr.app N0 N312q
    obtain ⟨X312, hS, hZ, hown⟩ := rebS hS (hk1 : _ ≤ (h0).size) X312 hS312 (by rw [e311] at gr312; exact gr312) hZ hown
    have OL := OL.keep K312 all0
    have KP := KP.trans K312 all0
    have hk1 : T312.heap.size ≤ T312.heap.size := Nat.le_refl _
    have CHR := CHR.trans CR312
    have CH := CR312.1
    have X312 : Stand p l e room_1 (s.setVm T312.vm) m #[(.int p0), (.int p1), (.int p2), (.int p3), (.int p4)] below meth c T312 _ 6 12 := X312
    refine own_via (mkF m 124 #[iv p0, iv p1, iv p2, iv p3, iv p4, iv 1, iv nn, iv ca, iv cb, iv cc, iv cd, rv aS, .unset, .unset, .unset, .unset, .unset] [(.ref o_tx)]) st312 ?_
    refine own_as 126 #[iv p0, iv p1, iv p2, iv p3, iv p4, iv 1, iv nn, iv ca, iv cb, iv cc, iv cd, rv aS, rv o_tx, .unset, .unset, .unset, .unset] X312 hx (hb hby at_124) rfl rfl rfl ?_
    refine own_il 128 X312 hx (hb hby at_126) rfl rfl ?_
    refine own_il 130 X312 hx (hb hby at_128) rfl rfl ?_
    refine own_il 132 X312 hx (hb hby at_130) rfl rfl ?_
    obtain ⟨_, _, ⟨T313, L313, k313, n313⟩, -, X313, hS313, gr313, ⟨Lc313, hQ313, l313, y313, z313, CR313⟩, st313⟩ := callSS (s := s.setVm T312.vm) X312 hx (y := (⟨"com/example/ianus/ianus/TokenDescribePinLaw", "make", "(ICC)Ljava/lang/String;"⟩ : MethodName)) hown (mvT hZ (own_w hw 4 rfl)) (mvT hZ (own_w hw 5 rfl)) (mvT hZ (own_w hw 6 rfl)) (mvT hZ (own_w hw 7 rfl)) (by decide) (backOfSH (s := s) (vm0 := T312.vm) (W := 0) (own_rmMK l Z a0 hw [] nn cc cd G1 T312.heap n0 (Nat.le_trans Z0 KP.1) OL h3nn c8_cc c8_cd O2 P5) hZ (own_w hw 7 rfl) (own_w hw 6 rfl) (by decide) (by decide) hEW CH) (g := (mkF m 132 #[iv p0, iv p1, iv p2, iv p3, iv p4, iv 1, iv nn, iv ca, iv cb, iv cc, iv cd, rv aS, rv o_tx, .unset, .unset, .unset, .unset] [(.int cd), (.int cc), (.int nn)])) rfl (by rw [hml]; rfl) (argsL := [(.int nn), (.int cc), (.int cd)]) (rest := []) (lenOf own_pd22 rfl) rfl (by show 2 * 0 + _ ≤ _; exact Nat.le_of_eq rfl) (hb hby at_132) (fun _ _ => ⟨rfl, rfl, (by decide : 6 + 6 ≤ _), (by decide : 12 + 12 ≤ _)⟩)
    dsimp only [Pt.U, Pt.locs, Pt.cells, Pt.slots] at X313 hS313 gr313 l313 y313 z313 CR313 st313 hQ313
    subst l313 y313 z313
    obtain ⟨o_vx, t_vx, kb_vx, rfl, N313q, K313, S_vx⟩ := hQ313
    have N313 := Fr.app N312 N313q
    obtain ⟨X313, hS, hZ, hown⟩ := rebS hS (hk1 : _ ≤ (T312.heap).size) X313 hS313 (gr313) hZ hown
    have OL := OL.keep K313 all0
    have KP := KP.trans K313 all0
    have S_tx := S_tx.keep K313 nin0 nin0
    have hk1 : T313.heap.size ≤ T313.heap.size := Nat.le_refl _
    have CHR := CHR.trans CR313
    have CH := CR313.1
    have X313 : Stand p l e room_1 (s.setVm T313.vm) m #[(.int p0), (.int p1), (.int p2), (.int p3), (.int p4)] below meth c T313 _ 12 24 := X313
    refine own_via (mkF m 135 #[iv p0, iv p1, iv p2, iv p3, iv p4, iv 1, iv nn, iv ca, iv cb, iv cc, iv cd, rv aS, rv o_tx, .unset, .unset, .unset, .unset] [(.ref o_vx)]) st313 ?_
    refine own_as 137 #[iv p0, iv p1, iv p2, iv p3, iv p4, iv 1, iv nn, iv ca, iv cb, iv cc, iv cd, rv aS, rv o_tx, rv o_vx, .unset, .unset, .unset] X313 hx (hb hby at_135) rfl rfl rfl ?_
    obtain ⟨T314, h314, X314, e314, E314, A314, D314, -, st314⟩ := newO X313 hx hZ hown (own_w hw 30 rfl) (own_w hw 31 rfl) (own_w hw 32 rfl) rfl (g := (mkF m 137 #[iv p0, iv p1, iv p2, iv p3, iv p4, iv 1, iv nn, iv ca, iv cb, iv cc, iv cd, rv aS, rv o_tx, rv o_vx, .unset, .unset, .unset] [])) rfl (hb hby at_137) (by decide) (by decide)
    obtain ⟨b314, g314⟩ : ∃ z, z = T313.heap.size := ⟨_, rfl⟩
    rw [← g314] at A314 D314 st314
    have sz_b314 : h0.size ≤ b314 := Nat.le_trans KP.1 (Nat.le_of_eq g314.symm)
    have ge_b314 : n0 ≤ b314 := Nat.le_trans Z0 sz_b314
    have ne_o_tx_b314 : o_tx ≠ b314 := Nat.ne_of_lt (Nat.lt_of_lt_of_le S_tx.lt (Nat.le_of_eq g314.symm))
    have ne_t_tx_b314 : t_tx ≠ b314 := Nat.ne_of_lt (Nat.lt_of_lt_of_le S_tx.ltT (Nat.le_of_eq g314.symm))
    have CHR := CHR.trans (CHr.ext E314 CH)
    have CH := CH.ext E314
    have OL := OL.ext E314
    have KP := KP.ext E314
    have hk1 := Nat.le_trans hk1 E314.1
    have S_tx := S_tx.ext E314
    have E_b314 : Exa Z h314 b314 "com/example/ianus/ianus/Token" := A314
    have F_kind_b314 : Fld Z h314 b314 "com/example/ianus/ianus/Token" "kind" "Lcom/example/ianus/ianus/Token$Kind;" .null := D314 (Or.inr (own_w hw 38 rfl)) (ty := (.object "com/example/ianus/ianus/Token$Kind")) (by decide)
    have F_text_b314 : Fld Z h314 b314 "com/example/ianus/ianus/Token" "text" "Ljava/lang/String;" .null := D314 (Or.inr (own_w hw 40 rfl)) (ty := (.object "java/lang/String")) (by decide)
    have F_value_b314 : Fld Z h314 b314 "com/example/ianus/ianus/Token" "value" "Ljava/lang/String;" .null := D314 (Or.inr (own_w hw 42 rfl)) (ty := (.object "java/lang/String")) (by decide)
    have F_line_b314 : Fld Z h314 b314 "com/example/ianus/ianus/Token" "line" "I" (.int (0 : Int32)) := D314 (Or.inr (own_w hw 44 rfl)) (ty := .int) (by decide)
    have F_column_b314 : Fld Z h314 b314 "com/example/ianus/ianus/Token" "column" "I" (.int (0 : Int32)) := D314 (Or.inr (own_w hw 46 rfl)) (ty := .int) (by decide)
    refine own_to (mkF m 140 #[iv p0, iv p1, iv p2, iv p3, iv p4, iv 1, iv nn, iv ca, iv cb, iv cc, iv cd, rv aS, rv o_tx, rv o_vx, .unset, .unset, .unset] [(.ref b314)]) st314 ?_
    refine own_dup 141 X314 hx (hb hby at_140) rfl rfl ?_
    refine own_al 143 X314 hx (hb hby at_141) rfl rfl rfl ?_
    refine own_al 145 X314 hx (hb hby at_143) rfl rfl rfl ?_
    refine own_al 147 X314 hx (hb hby at_145) rfl rfl rfl ?_
    refine own_iln 148 X314 hx (hb hby at_147) rfl rfl ?_
    refine own_il 150 X314 hx (hb hby at_148) rfl rfl ?_
    obtain ⟨_, T315, Lc315, X315, hQ315, st315⟩ := own_special X314 hx (y := (⟨"com/example/ianus/ianus/Token", "<init>", "(Lcom/example/ianus/ianus/Token$Kind;Ljava/lang/String;Ljava/lang/String;II)V"⟩ : MethodName)) rfl hown (mvT hZ (own_w hw 33 rfl)) (mvT hZ (own_w hw 34 rfl)) (mvT hZ (own_w hw 35 rfl)) (by decide) (backOf (W := 1) (own_rmCT l Z a0 hw [] b314 aS o_tx o_vx p3 p4 h314 n0 (Nat.le_trans Z0 KP.1) OL ge_b314 E_b314 F_kind_b314 F_text_b314 F_value_b314 F_line_b314 F_column_b314) hZ (own_w hw 35 rfl) (own_w hw 32 rfl) (by decide) (by decide)) (g := (mkF m 150 #[iv p0, iv p1, iv p2, iv p3, iv p4, iv 1, iv nn, iv ca, iv cb, iv cc, iv cd, rv aS, rv o_tx, rv o_vx, .unset, .unset, .unset] [(.int p4), (.int p3), (.ref o_vx), (.ref o_tx), (.ref aS), (.ref b314), (.ref b314)])) rfl (by rw [hml]; rfl) (a := b314) (argsL := [(.ref aS), (.ref o_tx), (.ref o_vx), (.int p3), (.int p4)]) (rest := [(.ref b314)]) (lenOf own_pd23 rfl) rfl (by show 2 * 0 + _ ≤ _; exact Nat.le_of_eq rfl) (hb hby at_150) rfl e314 (kc := 13) (ks := 29) rfl rfl (by decide) (by decide)
    obtain ⟨rfl, N315q, K315, Ek315, Fk315, Ft315⟩ := hQ315
    have N315 := Fr.app N313 N315q
    have SFk : ∀ x ∈ [b314], Safe Z own_EL T313.vm h314 x := (sfS (Safe.exa hZ.alike E_b314 (by decide) (by decide)) sf0)
    have CHR := CHR.trans (CHr.keep K315 SFk CH)
    have CH := CH.keep K315 SFk
    have OL := OL.keep K315 (allS ge_b314 all0)
    have KP := KP.trans K315 (allS (Or.inr sz_b314) all0)
    have hk1 := Nat.le_trans hk1 K315.1
    have S_tx := S_tx.keep K315 (ninS ne_o_tx_b314 nin0) (ninS ne_t_tx_b314 nin0)
    have E_b314 := E_b314.keep K315
    refine own_via (mkF m 153 #[iv p0, iv p1, iv p2, iv p3, iv p4, iv 1, iv nn, iv ca, iv cb, iv cc, iv cd, rv aS, rv o_tx, rv o_vx, .unset, .unset, .unset] [(.ref b314)]) st315 ?_
    have EK : Exa Z T315.heap b314 "com/example/ianus/ianus/Token" := Ek315
    have FK : Fld Z T315.heap b314 "com/example/ianus/ianus/Token" "kind" "Lcom/example/ianus/ianus/Token$Kind;" (.ref aS) := Fk315
    have FT : Fld Z T315.heap b314 "com/example/ianus/ianus/Token" "text" "Ljava/lang/String;" (.ref o_tx) := Ft315
    refine own_as 155 #[iv p0, iv p1, iv p2, iv p3, iv p4, iv 1, iv nn, iv ca, iv cb, iv cc, iv cd, rv aS, rv o_tx, rv o_vx, rv b314, .unset, .unset] X315 hx (hb hby at_153) rfl rfl rfl ?_
    refine own_al 157 X315 hx (hb hby at_155) rfl rfl rfl ?_
    obtain ⟨cq316, kq316, q316a, q316b, q316c⟩ := isOf (s := s.setVm T313.vm) hZ rfl EK
    obtain ⟨_, _, ⟨T316, L316, k316, n316⟩, -, X316, hS316, gr316, ⟨Lc316, hQ316, l316, y316, z316, CR316⟩, st316⟩ := Stand.virtualBackS (s := s.setVm T313.vm) X315 hx (y := (⟨"com/example/ianus/ianus/Token", "describe", "()Ljava/lang/String;"⟩ : MethodName)) (z := (⟨"com/example/ianus/ianus/Token", "describe", "()Ljava/lang/String;"⟩ : MethodName)) hown (mvT hZ (own_w hw 47 rfl)) (mvT hZ (own_w hw 48 rfl)) (notFace_of_selects (args := #[]) (mvT hZ (own_w hw 50 rfl))) (mvT hZ (own_w hw 50 rfl)) (mvT hZ (own_w hw 49 rfl)) (by decide) (backOfSH (s := s) (vm0 := T313.vm) (W := 0) (own_rmDS l Z a0 hw [] nn ca cb G1 b314 aS o_tx t_tx kb_tx aE aS T315.heap n0 (Nat.le_trans Z0 KP.1) OL h3nn c8_ca c8_cb FK FT S_tx O2 P5 SaE SaS ne_aS_aE) hZ (own_w hw 51 rfl) (own_w hw 32 rfl) (by decide) (by decide) hEW CH) q316a q316c (g := (mkF m 157 #[iv p0, iv p1, iv p2, iv p3, iv p4, iv 1, iv nn, iv ca, iv cb, iv cc, iv cd, rv aS, rv o_tx, rv o_vx, rv b314, .unset, .unset] [(.ref b314)])) rfl (by rw [hml]; rfl) (Steps.refl _) (argsL := []) (rest := []) (lenOf own_pd20 rfl) rfl (by show 2 * 0 + _ ≤ _; exact Nat.le_of_eq rfl) (hb hby at_157) (fun _ _ => ⟨rfl, rfl, (by decide : 13 + 6 ≤ _), (by decide : 29 + 90 ≤ _)⟩)
    dsimp only [Pt.U, Pt.locs, Pt.cells, Pt.slots] at X316 hS316 gr316 l316 y316 z316 CR316 st316 hQ316
    subst l316 y316 z316
    obtain ⟨rr, tr, kr, rfl, N316q, K316, S_rr⟩ := hQ316
    have N316 := Fr.app N315 N316q
    obtain ⟨X316, hS, hZ, hown⟩ := rebS hS (hk1 : _ ≤ (T315.heap).size) X316 hS316 (gr316) hZ hown
    have OL := OL.keep K316 all0
    have KP := KP.trans K316 all0
    have S_tx := S_tx.keep K316 nin0 nin0
    have EK := EK.keep K316
    have FK := FK.keep K316 nin0
    have FT := FT.keep K316 nin0
    have hk1 : T316.heap.size ≤ T316.heap.size := Nat.le_refl _
    have CHR := CHR.trans CR316
    have CH := CR316.1
    have X316 : Stand p l e room_1 (s.setVm T316.vm) m #[(.int p0), (.int p1), (.int p2), (.int p3), (.int p4)] below meth c T316 _ 19 119 := X316
    refine own_via (mkF m 160 #[iv p0, iv p1, iv p2, iv p3, iv p4, iv 1, iv nn, iv ca, iv cb, iv cc, iv cd, rv aS, rv o_tx, rv o_vx, rv b314, .unset, .unset] [(.ref rr)]) st316 ?_
    refine own_as 162 #[iv p0, iv p1, iv p2, iv p3, iv p4, iv 1, iv nn, iv ca, iv cb, iv cc, iv cd, rv aS, rv o_tx, rv o_vx, rv b314, rv rr, .unset] X316 hx (hb hby at_160) rfl rfl rfl ?_
    refine own_il 164 X316 hx (hb hby at_162) rfl rfl ?_
    refine own_ic 165 4 X316 hx (hb hby at_164) rfl rfl ?_
    refine own_icY 175 X316 hx (hb hby at_165) (feq (by decide : ¬ ((1 : Int32) = (4 : Int32)))).2 (by decide) (by decide) ?_
    refine own_il 177 X316 hx (hb hby at_175) rfl rfl ?_
    refine own_ic 178 1 X316 hx (hb hby at_177) rfl rfl ?_
    refine own_icN 181 X316 hx (hb hby at_178) (teq (by decide : (1 : Int32) = (1 : Int32))).2 rfl ?_
    refine own_il 183 X316 hx (hb hby at_181) rfl rfl ?_
    refine own_il 185 X316 hx (hb hby at_183) rfl rfl ?_
    refine own_il 187 X316 hx (hb hby at_185) rfl rfl ?_
    obtain ⟨_, T317, Lc317, X317, hQ317, st317⟩ := own_callS X316 hx (y := (⟨"com/example/ianus/ianus/TokenDescribePinLaw", "prefixed", "(ICC)Ljava/lang/String;"⟩ : MethodName)) hown (mvT hZ (own_w hw 209 rfl)) (mvT hZ (own_w hw 210 rfl)) (mvT hZ (own_w hw 6 rfl)) (mvT hZ (own_w hw 211 rfl)) (by decide) (backOf (W := 0) (own_rmPF l Z a0 hw [] nn ca cb G1 T316.heap n0 (Nat.le_trans Z0 KP.1) OL h3nn c8_ca c8_cb O2 P5) hZ (own_w hw 211 rfl) (own_w hw 6 rfl) (by decide) (by decide)) (g := (mkF m 187 #[iv p0, iv p1, iv p2, iv p3, iv p4, iv 1, iv nn, iv ca, iv cb, iv cc, iv cd, rv aS, rv o_tx, rv o_vx, rv b314, rv rr, .unset] [(.int cb), (.int ca), (.int nn)])) rfl (by rw [hml]; rfl) (argsL := [(.int nn), (.int ca), (.int cb)]) (rest := []) (lenOf own_pd22 rfl) rfl (by show 2 * 0 + _ ≤ _; exact Nat.le_of_eq rfl) (hb hby at_187) rfl rfl (kc := 23) (ks := 149) rfl rfl (by decide) (by decide)
    obtain ⟨la1, lb1, lk1, rfl, N317q, K317, S_ex⟩ := hQ317
    have N317 := Fr.app N316 N317q
    have CHR := CHR.trans (CHr.keep K317 sf0 CH)
    have CH := CH.keep K317 sf0
    have OL := OL.keep K317 all0
    have KP := KP.trans K317 all0
    have hk1 := Nat.le_trans hk1 K317.1
    have S_rr := S_rr.keep K317 nin0 nin0
    refine own_to (mkF m 190 #[iv p0, iv p1, iv p2, iv p3, iv p4, iv 1, iv nn, iv ca, iv cb, iv cc, iv cd, rv aS, rv o_tx, rv o_vx, rv b314, rv rr, .unset] [(.ref la1)]) st317 ?_
    refine own_as 192 #[iv p0, iv p1, iv p2, iv p3, iv p4, iv 1, iv nn, iv ca, iv cb, iv cc, iv cd, rv aS, rv o_tx, rv o_vx, rv b314, rv rr, rv la1] X317 hx (hb hby at_190) rfl rfl rfl ?_
    refine own_go 206 X317 hx (hb hby at_192) (by decide) (by decide) ?_
    refine own_al 208 X317 hx (hb hby at_206) rfl rfl rfl ?_
    refine own_al 210 X317 hx (hb hby at_208) rfl rfl rfl ?_
    obtain ⟨cq318, kq318, q318a, q318b, q318c⟩ := isOf hZ rfl S_rr.1
    obtain ⟨_, T318, Lc318, X318, hQ318, st318⟩ := own_virtual X317 hx (y := (⟨"java/lang/String", "equals", "(Ljava/lang/Object;)Z"⟩ : MethodName)) (z := (⟨"java/lang/String", "equals", "(Ljava/lang/Object;)Z"⟩ : MethodName)) hown (mvT hZ (own_w hw 194 rfl)) (mvT hZ (own_w hw 195 rfl)) (notFace_of_selects (args := #[]) (mvT hZ (own_w hw 197 rfl))) (mvT hZ (own_w hw 197 rfl)) (mvT hZ (own_w hw 196 rfl)) (by decide) (own_backEq (W := 0) hZ hwsE (own_w hw 9 rfl) S_rr S_ex (O2.ext OL.2) P5 (by decide) (by decide)) q318a q318c (g := (mkF m 210 #[iv p0, iv p1, iv p2, iv p3, iv p4, iv 1, iv nn, iv ca, iv cb, iv cc, iv cd, rv aS, rv o_tx, rv o_vx, rv b314, rv rr, rv la1] [(.ref la1), (.ref rr)])) rfl (by rw [hml]; rfl) (argsL := [(.ref la1)]) (rest := []) (lenOf own_pd24 rfl) rfl (by show 2 * 0 + _ ≤ _; exact Nat.le_of_eq rfl) (hb hby at_210) rfl rfl (kc := 23) (ks := 149) rfl rfl (by decide) (by decide)
    obtain ⟨hor318, rfl, e318⟩ := hQ318
    have N318q : Fr n0 ([] : List Loc) := Fr.nil n0
    have N318 := Fr.app N317 N318q
    rcases hor318 with ⟨rfl, q⟩ | ⟨rfl, q⟩
    · refine own_via (mkF m 213 #[iv p0, iv p1, iv p2, iv p3, iv p4, iv 1, iv nn, iv ca, iv cb, iv cc, iv cd, rv aS, rv o_tx, rv o_vx, rv b314, rv rr, rv la1] [(.int (1 : Int32))]) st318 ?_
      exact own_retNH (s := s) (vm₁ := T316.vm) X318 hS (by rw [e318]; exact hk1) hZ hEW (by rw [e318]; exact CH) (by rw [hh, e318]; exact CHR) hx (t := .boolean) Bd.returns (by simp) hlk (hb hby at_213) (by decide) (by decide) (by rw [e318]; exact ⟨rfl, N318⟩)
    · exact absurd rfl q
  · subst q
    obtain ⟨T319, X319, e319, st319⟩ := getS2 X0 hx hZ hown (host := "") (Or.inl (own_w hw 1 rfl)) Via.refl e0 (SaI.ext OL.2) (g := (mkF m 57 #[iv p0, iv p1, iv p2, iv p3, iv p4, iv 2, iv nn, iv ca, iv cb, iv cc, iv cd, .unset, .unset, .unset, .unset, .unset, .unset] [])) rfl (hb hby at_57)
    refine own_to (mkF m 60 #[iv p0, iv p1, iv p2, iv p3, iv p4, iv 2, iv nn, iv ca, iv cb, iv cc, iv cd, .unset, .unset, .unset, .unset, .unset, .unset] [(.ref aI)]) st319 ?_
    refine own_as 62 #[iv p0, iv p1, iv p2, iv p3, iv p4, iv 2, iv nn, iv ca, iv cb, iv cc, iv cd, rv aI, .unset, .unset, .unset, .unset, .unset] X319 hx (hb hby at_60) rfl rfl rfl ?_
    refine own_il 64 X319 hx (hb hby at_62) rfl rfl ?_
    refine own_ic 65 1 X319 hx (hb hby at_64) rfl rfl ?_
    refine own_icY 76 X319 hx (hb hby at_65) (feq (by decide : ¬ ((2 : Int32) = (1 : Int32)))).2 (by decide) (by decide) ?_
    refine own_il 78 X319 hx (hb hby at_76) rfl rfl ?_
    refine own_ic 79 2 X319 hx (hb hby at_78) rfl rfl ?_
    refine own_icN 82 X319 hx (hb hby at_79) (teq (by decide : (2 : Int32) = (2 : Int32))).2 rfl ?_
    obtain ⟨T320, X320, e320, st320⟩ := getS2 X319 hx hZ hown (host := "") (Or.inl (own_w hw 205 rfl)) Via.refl e319 (SaN.ext OL.2) (g := (mkF m 82 #[iv p0, iv p1, iv p2, iv p3, iv p4, iv 2, iv nn, iv ca, iv cb, iv cc, iv cd, rv aI, .unset, .unset, .unset, .unset, .unset] [])) rfl (hb hby at_82)
    refine own_to (mkF m 85 #[iv p0, iv p1, iv p2, iv p3, iv p4, iv 2, iv nn, iv ca, iv cb, iv cc, iv cd, rv aI, .unset, .unset, .unset, .unset, .unset] [(.ref aN)]) st320 ?_
    refine own_as 87 #[iv p0, iv p1, iv p2, iv p3, iv p4, iv 2, iv nn, iv ca, iv cb, iv cc, iv cd, rv aN, .unset, .unset, .unset, .unset, .unset] X320 hx (hb hby at_85) rfl rfl rfl ?_
    refine own_go 115 X320 hx (hb hby at_87) (by decide) (by decide) ?_
    refine own_il 117 X320 hx (hb hby at_115) rfl rfl ?_
    refine own_il 119 X320 hx (hb hby at_117) rfl rfl ?_
    refine own_il 121 X320 hx (hb hby at_119) rfl rfl ?_
    obtain ⟨_, _, ⟨T321, L321, k321, n321⟩, -, X321, hS321, gr321, ⟨Lc321, hQ321, l321, y321, z321, CR321⟩, st321⟩ := callSS (s := s.setVm s.vm) X320 hx (y := (⟨"com/example/ianus/ianus/TokenDescribePinLaw", "make", "(ICC)Ljava/lang/String;"⟩ : MethodName)) hown (mvT hZ (own_w hw 4 rfl)) (mvT hZ (own_w hw 5 rfl)) (mvT hZ (own_w hw 6 rfl)) (mvT hZ (own_w hw 7 rfl)) (by decide) (backOfSH (s := s) (vm0 := s.vm) (W := 0) (own_rmMK l Z a0 hw [] nn ca cb G1 h0 n0 (Nat.le_trans Z0 KP.1) OL h3nn c8_ca c8_cb O2 P5) hZ (own_w hw 7 rfl) (own_w hw 6 rfl) (by decide) (by decide) hEW CH) (g := (mkF m 121 #[iv p0, iv p1, iv p2, iv p3, iv p4, iv 2, iv nn, iv ca, iv cb, iv cc, iv cd, rv aN, .unset, .unset, .unset, .unset, .unset] [(.int cb), (.int ca), (.int nn)])) rfl (by rw [hml]; rfl) (argsL := [(.int nn), (.int ca), (.int cb)]) (rest := []) (lenOf own_pd22 rfl) rfl (by show 2 * 0 + _ ≤ _; exact Nat.le_of_eq rfl) (hb hby at_121) (fun _ _ => ⟨rfl, e320, (by decide : 0 + 6 ≤ _), (by decide : 0 + 12 ≤ _)⟩)
    dsimp only [Pt.U, Pt.locs, Pt.cells, Pt.slots] at X321 hS321 gr321 l321 y321 z321 CR321 st321 hQ321
    subst l321 y321 z321
    obtain ⟨o_tx, t_tx, kb_tx, rfl, N321q, K321, S_tx⟩ := hQ321
    have N321 := Fr.app N0 N321q
    obtain ⟨X321, hS, hZ, hown⟩ := rebS hS (hk1 : _ ≤ (h0).size) X321 hS321 (by rw [e320] at gr321; exact gr321) hZ hown
    have OL := OL.keep K321 all0
    have KP := KP.trans K321 all0
    have hk1 : T321.heap.size ≤ T321.heap.size := Nat.le_refl _
    have CHR := CHR.trans CR321
    have CH := CR321.1
    have X321 : Stand p l e room_1 (s.setVm T321.vm) m #[(.int p0), (.int p1), (.int p2), (.int p3), (.int p4)] below meth c T321 _ 6 12 := X321
    refine own_via (mkF m 124 #[iv p0, iv p1, iv p2, iv p3, iv p4, iv 2, iv nn, iv ca, iv cb, iv cc, iv cd, rv aN, .unset, .unset, .unset, .unset, .unset] [(.ref o_tx)]) st321 ?_
    refine own_as 126 #[iv p0, iv p1, iv p2, iv p3, iv p4, iv 2, iv nn, iv ca, iv cb, iv cc, iv cd, rv aN, rv o_tx, .unset, .unset, .unset, .unset] X321 hx (hb hby at_124) rfl rfl rfl ?_
    refine own_il 128 X321 hx (hb hby at_126) rfl rfl ?_
    refine own_il 130 X321 hx (hb hby at_128) rfl rfl ?_
    refine own_il 132 X321 hx (hb hby at_130) rfl rfl ?_
    obtain ⟨_, _, ⟨T322, L322, k322, n322⟩, -, X322, hS322, gr322, ⟨Lc322, hQ322, l322, y322, z322, CR322⟩, st322⟩ := callSS (s := s.setVm T321.vm) X321 hx (y := (⟨"com/example/ianus/ianus/TokenDescribePinLaw", "make", "(ICC)Ljava/lang/String;"⟩ : MethodName)) hown (mvT hZ (own_w hw 4 rfl)) (mvT hZ (own_w hw 5 rfl)) (mvT hZ (own_w hw 6 rfl)) (mvT hZ (own_w hw 7 rfl)) (by decide) (backOfSH (s := s) (vm0 := T321.vm) (W := 0) (own_rmMK l Z a0 hw [] nn cc cd G1 T321.heap n0 (Nat.le_trans Z0 KP.1) OL h3nn c8_cc c8_cd O2 P5) hZ (own_w hw 7 rfl) (own_w hw 6 rfl) (by decide) (by decide) hEW CH) (g := (mkF m 132 #[iv p0, iv p1, iv p2, iv p3, iv p4, iv 2, iv nn, iv ca, iv cb, iv cc, iv cd, rv aN, rv o_tx, .unset, .unset, .unset, .unset] [(.int cd), (.int cc), (.int nn)])) rfl (by rw [hml]; rfl) (argsL := [(.int nn), (.int cc), (.int cd)]) (rest := []) (lenOf own_pd22 rfl) rfl (by show 2 * 0 + _ ≤ _; exact Nat.le_of_eq rfl) (hb hby at_132) (fun _ _ => ⟨rfl, rfl, (by decide : 6 + 6 ≤ _), (by decide : 12 + 12 ≤ _)⟩)
    dsimp only [Pt.U, Pt.locs, Pt.cells, Pt.slots] at X322 hS322 gr322 l322 y322 z322 CR322 st322 hQ322
    subst l322 y322 z322
    obtain ⟨o_vx, t_vx, kb_vx, rfl, N322q, K322, S_vx⟩ := hQ322
    have N322 := Fr.app N321 N322q
    obtain ⟨X322, hS, hZ, hown⟩ := rebS hS (hk1 : _ ≤ (T321.heap).size) X322 hS322 (gr322) hZ hown
    have OL := OL.keep K322 all0
    have KP := KP.trans K322 all0
    have S_tx := S_tx.keep K322 nin0 nin0
    have hk1 : T322.heap.size ≤ T322.heap.size := Nat.le_refl _
    have CHR := CHR.trans CR322
    have CH := CR322.1
    have X322 : Stand p l e room_1 (s.setVm T322.vm) m #[(.int p0), (.int p1), (.int p2), (.int p3), (.int p4)] below meth c T322 _ 12 24 := X322
    refine own_via (mkF m 135 #[iv p0, iv p1, iv p2, iv p3, iv p4, iv 2, iv nn, iv ca, iv cb, iv cc, iv cd, rv aN, rv o_tx, .unset, .unset, .unset, .unset] [(.ref o_vx)]) st322 ?_
    refine own_as 137 #[iv p0, iv p1, iv p2, iv p3, iv p4, iv 2, iv nn, iv ca, iv cb, iv cc, iv cd, rv aN, rv o_tx, rv o_vx, .unset, .unset, .unset] X322 hx (hb hby at_135) rfl rfl rfl ?_
    obtain ⟨T323, h323, X323, e323, E323, A323, D323, -, st323⟩ := newO X322 hx hZ hown (own_w hw 30 rfl) (own_w hw 31 rfl) (own_w hw 32 rfl) rfl (g := (mkF m 137 #[iv p0, iv p1, iv p2, iv p3, iv p4, iv 2, iv nn, iv ca, iv cb, iv cc, iv cd, rv aN, rv o_tx, rv o_vx, .unset, .unset, .unset] [])) rfl (hb hby at_137) (by decide) (by decide)
    obtain ⟨b323, g323⟩ : ∃ z, z = T322.heap.size := ⟨_, rfl⟩
    rw [← g323] at A323 D323 st323
    have sz_b323 : h0.size ≤ b323 := Nat.le_trans KP.1 (Nat.le_of_eq g323.symm)
    have ge_b323 : n0 ≤ b323 := Nat.le_trans Z0 sz_b323
    have ne_o_tx_b323 : o_tx ≠ b323 := Nat.ne_of_lt (Nat.lt_of_lt_of_le S_tx.lt (Nat.le_of_eq g323.symm))
    have ne_t_tx_b323 : t_tx ≠ b323 := Nat.ne_of_lt (Nat.lt_of_lt_of_le S_tx.ltT (Nat.le_of_eq g323.symm))
    have CHR := CHR.trans (CHr.ext E323 CH)
    have CH := CH.ext E323
    have OL := OL.ext E323
    have KP := KP.ext E323
    have hk1 := Nat.le_trans hk1 E323.1
    have S_tx := S_tx.ext E323
    have E_b323 : Exa Z h323 b323 "com/example/ianus/ianus/Token" := A323
    have F_kind_b323 : Fld Z h323 b323 "com/example/ianus/ianus/Token" "kind" "Lcom/example/ianus/ianus/Token$Kind;" .null := D323 (Or.inr (own_w hw 38 rfl)) (ty := (.object "com/example/ianus/ianus/Token$Kind")) (by decide)
    have F_text_b323 : Fld Z h323 b323 "com/example/ianus/ianus/Token" "text" "Ljava/lang/String;" .null := D323 (Or.inr (own_w hw 40 rfl)) (ty := (.object "java/lang/String")) (by decide)
    have F_value_b323 : Fld Z h323 b323 "com/example/ianus/ianus/Token" "value" "Ljava/lang/String;" .null := D323 (Or.inr (own_w hw 42 rfl)) (ty := (.object "java/lang/String")) (by decide)
    have F_line_b323 : Fld Z h323 b323 "com/example/ianus/ianus/Token" "line" "I" (.int (0 : Int32)) := D323 (Or.inr (own_w hw 44 rfl)) (ty := .int) (by decide)
    have F_column_b323 : Fld Z h323 b323 "com/example/ianus/ianus/Token" "column" "I" (.int (0 : Int32)) := D323 (Or.inr (own_w hw 46 rfl)) (ty := .int) (by decide)
    refine own_to (mkF m 140 #[iv p0, iv p1, iv p2, iv p3, iv p4, iv 2, iv nn, iv ca, iv cb, iv cc, iv cd, rv aN, rv o_tx, rv o_vx, .unset, .unset, .unset] [(.ref b323)]) st323 ?_
    refine own_dup 141 X323 hx (hb hby at_140) rfl rfl ?_
    refine own_al 143 X323 hx (hb hby at_141) rfl rfl rfl ?_
    refine own_al 145 X323 hx (hb hby at_143) rfl rfl rfl ?_
    refine own_al 147 X323 hx (hb hby at_145) rfl rfl rfl ?_
    refine own_iln 148 X323 hx (hb hby at_147) rfl rfl ?_
    refine own_il 150 X323 hx (hb hby at_148) rfl rfl ?_
    obtain ⟨_, T324, Lc324, X324, hQ324, st324⟩ := own_special X323 hx (y := (⟨"com/example/ianus/ianus/Token", "<init>", "(Lcom/example/ianus/ianus/Token$Kind;Ljava/lang/String;Ljava/lang/String;II)V"⟩ : MethodName)) rfl hown (mvT hZ (own_w hw 33 rfl)) (mvT hZ (own_w hw 34 rfl)) (mvT hZ (own_w hw 35 rfl)) (by decide) (backOf (W := 1) (own_rmCT l Z a0 hw [] b323 aN o_tx o_vx p3 p4 h323 n0 (Nat.le_trans Z0 KP.1) OL ge_b323 E_b323 F_kind_b323 F_text_b323 F_value_b323 F_line_b323 F_column_b323) hZ (own_w hw 35 rfl) (own_w hw 32 rfl) (by decide) (by decide)) (g := (mkF m 150 #[iv p0, iv p1, iv p2, iv p3, iv p4, iv 2, iv nn, iv ca, iv cb, iv cc, iv cd, rv aN, rv o_tx, rv o_vx, .unset, .unset, .unset] [(.int p4), (.int p3), (.ref o_vx), (.ref o_tx), (.ref aN), (.ref b323), (.ref b323)])) rfl (by rw [hml]; rfl) (a := b323) (argsL := [(.ref aN), (.ref o_tx), (.ref o_vx), (.int p3), (.int p4)]) (rest := [(.ref b323)]) (lenOf own_pd23 rfl) rfl (by show 2 * 0 + _ ≤ _; exact Nat.le_of_eq rfl) (hb hby at_150) rfl e323 (kc := 13) (ks := 29) rfl rfl (by decide) (by decide)
    obtain ⟨rfl, N324q, K324, Ek324, Fk324, Ft324⟩ := hQ324
    have N324 := Fr.app N322 N324q
    have SFk : ∀ x ∈ [b323], Safe Z own_EL T322.vm h323 x := (sfS (Safe.exa hZ.alike E_b323 (by decide) (by decide)) sf0)
    have CHR := CHR.trans (CHr.keep K324 SFk CH)
    have CH := CH.keep K324 SFk
    have OL := OL.keep K324 (allS ge_b323 all0)
    have KP := KP.trans K324 (allS (Or.inr sz_b323) all0)
    have hk1 := Nat.le_trans hk1 K324.1
    have S_tx := S_tx.keep K324 (ninS ne_o_tx_b323 nin0) (ninS ne_t_tx_b323 nin0)
    have E_b323 := E_b323.keep K324
    refine own_via (mkF m 153 #[iv p0, iv p1, iv p2, iv p3, iv p4, iv 2, iv nn, iv ca, iv cb, iv cc, iv cd, rv aN, rv o_tx, rv o_vx, .unset, .unset, .unset] [(.ref b323)]) st324 ?_
    have EK : Exa Z T324.heap b323 "com/example/ianus/ianus/Token" := Ek324
    have FK : Fld Z T324.heap b323 "com/example/ianus/ianus/Token" "kind" "Lcom/example/ianus/ianus/Token$Kind;" (.ref aN) := Fk324
    have FT : Fld Z T324.heap b323 "com/example/ianus/ianus/Token" "text" "Ljava/lang/String;" (.ref o_tx) := Ft324
    refine own_as 155 #[iv p0, iv p1, iv p2, iv p3, iv p4, iv 2, iv nn, iv ca, iv cb, iv cc, iv cd, rv aN, rv o_tx, rv o_vx, rv b323, .unset, .unset] X324 hx (hb hby at_153) rfl rfl rfl ?_
    refine own_al 157 X324 hx (hb hby at_155) rfl rfl rfl ?_
    obtain ⟨cq325, kq325, q325a, q325b, q325c⟩ := isOf (s := s.setVm T322.vm) hZ rfl EK
    obtain ⟨_, _, ⟨T325, L325, k325, n325⟩, -, X325, hS325, gr325, ⟨Lc325, hQ325, l325, y325, z325, CR325⟩, st325⟩ := Stand.virtualBackS (s := s.setVm T322.vm) X324 hx (y := (⟨"com/example/ianus/ianus/Token", "describe", "()Ljava/lang/String;"⟩ : MethodName)) (z := (⟨"com/example/ianus/ianus/Token", "describe", "()Ljava/lang/String;"⟩ : MethodName)) hown (mvT hZ (own_w hw 47 rfl)) (mvT hZ (own_w hw 48 rfl)) (notFace_of_selects (args := #[]) (mvT hZ (own_w hw 50 rfl))) (mvT hZ (own_w hw 50 rfl)) (mvT hZ (own_w hw 49 rfl)) (by decide) (backOfSH (s := s) (vm0 := T322.vm) (W := 0) (own_rmDQ l Z a0 hw [] nn ca cb G1 b323 aN o_tx t_tx kb_tx aE aS T324.heap n0 (Nat.le_trans Z0 KP.1) OL h3nn c8_ca c8_cb FK FT S_tx O2 P5 SaE SaS ne_aN_aE ne_aN_aS) hZ (own_w hw 51 rfl) (own_w hw 32 rfl) (by decide) (by decide) hEW CH) q325a q325c (g := (mkF m 157 #[iv p0, iv p1, iv p2, iv p3, iv p4, iv 2, iv nn, iv ca, iv cb, iv cc, iv cd, rv aN, rv o_tx, rv o_vx, rv b323, .unset, .unset] [(.ref b323)])) rfl (by rw [hml]; rfl) (Steps.refl _) (argsL := []) (rest := []) (lenOf own_pd20 rfl) rfl (by show 2 * 0 + _ ≤ _; exact Nat.le_of_eq rfl) (hb hby at_157) (fun _ _ => ⟨rfl, rfl, (by decide : 13 + 6 ≤ _), (by decide : 29 + 90 ≤ _)⟩)
    dsimp only [Pt.U, Pt.locs, Pt.cells, Pt.slots] at X325 hS325 gr325 l325 y325 z325 CR325 st325 hQ325
    subst l325 y325 z325
    obtain ⟨rr, tr, kr, rfl, N325q, K325, S_rr⟩ := hQ325
    have N325 := Fr.app N324 N325q
    obtain ⟨X325, hS, hZ, hown⟩ := rebS hS (hk1 : _ ≤ (T324.heap).size) X325 hS325 (gr325) hZ hown
    have OL := OL.keep K325 all0
    have KP := KP.trans K325 all0
    have S_tx := S_tx.keep K325 nin0 nin0
    have EK := EK.keep K325
    have FK := FK.keep K325 nin0
    have FT := FT.keep K325 nin0
    have hk1 : T325.heap.size ≤ T325.heap.size := Nat.le_refl _
    have CHR := CHR.trans CR325
    have CH := CR325.1
    have X325 : Stand p l e room_1 (s.setVm T325.vm) m #[(.int p0), (.int p1), (.int p2), (.int p3), (.int p4)] below meth c T325 _ 19 119 := X325
    refine own_via (mkF m 160 #[iv p0, iv p1, iv p2, iv p3, iv p4, iv 2, iv nn, iv ca, iv cb, iv cc, iv cd, rv aN, rv o_tx, rv o_vx, rv b323, .unset, .unset] [(.ref rr)]) st325 ?_
    refine own_as 162 #[iv p0, iv p1, iv p2, iv p3, iv p4, iv 2, iv nn, iv ca, iv cb, iv cc, iv cd, rv aN, rv o_tx, rv o_vx, rv b323, rv rr, .unset] X325 hx (hb hby at_160) rfl rfl rfl ?_
    refine own_il 164 X325 hx (hb hby at_162) rfl rfl ?_
    refine own_ic 165 4 X325 hx (hb hby at_164) rfl rfl ?_
    refine own_icY 175 X325 hx (hb hby at_165) (feq (by decide : ¬ ((2 : Int32) = (4 : Int32)))).2 (by decide) (by decide) ?_
    refine own_il 177 X325 hx (hb hby at_175) rfl rfl ?_
    refine own_ic 178 1 X325 hx (hb hby at_177) rfl rfl ?_
    refine own_icY 195 X325 hx (hb hby at_178) (feq (by decide : ¬ ((2 : Int32) = (1 : Int32)))).2 (by decide) (by decide) ?_
    refine own_il 197 X325 hx (hb hby at_195) rfl rfl ?_
    refine own_il 199 X325 hx (hb hby at_197) rfl rfl ?_
    refine own_il 201 X325 hx (hb hby at_199) rfl rfl ?_
    obtain ⟨_, T326, Lc326, X326, hQ326, st326⟩ := own_callS X325 hx (y := (⟨"com/example/ianus/ianus/TokenDescribePinLaw", "quoted", "(ICC)Ljava/lang/String;"⟩ : MethodName)) hown (mvT hZ (own_w hw 181 rfl)) (mvT hZ (own_w hw 182 rfl)) (mvT hZ (own_w hw 6 rfl)) (mvT hZ (own_w hw 183 rfl)) (by decide) (backOf (W := 0) (own_rmQT l Z a0 hw [] nn ca cb G1 T325.heap n0 (Nat.le_trans Z0 KP.1) OL h3nn c8_ca c8_cb O2 P5) hZ (own_w hw 183 rfl) (own_w hw 6 rfl) (by decide) (by decide)) (g := (mkF m 201 #[iv p0, iv p1, iv p2, iv p3, iv p4, iv 2, iv nn, iv ca, iv cb, iv cc, iv cd, rv aN, rv o_tx, rv o_vx, rv b323, rv rr, .unset] [(.int cb), (.int ca), (.int nn)])) rfl (by rw [hml]; rfl) (argsL := [(.int nn), (.int ca), (.int cb)]) (rest := []) (lenOf own_pd22 rfl) rfl (by show 2 * 0 + _ ≤ _; exact Nat.le_of_eq rfl) (hb hby at_201) rfl rfl (kc := 23) (ks := 149) rfl rfl (by decide) (by decide)
    obtain ⟨la1, lb1, lk1, rfl, N326q, K326, S_ex⟩ := hQ326
    have N326 := Fr.app N325 N326q
    have CHR := CHR.trans (CHr.keep K326 sf0 CH)
    have CH := CH.keep K326 sf0
    have OL := OL.keep K326 all0
    have KP := KP.trans K326 all0
    have hk1 := Nat.le_trans hk1 K326.1
    have S_rr := S_rr.keep K326 nin0 nin0
    refine own_to (mkF m 204 #[iv p0, iv p1, iv p2, iv p3, iv p4, iv 2, iv nn, iv ca, iv cb, iv cc, iv cd, rv aN, rv o_tx, rv o_vx, rv b323, rv rr, .unset] [(.ref la1)]) st326 ?_
    refine own_as 206 #[iv p0, iv p1, iv p2, iv p3, iv p4, iv 2, iv nn, iv ca, iv cb, iv cc, iv cd, rv aN, rv o_tx, rv o_vx, rv b323, rv rr, rv la1] X326 hx (hb hby at_204) rfl rfl rfl ?_
    refine own_al 208 X326 hx (hb hby at_206) rfl rfl rfl ?_
    refine own_al 210 X326 hx (hb hby at_208) rfl rfl rfl ?_
    obtain ⟨cq327, kq327, q327a, q327b, q327c⟩ := isOf hZ rfl S_rr.1
    obtain ⟨_, T327, Lc327, X327, hQ327, st327⟩ := own_virtual X326 hx (y := (⟨"java/lang/String", "equals", "(Ljava/lang/Object;)Z"⟩ : MethodName)) (z := (⟨"java/lang/String", "equals", "(Ljava/lang/Object;)Z"⟩ : MethodName)) hown (mvT hZ (own_w hw 194 rfl)) (mvT hZ (own_w hw 195 rfl)) (notFace_of_selects (args := #[]) (mvT hZ (own_w hw 197 rfl))) (mvT hZ (own_w hw 197 rfl)) (mvT hZ (own_w hw 196 rfl)) (by decide) (own_backEq (W := 0) hZ hwsE (own_w hw 9 rfl) S_rr S_ex (O2.ext OL.2) P5 (by decide) (by decide)) q327a q327c (g := (mkF m 210 #[iv p0, iv p1, iv p2, iv p3, iv p4, iv 2, iv nn, iv ca, iv cb, iv cc, iv cd, rv aN, rv o_tx, rv o_vx, rv b323, rv rr, rv la1] [(.ref la1), (.ref rr)])) rfl (by rw [hml]; rfl) (argsL := [(.ref la1)]) (rest := []) (lenOf own_pd24 rfl) rfl (by show 2 * 0 + _ ≤ _; exact Nat.le_of_eq rfl) (hb hby at_210) rfl rfl (kc := 23) (ks := 149) rfl rfl (by decide) (by decide)
    obtain ⟨hor327, rfl, e327⟩ := hQ327
    have N327q : Fr n0 ([] : List Loc) := Fr.nil n0
    have N327 := Fr.app N326 N327q
    rcases hor327 with ⟨rfl, q⟩ | ⟨rfl, q⟩
    · refine own_via (mkF m 213 #[iv p0, iv p1, iv p2, iv p3, iv p4, iv 2, iv nn, iv ca, iv cb, iv cc, iv cd, rv aN, rv o_tx, rv o_vx, rv b323, rv rr, rv la1] [(.int (1 : Int32))]) st327 ?_
      exact own_retNH (s := s) (vm₁ := T325.vm) X327 hS (by rw [e327]; exact hk1) hZ hEW (by rw [e327]; exact CH) (by rw [hh, e327]; exact CHR) hx (t := .boolean) Bd.returns (by simp) hlk (hb hby at_213) (by decide) (by decide) (by rw [e327]; exact ⟨rfl, N327⟩)
    · exact absurd rfl q
  · subst q
    obtain ⟨T328, X328, e328, st328⟩ := getS2 X0 hx hZ hown (host := "") (Or.inl (own_w hw 1 rfl)) Via.refl e0 (SaI.ext OL.2) (g := (mkF m 57 #[iv p0, iv p1, iv p2, iv p3, iv p4, iv 3, iv nn, iv ca, iv cb, iv cc, iv cd, .unset, .unset, .unset, .unset, .unset, .unset] [])) rfl (hb hby at_57)
    refine own_to (mkF m 60 #[iv p0, iv p1, iv p2, iv p3, iv p4, iv 3, iv nn, iv ca, iv cb, iv cc, iv cd, .unset, .unset, .unset, .unset, .unset, .unset] [(.ref aI)]) st328 ?_
    refine own_as 62 #[iv p0, iv p1, iv p2, iv p3, iv p4, iv 3, iv nn, iv ca, iv cb, iv cc, iv cd, rv aI, .unset, .unset, .unset, .unset, .unset] X328 hx (hb hby at_60) rfl rfl rfl ?_
    refine own_il 64 X328 hx (hb hby at_62) rfl rfl ?_
    refine own_ic 65 1 X328 hx (hb hby at_64) rfl rfl ?_
    refine own_icY 76 X328 hx (hb hby at_65) (feq (by decide : ¬ ((3 : Int32) = (1 : Int32)))).2 (by decide) (by decide) ?_
    refine own_il 78 X328 hx (hb hby at_76) rfl rfl ?_
    refine own_ic 79 2 X328 hx (hb hby at_78) rfl rfl ?_
    refine own_icY 90 X328 hx (hb hby at_79) (feq (by decide : ¬ ((3 : Int32) = (2 : Int32)))).2 (by decide) (by decide) ?_
    refine own_il 92 X328 hx (hb hby at_90) rfl rfl ?_
    refine own_ic 93 3 X328 hx (hb hby at_92) rfl rfl ?_
    refine own_icN 96 X328 hx (hb hby at_93) (teq (by decide : (3 : Int32) = (3 : Int32))).2 rfl ?_
    obtain ⟨T329, X329, e329, st329⟩ := getS2 X328 hx hZ hown (host := "") (Or.inl (own_w hw 203 rfl)) Via.refl e328 (SaY.ext OL.2) (g := (mkF m 96 #[iv p0, iv p1, iv p2, iv p3, iv p4, iv 3, iv nn, iv ca, iv cb, iv cc, iv cd, rv aI, .unset, .unset, .unset, .unset, .unset] [])) rfl (hb hby at_96)
    refine own_to (mkF m 99 #[iv p0, iv p1, iv p2, iv p3, iv p4, iv 3, iv nn, iv ca, iv cb, iv cc, iv cd, rv aI, .unset, .unset, .unset, .unset, .unset] [(.ref aY)]) st329 ?_
    refine own_as 101 #[iv p0, iv p1, iv p2, iv p3, iv p4, iv 3, iv nn, iv ca, iv cb, iv cc, iv cd, rv aY, .unset, .unset, .unset, .unset, .unset] X329 hx (hb hby at_99) rfl rfl rfl ?_
    refine own_go 115 X329 hx (hb hby at_101) (by decide) (by decide) ?_
    refine own_il 117 X329 hx (hb hby at_115) rfl rfl ?_
    refine own_il 119 X329 hx (hb hby at_117) rfl rfl ?_
    refine own_il 121 X329 hx (hb hby at_119) rfl rfl ?_
    obtain ⟨_, _, ⟨T330, L330, k330, n330⟩, -, X330, hS330, gr330, ⟨Lc330, hQ330, l330, y330, z330, CR330⟩, st330⟩ := callSS (s := s.setVm s.vm) X329 hx (y := (⟨"com/example/ianus/ianus/TokenDescribePinLaw", "make", "(ICC)Ljava/lang/String;"⟩ : MethodName)) hown (mvT hZ (own_w hw 4 rfl)) (mvT hZ (own_w hw 5 rfl)) (mvT hZ (own_w hw 6 rfl)) (mvT hZ (own_w hw 7 rfl)) (by decide) (backOfSH (s := s) (vm0 := s.vm) (W := 0) (own_rmMK l Z a0 hw [] nn ca cb G1 h0 n0 (Nat.le_trans Z0 KP.1) OL h3nn c8_ca c8_cb O2 P5) hZ (own_w hw 7 rfl) (own_w hw 6 rfl) (by decide) (by decide) hEW CH) (g := (mkF m 121 #[iv p0, iv p1, iv p2, iv p3, iv p4, iv 3, iv nn, iv ca, iv cb, iv cc, iv cd, rv aY, .unset, .unset, .unset, .unset, .unset] [(.int cb), (.int ca), (.int nn)])) rfl (by rw [hml]; rfl) (argsL := [(.int nn), (.int ca), (.int cb)]) (rest := []) (lenOf own_pd22 rfl) rfl (by show 2 * 0 + _ ≤ _; exact Nat.le_of_eq rfl) (hb hby at_121) (fun _ _ => ⟨rfl, e329, (by decide : 0 + 6 ≤ _), (by decide : 0 + 12 ≤ _)⟩)
    dsimp only [Pt.U, Pt.locs, Pt.cells, Pt.slots] at X330 hS330 gr330 l330 y330 z330 CR330 st330 hQ330
    subst l330 y330 z330
    obtain ⟨o_tx, t_tx, kb_tx, rfl, N330q, K330, S_tx⟩ := hQ330
    have N330 := Fr.app N0 N330q
    obtain ⟨X330, hS, hZ, hown⟩ := rebS hS (hk1 : _ ≤ (h0).size) X330 hS330 (by rw [e329] at gr330; exact gr330) hZ hown
    have OL := OL.keep K330 all0
    have KP := KP.trans K330 all0
    have hk1 : T330.heap.size ≤ T330.heap.size := Nat.le_refl _
    have CHR := CHR.trans CR330
    have CH := CR330.1
    have X330 : Stand p l e room_1 (s.setVm T330.vm) m #[(.int p0), (.int p1), (.int p2), (.int p3), (.int p4)] below meth c T330 _ 6 12 := X330
    refine own_via (mkF m 124 #[iv p0, iv p1, iv p2, iv p3, iv p4, iv 3, iv nn, iv ca, iv cb, iv cc, iv cd, rv aY, .unset, .unset, .unset, .unset, .unset] [(.ref o_tx)]) st330 ?_
    refine own_as 126 #[iv p0, iv p1, iv p2, iv p3, iv p4, iv 3, iv nn, iv ca, iv cb, iv cc, iv cd, rv aY, rv o_tx, .unset, .unset, .unset, .unset] X330 hx (hb hby at_124) rfl rfl rfl ?_
    refine own_il 128 X330 hx (hb hby at_126) rfl rfl ?_
    refine own_il 130 X330 hx (hb hby at_128) rfl rfl ?_
    refine own_il 132 X330 hx (hb hby at_130) rfl rfl ?_
    obtain ⟨_, _, ⟨T331, L331, k331, n331⟩, -, X331, hS331, gr331, ⟨Lc331, hQ331, l331, y331, z331, CR331⟩, st331⟩ := callSS (s := s.setVm T330.vm) X330 hx (y := (⟨"com/example/ianus/ianus/TokenDescribePinLaw", "make", "(ICC)Ljava/lang/String;"⟩ : MethodName)) hown (mvT hZ (own_w hw 4 rfl)) (mvT hZ (own_w hw 5 rfl)) (mvT hZ (own_w hw 6 rfl)) (mvT hZ (own_w hw 7 rfl)) (by decide) (backOfSH (s := s) (vm0 := T330.vm) (W := 0) (own_rmMK l Z a0 hw [] nn cc cd G1 T330.heap n0 (Nat.le_trans Z0 KP.1) OL h3nn c8_cc c8_cd O2 P5) hZ (own_w hw 7 rfl) (own_w hw 6 rfl) (by decide) (by decide) hEW CH) (g := (mkF m 132 #[iv p0, iv p1, iv p2, iv p3, iv p4, iv 3, iv nn, iv ca, iv cb, iv cc, iv cd, rv aY, rv o_tx, .unset, .unset, .unset, .unset] [(.int cd), (.int cc), (.int nn)])) rfl (by rw [hml]; rfl) (argsL := [(.int nn), (.int cc), (.int cd)]) (rest := []) (lenOf own_pd22 rfl) rfl (by show 2 * 0 + _ ≤ _; exact Nat.le_of_eq rfl) (hb hby at_132) (fun _ _ => ⟨rfl, rfl, (by decide : 6 + 6 ≤ _), (by decide : 12 + 12 ≤ _)⟩)
    dsimp only [Pt.U, Pt.locs, Pt.cells, Pt.slots] at X331 hS331 gr331 l331 y331 z331 CR331 st331 hQ331
    subst l331 y331 z331
    obtain ⟨o_vx, t_vx, kb_vx, rfl, N331q, K331, S_vx⟩ := hQ331
    have N331 := Fr.app N330 N331q
    obtain ⟨X331, hS, hZ, hown⟩ := rebS hS (hk1 : _ ≤ (T330.heap).size) X331 hS331 (gr331) hZ hown
    have OL := OL.keep K331 all0
    have KP := KP.trans K331 all0
    have S_tx := S_tx.keep K331 nin0 nin0
    have hk1 : T331.heap.size ≤ T331.heap.size := Nat.le_refl _
    have CHR := CHR.trans CR331
    have CH := CR331.1
    have X331 : Stand p l e room_1 (s.setVm T331.vm) m #[(.int p0), (.int p1), (.int p2), (.int p3), (.int p4)] below meth c T331 _ 12 24 := X331
    refine own_via (mkF m 135 #[iv p0, iv p1, iv p2, iv p3, iv p4, iv 3, iv nn, iv ca, iv cb, iv cc, iv cd, rv aY, rv o_tx, .unset, .unset, .unset, .unset] [(.ref o_vx)]) st331 ?_
    refine own_as 137 #[iv p0, iv p1, iv p2, iv p3, iv p4, iv 3, iv nn, iv ca, iv cb, iv cc, iv cd, rv aY, rv o_tx, rv o_vx, .unset, .unset, .unset] X331 hx (hb hby at_135) rfl rfl rfl ?_
    obtain ⟨T332, h332, X332, e332, E332, A332, D332, -, st332⟩ := newO X331 hx hZ hown (own_w hw 30 rfl) (own_w hw 31 rfl) (own_w hw 32 rfl) rfl (g := (mkF m 137 #[iv p0, iv p1, iv p2, iv p3, iv p4, iv 3, iv nn, iv ca, iv cb, iv cc, iv cd, rv aY, rv o_tx, rv o_vx, .unset, .unset, .unset] [])) rfl (hb hby at_137) (by decide) (by decide)
    obtain ⟨b332, g332⟩ : ∃ z, z = T331.heap.size := ⟨_, rfl⟩
    rw [← g332] at A332 D332 st332
    have sz_b332 : h0.size ≤ b332 := Nat.le_trans KP.1 (Nat.le_of_eq g332.symm)
    have ge_b332 : n0 ≤ b332 := Nat.le_trans Z0 sz_b332
    have ne_o_tx_b332 : o_tx ≠ b332 := Nat.ne_of_lt (Nat.lt_of_lt_of_le S_tx.lt (Nat.le_of_eq g332.symm))
    have ne_t_tx_b332 : t_tx ≠ b332 := Nat.ne_of_lt (Nat.lt_of_lt_of_le S_tx.ltT (Nat.le_of_eq g332.symm))
    have CHR := CHR.trans (CHr.ext E332 CH)
    have CH := CH.ext E332
    have OL := OL.ext E332
    have KP := KP.ext E332
    have hk1 := Nat.le_trans hk1 E332.1
    have S_tx := S_tx.ext E332
    have E_b332 : Exa Z h332 b332 "com/example/ianus/ianus/Token" := A332
    have F_kind_b332 : Fld Z h332 b332 "com/example/ianus/ianus/Token" "kind" "Lcom/example/ianus/ianus/Token$Kind;" .null := D332 (Or.inr (own_w hw 38 rfl)) (ty := (.object "com/example/ianus/ianus/Token$Kind")) (by decide)
    have F_text_b332 : Fld Z h332 b332 "com/example/ianus/ianus/Token" "text" "Ljava/lang/String;" .null := D332 (Or.inr (own_w hw 40 rfl)) (ty := (.object "java/lang/String")) (by decide)
    have F_value_b332 : Fld Z h332 b332 "com/example/ianus/ianus/Token" "value" "Ljava/lang/String;" .null := D332 (Or.inr (own_w hw 42 rfl)) (ty := (.object "java/lang/String")) (by decide)
    have F_line_b332 : Fld Z h332 b332 "com/example/ianus/ianus/Token" "line" "I" (.int (0 : Int32)) := D332 (Or.inr (own_w hw 44 rfl)) (ty := .int) (by decide)
    have F_column_b332 : Fld Z h332 b332 "com/example/ianus/ianus/Token" "column" "I" (.int (0 : Int32)) := D332 (Or.inr (own_w hw 46 rfl)) (ty := .int) (by decide)
    refine own_to (mkF m 140 #[iv p0, iv p1, iv p2, iv p3, iv p4, iv 3, iv nn, iv ca, iv cb, iv cc, iv cd, rv aY, rv o_tx, rv o_vx, .unset, .unset, .unset] [(.ref b332)]) st332 ?_
    refine own_dup 141 X332 hx (hb hby at_140) rfl rfl ?_
    refine own_al 143 X332 hx (hb hby at_141) rfl rfl rfl ?_
    refine own_al 145 X332 hx (hb hby at_143) rfl rfl rfl ?_
    refine own_al 147 X332 hx (hb hby at_145) rfl rfl rfl ?_
    refine own_iln 148 X332 hx (hb hby at_147) rfl rfl ?_
    refine own_il 150 X332 hx (hb hby at_148) rfl rfl ?_
    obtain ⟨_, T333, Lc333, X333, hQ333, st333⟩ := own_special X332 hx (y := (⟨"com/example/ianus/ianus/Token", "<init>", "(Lcom/example/ianus/ianus/Token$Kind;Ljava/lang/String;Ljava/lang/String;II)V"⟩ : MethodName)) rfl hown (mvT hZ (own_w hw 33 rfl)) (mvT hZ (own_w hw 34 rfl)) (mvT hZ (own_w hw 35 rfl)) (by decide) (backOf (W := 1) (own_rmCT l Z a0 hw [] b332 aY o_tx o_vx p3 p4 h332 n0 (Nat.le_trans Z0 KP.1) OL ge_b332 E_b332 F_kind_b332 F_text_b332 F_value_b332 F_line_b332 F_column_b332) hZ (own_w hw 35 rfl) (own_w hw 32 rfl) (by decide) (by decide)) (g := (mkF m 150 #[iv p0, iv p1, iv p2, iv p3, iv p4, iv 3, iv nn, iv ca, iv cb, iv cc, iv cd, rv aY, rv o_tx, rv o_vx, .unset, .unset, .unset] [(.int p4), (.int p3), (.ref o_vx), (.ref o_tx), (.ref aY), (.ref b332), (.ref b332)])) rfl (by rw [hml]; rfl) (a := b332) (argsL := [(.ref aY), (.ref o_tx), (.ref o_vx), (.int p3), (.int p4)]) (rest := [(.ref b332)]) (lenOf own_pd23 rfl) rfl (by show 2 * 0 + _ ≤ _; exact Nat.le_of_eq rfl) (hb hby at_150) rfl e332 (kc := 13) (ks := 29) rfl rfl (by decide) (by decide)
    obtain ⟨rfl, N333q, K333, Ek333, Fk333, Ft333⟩ := hQ333
    have N333 := Fr.app N331 N333q
    have SFk : ∀ x ∈ [b332], Safe Z own_EL T331.vm h332 x := (sfS (Safe.exa hZ.alike E_b332 (by decide) (by decide)) sf0)
    have CHR := CHR.trans (CHr.keep K333 SFk CH)
    have CH := CH.keep K333 SFk
    have OL := OL.keep K333 (allS ge_b332 all0)
    have KP := KP.trans K333 (allS (Or.inr sz_b332) all0)
    have hk1 := Nat.le_trans hk1 K333.1
    have S_tx := S_tx.keep K333 (ninS ne_o_tx_b332 nin0) (ninS ne_t_tx_b332 nin0)
    have E_b332 := E_b332.keep K333
    refine own_via (mkF m 153 #[iv p0, iv p1, iv p2, iv p3, iv p4, iv 3, iv nn, iv ca, iv cb, iv cc, iv cd, rv aY, rv o_tx, rv o_vx, .unset, .unset, .unset] [(.ref b332)]) st333 ?_
    have EK : Exa Z T333.heap b332 "com/example/ianus/ianus/Token" := Ek333
    have FK : Fld Z T333.heap b332 "com/example/ianus/ianus/Token" "kind" "Lcom/example/ianus/ianus/Token$Kind;" (.ref aY) := Fk333
    have FT : Fld Z T333.heap b332 "com/example/ianus/ianus/Token" "text" "Ljava/lang/String;" (.ref o_tx) := Ft333
    refine own_as 155 #[iv p0, iv p1, iv p2, iv p3, iv p4, iv 3, iv nn, iv ca, iv cb, iv cc, iv cd, rv aY, rv o_tx, rv o_vx, rv b332, .unset, .unset] X333 hx (hb hby at_153) rfl rfl rfl ?_
    refine own_al 157 X333 hx (hb hby at_155) rfl rfl rfl ?_
    obtain ⟨cq334, kq334, q334a, q334b, q334c⟩ := isOf (s := s.setVm T331.vm) hZ rfl EK
    obtain ⟨_, _, ⟨T334, L334, k334, n334⟩, -, X334, hS334, gr334, ⟨Lc334, hQ334, l334, y334, z334, CR334⟩, st334⟩ := Stand.virtualBackS (s := s.setVm T331.vm) X333 hx (y := (⟨"com/example/ianus/ianus/Token", "describe", "()Ljava/lang/String;"⟩ : MethodName)) (z := (⟨"com/example/ianus/ianus/Token", "describe", "()Ljava/lang/String;"⟩ : MethodName)) hown (mvT hZ (own_w hw 47 rfl)) (mvT hZ (own_w hw 48 rfl)) (notFace_of_selects (args := #[]) (mvT hZ (own_w hw 50 rfl))) (mvT hZ (own_w hw 50 rfl)) (mvT hZ (own_w hw 49 rfl)) (by decide) (backOfSH (s := s) (vm0 := T331.vm) (W := 0) (own_rmDQ l Z a0 hw [] nn ca cb G1 b332 aY o_tx t_tx kb_tx aE aS T333.heap n0 (Nat.le_trans Z0 KP.1) OL h3nn c8_ca c8_cb FK FT S_tx O2 P5 SaE SaS ne_aY_aE ne_aY_aS) hZ (own_w hw 51 rfl) (own_w hw 32 rfl) (by decide) (by decide) hEW CH) q334a q334c (g := (mkF m 157 #[iv p0, iv p1, iv p2, iv p3, iv p4, iv 3, iv nn, iv ca, iv cb, iv cc, iv cd, rv aY, rv o_tx, rv o_vx, rv b332, .unset, .unset] [(.ref b332)])) rfl (by rw [hml]; rfl) (Steps.refl _) (argsL := []) (rest := []) (lenOf own_pd20 rfl) rfl (by show 2 * 0 + _ ≤ _; exact Nat.le_of_eq rfl) (hb hby at_157) (fun _ _ => ⟨rfl, rfl, (by decide : 13 + 6 ≤ _), (by decide : 29 + 90 ≤ _)⟩)
    dsimp only [Pt.U, Pt.locs, Pt.cells, Pt.slots] at X334 hS334 gr334 l334 y334 z334 CR334 st334 hQ334
    subst l334 y334 z334
    obtain ⟨rr, tr, kr, rfl, N334q, K334, S_rr⟩ := hQ334
    have N334 := Fr.app N333 N334q
    obtain ⟨X334, hS, hZ, hown⟩ := rebS hS (hk1 : _ ≤ (T333.heap).size) X334 hS334 (gr334) hZ hown
    have OL := OL.keep K334 all0
    have KP := KP.trans K334 all0
    have S_tx := S_tx.keep K334 nin0 nin0
    have EK := EK.keep K334
    have FK := FK.keep K334 nin0
    have FT := FT.keep K334 nin0
    have hk1 : T334.heap.size ≤ T334.heap.size := Nat.le_refl _
    have CHR := CHR.trans CR334
    have CH := CR334.1
    have X334 : Stand p l e room_1 (s.setVm T334.vm) m #[(.int p0), (.int p1), (.int p2), (.int p3), (.int p4)] below meth c T334 _ 19 119 := X334
    refine own_via (mkF m 160 #[iv p0, iv p1, iv p2, iv p3, iv p4, iv 3, iv nn, iv ca, iv cb, iv cc, iv cd, rv aY, rv o_tx, rv o_vx, rv b332, .unset, .unset] [(.ref rr)]) st334 ?_
    refine own_as 162 #[iv p0, iv p1, iv p2, iv p3, iv p4, iv 3, iv nn, iv ca, iv cb, iv cc, iv cd, rv aY, rv o_tx, rv o_vx, rv b332, rv rr, .unset] X334 hx (hb hby at_160) rfl rfl rfl ?_
    refine own_il 164 X334 hx (hb hby at_162) rfl rfl ?_
    refine own_ic 165 4 X334 hx (hb hby at_164) rfl rfl ?_
    refine own_icY 175 X334 hx (hb hby at_165) (feq (by decide : ¬ ((3 : Int32) = (4 : Int32)))).2 (by decide) (by decide) ?_
    refine own_il 177 X334 hx (hb hby at_175) rfl rfl ?_
    refine own_ic 178 1 X334 hx (hb hby at_177) rfl rfl ?_
    refine own_icY 195 X334 hx (hb hby at_178) (feq (by decide : ¬ ((3 : Int32) = (1 : Int32)))).2 (by decide) (by decide) ?_
    refine own_il 197 X334 hx (hb hby at_195) rfl rfl ?_
    refine own_il 199 X334 hx (hb hby at_197) rfl rfl ?_
    refine own_il 201 X334 hx (hb hby at_199) rfl rfl ?_
    obtain ⟨_, T335, Lc335, X335, hQ335, st335⟩ := own_callS X334 hx (y := (⟨"com/example/ianus/ianus/TokenDescribePinLaw", "quoted", "(ICC)Ljava/lang/String;"⟩ : MethodName)) hown (mvT hZ (own_w hw 181 rfl)) (mvT hZ (own_w hw 182 rfl)) (mvT hZ (own_w hw 6 rfl)) (mvT hZ (own_w hw 183 rfl)) (by decide) (backOf (W := 0) (own_rmQT l Z a0 hw [] nn ca cb G1 T334.heap n0 (Nat.le_trans Z0 KP.1) OL h3nn c8_ca c8_cb O2 P5) hZ (own_w hw 183 rfl) (own_w hw 6 rfl) (by decide) (by decide)) (g := (mkF m 201 #[iv p0, iv p1, iv p2, iv p3, iv p4, iv 3, iv nn, iv ca, iv cb, iv cc, iv cd, rv aY, rv o_tx, rv o_vx, rv b332, rv rr, .unset] [(.int cb), (.int ca), (.int nn)])) rfl (by rw [hml]; rfl) (argsL := [(.int nn), (.int ca), (.int cb)]) (rest := []) (lenOf own_pd22 rfl) rfl (by show 2 * 0 + _ ≤ _; exact Nat.le_of_eq rfl) (hb hby at_201) rfl rfl (kc := 23) (ks := 149) rfl rfl (by decide) (by decide)
    obtain ⟨la1, lb1, lk1, rfl, N335q, K335, S_ex⟩ := hQ335
    have N335 := Fr.app N334 N335q
    have CHR := CHR.trans (CHr.keep K335 sf0 CH)
    have CH := CH.keep K335 sf0
    have OL := OL.keep K335 all0
    have KP := KP.trans K335 all0
    have hk1 := Nat.le_trans hk1 K335.1
    have S_rr := S_rr.keep K335 nin0 nin0
    refine own_to (mkF m 204 #[iv p0, iv p1, iv p2, iv p3, iv p4, iv 3, iv nn, iv ca, iv cb, iv cc, iv cd, rv aY, rv o_tx, rv o_vx, rv b332, rv rr, .unset] [(.ref la1)]) st335 ?_
    refine own_as 206 #[iv p0, iv p1, iv p2, iv p3, iv p4, iv 3, iv nn, iv ca, iv cb, iv cc, iv cd, rv aY, rv o_tx, rv o_vx, rv b332, rv rr, rv la1] X335 hx (hb hby at_204) rfl rfl rfl ?_
    refine own_al 208 X335 hx (hb hby at_206) rfl rfl rfl ?_
    refine own_al 210 X335 hx (hb hby at_208) rfl rfl rfl ?_
    obtain ⟨cq336, kq336, q336a, q336b, q336c⟩ := isOf hZ rfl S_rr.1
    obtain ⟨_, T336, Lc336, X336, hQ336, st336⟩ := own_virtual X335 hx (y := (⟨"java/lang/String", "equals", "(Ljava/lang/Object;)Z"⟩ : MethodName)) (z := (⟨"java/lang/String", "equals", "(Ljava/lang/Object;)Z"⟩ : MethodName)) hown (mvT hZ (own_w hw 194 rfl)) (mvT hZ (own_w hw 195 rfl)) (notFace_of_selects (args := #[]) (mvT hZ (own_w hw 197 rfl))) (mvT hZ (own_w hw 197 rfl)) (mvT hZ (own_w hw 196 rfl)) (by decide) (own_backEq (W := 0) hZ hwsE (own_w hw 9 rfl) S_rr S_ex (O2.ext OL.2) P5 (by decide) (by decide)) q336a q336c (g := (mkF m 210 #[iv p0, iv p1, iv p2, iv p3, iv p4, iv 3, iv nn, iv ca, iv cb, iv cc, iv cd, rv aY, rv o_tx, rv o_vx, rv b332, rv rr, rv la1] [(.ref la1), (.ref rr)])) rfl (by rw [hml]; rfl) (argsL := [(.ref la1)]) (rest := []) (lenOf own_pd24 rfl) rfl (by show 2 * 0 + _ ≤ _; exact Nat.le_of_eq rfl) (hb hby at_210) rfl rfl (kc := 23) (ks := 149) rfl rfl (by decide) (by decide)
    obtain ⟨hor336, rfl, e336⟩ := hQ336
    have N336q : Fr n0 ([] : List Loc) := Fr.nil n0
    have N336 := Fr.app N335 N336q
    rcases hor336 with ⟨rfl, q⟩ | ⟨rfl, q⟩
    · refine own_via (mkF m 213 #[iv p0, iv p1, iv p2, iv p3, iv p4, iv 3, iv nn, iv ca, iv cb, iv cc, iv cd, rv aY, rv o_tx, rv o_vx, rv b332, rv rr, rv la1] [(.int (1 : Int32))]) st336 ?_
      exact own_retNH (s := s) (vm₁ := T334.vm) X336 hS (by rw [e336]; exact hk1) hZ hEW (by rw [e336]; exact CH) (by rw [hh, e336]; exact CHR) hx (t := .boolean) Bd.returns (by simp) hlk (hb hby at_213) (by decide) (by decide) (by rw [e336]; exact ⟨rfl, N336⟩)
    · exact absurd rfl q
  · subst q
    obtain ⟨T337, X337, e337, st337⟩ := getS2 X0 hx hZ hown (host := "") (Or.inl (own_w hw 1 rfl)) Via.refl e0 (SaI.ext OL.2) (g := (mkF m 57 #[iv p0, iv p1, iv p2, iv p3, iv p4, iv 4, iv nn, iv ca, iv cb, iv cc, iv cd, .unset, .unset, .unset, .unset, .unset, .unset] [])) rfl (hb hby at_57)
    refine own_to (mkF m 60 #[iv p0, iv p1, iv p2, iv p3, iv p4, iv 4, iv nn, iv ca, iv cb, iv cc, iv cd, .unset, .unset, .unset, .unset, .unset, .unset] [(.ref aI)]) st337 ?_
    refine own_as 62 #[iv p0, iv p1, iv p2, iv p3, iv p4, iv 4, iv nn, iv ca, iv cb, iv cc, iv cd, rv aI, .unset, .unset, .unset, .unset, .unset] X337 hx (hb hby at_60) rfl rfl rfl ?_
    refine own_il 64 X337 hx (hb hby at_62) rfl rfl ?_
    refine own_ic 65 1 X337 hx (hb hby at_64) rfl rfl ?_
    refine own_icY 76 X337 hx (hb hby at_65) (feq (by decide : ¬ ((4 : Int32) = (1 : Int32)))).2 (by decide) (by decide) ?_
    refine own_il 78 X337 hx (hb hby at_76) rfl rfl ?_
    refine own_ic 79 2 X337 hx (hb hby at_78) rfl rfl ?_
    refine own_icY 90 X337 hx (hb hby at_79) (feq (by decide : ¬ ((4 : Int32) = (2 : Int32)))).2 (by decide) (by decide) ?_
    refine own_il 92 X337 hx (hb hby at_90) rfl rfl ?_
    refine own_ic 93 3 X337 hx (hb hby at_92) rfl rfl ?_
    refine own_icY 104 X337 hx (hb hby at_93) (feq (by decide : ¬ ((4 : Int32) = (3 : Int32)))).2 (by decide) (by decide) ?_
    refine own_il 106 X337 hx (hb hby at_104) rfl rfl ?_
    refine own_ic 107 4 X337 hx (hb hby at_106) rfl rfl ?_
    refine own_icN 110 X337 hx (hb hby at_107) (teq (by decide : (4 : Int32) = (4 : Int32))).2 rfl ?_
    obtain ⟨T338, X338, e338, st338⟩ := getS2 X337 hx hZ hown (host := "") (Or.inl (own_w hw 212 rfl)) Via.refl e337 (SaE.ext OL.2) (g := (mkF m 110 #[iv p0, iv p1, iv p2, iv p3, iv p4, iv 4, iv nn, iv ca, iv cb, iv cc, iv cd, rv aI, .unset, .unset, .unset, .unset, .unset] [])) rfl (hb hby at_110)
    refine own_to (mkF m 113 #[iv p0, iv p1, iv p2, iv p3, iv p4, iv 4, iv nn, iv ca, iv cb, iv cc, iv cd, rv aI, .unset, .unset, .unset, .unset, .unset] [(.ref aE)]) st338 ?_
    refine own_as 115 #[iv p0, iv p1, iv p2, iv p3, iv p4, iv 4, iv nn, iv ca, iv cb, iv cc, iv cd, rv aE, .unset, .unset, .unset, .unset, .unset] X338 hx (hb hby at_113) rfl rfl rfl ?_
    refine own_il 117 X338 hx (hb hby at_115) rfl rfl ?_
    refine own_il 119 X338 hx (hb hby at_117) rfl rfl ?_
    refine own_il 121 X338 hx (hb hby at_119) rfl rfl ?_
    obtain ⟨_, _, ⟨T339, L339, k339, n339⟩, -, X339, hS339, gr339, ⟨Lc339, hQ339, l339, y339, z339, CR339⟩, st339⟩ := callSS (s := s.setVm s.vm) X338 hx (y := (⟨"com/example/ianus/ianus/TokenDescribePinLaw", "make", "(ICC)Ljava/lang/String;"⟩ : MethodName)) hown (mvT hZ (own_w hw 4 rfl)) (mvT hZ (own_w hw 5 rfl)) (mvT hZ (own_w hw 6 rfl)) (mvT hZ (own_w hw 7 rfl)) (by decide) (backOfSH (s := s) (vm0 := s.vm) (W := 0) (own_rmMK l Z a0 hw [] nn ca cb G1 h0 n0 (Nat.le_trans Z0 KP.1) OL h3nn c8_ca c8_cb O2 P5) hZ (own_w hw 7 rfl) (own_w hw 6 rfl) (by decide) (by decide) hEW CH) (g := (mkF m 121 #[iv p0, iv p1, iv p2, iv p3, iv p4, iv 4, iv nn, iv ca, iv cb, iv cc, iv cd, rv aE, .unset, .unset, .unset, .unset, .unset] [(.int cb), (.int ca), (.int nn)])) rfl (by rw [hml]; rfl) (argsL := [(.int nn), (.int ca), (.int cb)]) (rest := []) (lenOf own_pd22 rfl) rfl (by show 2 * 0 + _ ≤ _; exact Nat.le_of_eq rfl) (hb hby at_121) (fun _ _ => ⟨rfl, e338, (by decide : 0 + 6 ≤ _), (by decide : 0 + 12 ≤ _)⟩)
    dsimp only [Pt.U, Pt.locs, Pt.cells, Pt.slots] at X339 hS339 gr339 l339 y339 z339 CR339 st339 hQ339
    subst l339 y339 z339
    obtain ⟨o_tx, t_tx, kb_tx, rfl, N339q, K339, S_tx⟩ := hQ339
    have N339 := Fr.app N0 N339q
    obtain ⟨X339, hS, hZ, hown⟩ := rebS hS (hk1 : _ ≤ (h0).size) X339 hS339 (by rw [e338] at gr339; exact gr339) hZ hown
    have OL := OL.keep K339 all0
    have KP := KP.trans K339 all0
    have hk1 : T339.heap.size ≤ T339.heap.size := Nat.le_refl _
    have CHR := CHR.trans CR339
    have CH := CR339.1
    have X339 : Stand p l e room_1 (s.setVm T339.vm) m #[(.int p0), (.int p1), (.int p2), (.int p3), (.int p4)] below meth c T339 _ 6 12 := X339
    refine own_via (mkF m 124 #[iv p0, iv p1, iv p2, iv p3, iv p4, iv 4, iv nn, iv ca, iv cb, iv cc, iv cd, rv aE, .unset, .unset, .unset, .unset, .unset] [(.ref o_tx)]) st339 ?_
    refine own_as 126 #[iv p0, iv p1, iv p2, iv p3, iv p4, iv 4, iv nn, iv ca, iv cb, iv cc, iv cd, rv aE, rv o_tx, .unset, .unset, .unset, .unset] X339 hx (hb hby at_124) rfl rfl rfl ?_
    refine own_il 128 X339 hx (hb hby at_126) rfl rfl ?_
    refine own_il 130 X339 hx (hb hby at_128) rfl rfl ?_
    refine own_il 132 X339 hx (hb hby at_130) rfl rfl ?_
    obtain ⟨_, _, ⟨T340, L340, k340, n340⟩, -, X340, hS340, gr340, ⟨Lc340, hQ340, l340, y340, z340, CR340⟩, st340⟩ := callSS (s := s.setVm T339.vm) X339 hx (y := (⟨"com/example/ianus/ianus/TokenDescribePinLaw", "make", "(ICC)Ljava/lang/String;"⟩ : MethodName)) hown (mvT hZ (own_w hw 4 rfl)) (mvT hZ (own_w hw 5 rfl)) (mvT hZ (own_w hw 6 rfl)) (mvT hZ (own_w hw 7 rfl)) (by decide) (backOfSH (s := s) (vm0 := T339.vm) (W := 0) (own_rmMK l Z a0 hw [] nn cc cd G1 T339.heap n0 (Nat.le_trans Z0 KP.1) OL h3nn c8_cc c8_cd O2 P5) hZ (own_w hw 7 rfl) (own_w hw 6 rfl) (by decide) (by decide) hEW CH) (g := (mkF m 132 #[iv p0, iv p1, iv p2, iv p3, iv p4, iv 4, iv nn, iv ca, iv cb, iv cc, iv cd, rv aE, rv o_tx, .unset, .unset, .unset, .unset] [(.int cd), (.int cc), (.int nn)])) rfl (by rw [hml]; rfl) (argsL := [(.int nn), (.int cc), (.int cd)]) (rest := []) (lenOf own_pd22 rfl) rfl (by show 2 * 0 + _ ≤ _; exact Nat.le_of_eq rfl) (hb hby at_132) (fun _ _ => ⟨rfl, rfl, (by decide : 6 + 6 ≤ _), (by decide : 12 + 12 ≤ _)⟩)
    dsimp only [Pt.U, Pt.locs, Pt.cells, Pt.slots] at X340 hS340 gr340 l340 y340 z340 CR340 st340 hQ340
    subst l340 y340 z340
    obtain ⟨o_vx, t_vx, kb_vx, rfl, N340q, K340, S_vx⟩ := hQ340
    have N340 := Fr.app N339 N340q
    obtain ⟨X340, hS, hZ, hown⟩ := rebS hS (hk1 : _ ≤ (T339.heap).size) X340 hS340 (gr340) hZ hown
    have OL := OL.keep K340 all0
    have KP := KP.trans K340 all0
    have S_tx := S_tx.keep K340 nin0 nin0
    have hk1 : T340.heap.size ≤ T340.heap.size := Nat.le_refl _
    have CHR := CHR.trans CR340
    have CH := CR340.1
    have X340 : Stand p l e room_1 (s.setVm T340.vm) m #[(.int p0), (.int p1), (.int p2), (.int p3), (.int p4)] below meth c T340 _ 12 24 := X340
    refine own_via (mkF m 135 #[iv p0, iv p1, iv p2, iv p3, iv p4, iv 4, iv nn, iv ca, iv cb, iv cc, iv cd, rv aE, rv o_tx, .unset, .unset, .unset, .unset] [(.ref o_vx)]) st340 ?_
    refine own_as 137 #[iv p0, iv p1, iv p2, iv p3, iv p4, iv 4, iv nn, iv ca, iv cb, iv cc, iv cd, rv aE, rv o_tx, rv o_vx, .unset, .unset, .unset] X340 hx (hb hby at_135) rfl rfl rfl ?_
    obtain ⟨T341, h341, X341, e341, E341, A341, D341, -, st341⟩ := newO X340 hx hZ hown (own_w hw 30 rfl) (own_w hw 31 rfl) (own_w hw 32 rfl) rfl (g := (mkF m 137 #[iv p0, iv p1, iv p2, iv p3, iv p4, iv 4, iv nn, iv ca, iv cb, iv cc, iv cd, rv aE, rv o_tx, rv o_vx, .unset, .unset, .unset] [])) rfl (hb hby at_137) (by decide) (by decide)
    obtain ⟨b341, g341⟩ : ∃ z, z = T340.heap.size := ⟨_, rfl⟩
    rw [← g341] at A341 D341 st341
    have sz_b341 : h0.size ≤ b341 := Nat.le_trans KP.1 (Nat.le_of_eq g341.symm)
    have ge_b341 : n0 ≤ b341 := Nat.le_trans Z0 sz_b341
    have ne_o_tx_b341 : o_tx ≠ b341 := Nat.ne_of_lt (Nat.lt_of_lt_of_le S_tx.lt (Nat.le_of_eq g341.symm))
    have ne_t_tx_b341 : t_tx ≠ b341 := Nat.ne_of_lt (Nat.lt_of_lt_of_le S_tx.ltT (Nat.le_of_eq g341.symm))
    have CHR := CHR.trans (CHr.ext E341 CH)
    have CH := CH.ext E341
    have OL := OL.ext E341
    have KP := KP.ext E341
    have hk1 := Nat.le_trans hk1 E341.1
    have S_tx := S_tx.ext E341
    have E_b341 : Exa Z h341 b341 "com/example/ianus/ianus/Token" := A341
    have F_kind_b341 : Fld Z h341 b341 "com/example/ianus/ianus/Token" "kind" "Lcom/example/ianus/ianus/Token$Kind;" .null := D341 (Or.inr (own_w hw 38 rfl)) (ty := (.object "com/example/ianus/ianus/Token$Kind")) (by decide)
    have F_text_b341 : Fld Z h341 b341 "com/example/ianus/ianus/Token" "text" "Ljava/lang/String;" .null := D341 (Or.inr (own_w hw 40 rfl)) (ty := (.object "java/lang/String")) (by decide)
    have F_value_b341 : Fld Z h341 b341 "com/example/ianus/ianus/Token" "value" "Ljava/lang/String;" .null := D341 (Or.inr (own_w hw 42 rfl)) (ty := (.object "java/lang/String")) (by decide)
    have F_line_b341 : Fld Z h341 b341 "com/example/ianus/ianus/Token" "line" "I" (.int (0 : Int32)) := D341 (Or.inr (own_w hw 44 rfl)) (ty := .int) (by decide)
    have F_column_b341 : Fld Z h341 b341 "com/example/ianus/ianus/Token" "column" "I" (.int (0 : Int32)) := D341 (Or.inr (own_w hw 46 rfl)) (ty := .int) (by decide)
    refine own_to (mkF m 140 #[iv p0, iv p1, iv p2, iv p3, iv p4, iv 4, iv nn, iv ca, iv cb, iv cc, iv cd, rv aE, rv o_tx, rv o_vx, .unset, .unset, .unset] [(.ref b341)]) st341 ?_
    refine own_dup 141 X341 hx (hb hby at_140) rfl rfl ?_
    refine own_al 143 X341 hx (hb hby at_141) rfl rfl rfl ?_
    refine own_al 145 X341 hx (hb hby at_143) rfl rfl rfl ?_
    refine own_al 147 X341 hx (hb hby at_145) rfl rfl rfl ?_
    refine own_iln 148 X341 hx (hb hby at_147) rfl rfl ?_
    refine own_il 150 X341 hx (hb hby at_148) rfl rfl ?_
    obtain ⟨_, T342, Lc342, X342, hQ342, st342⟩ := own_special X341 hx (y := (⟨"com/example/ianus/ianus/Token", "<init>", "(Lcom/example/ianus/ianus/Token$Kind;Ljava/lang/String;Ljava/lang/String;II)V"⟩ : MethodName)) rfl hown (mvT hZ (own_w hw 33 rfl)) (mvT hZ (own_w hw 34 rfl)) (mvT hZ (own_w hw 35 rfl)) (by decide) (backOf (W := 1) (own_rmCT l Z a0 hw [] b341 aE o_tx o_vx p3 p4 h341 n0 (Nat.le_trans Z0 KP.1) OL ge_b341 E_b341 F_kind_b341 F_text_b341 F_value_b341 F_line_b341 F_column_b341) hZ (own_w hw 35 rfl) (own_w hw 32 rfl) (by decide) (by decide)) (g := (mkF m 150 #[iv p0, iv p1, iv p2, iv p3, iv p4, iv 4, iv nn, iv ca, iv cb, iv cc, iv cd, rv aE, rv o_tx, rv o_vx, .unset, .unset, .unset] [(.int p4), (.int p3), (.ref o_vx), (.ref o_tx), (.ref aE), (.ref b341), (.ref b341)])) rfl (by rw [hml]; rfl) (a := b341) (argsL := [(.ref aE), (.ref o_tx), (.ref o_vx), (.int p3), (.int p4)]) (rest := [(.ref b341)]) (lenOf own_pd23 rfl) rfl (by show 2 * 0 + _ ≤ _; exact Nat.le_of_eq rfl) (hb hby at_150) rfl e341 (kc := 13) (ks := 29) rfl rfl (by decide) (by decide)
    obtain ⟨rfl, N342q, K342, Ek342, Fk342, Ft342⟩ := hQ342
    have N342 := Fr.app N340 N342q
    have SFk : ∀ x ∈ [b341], Safe Z own_EL T340.vm h341 x := (sfS (Safe.exa hZ.alike E_b341 (by decide) (by decide)) sf0)
    have CHR := CHR.trans (CHr.keep K342 SFk CH)
    have CH := CH.keep K342 SFk
    have OL := OL.keep K342 (allS ge_b341 all0)
    have KP := KP.trans K342 (allS (Or.inr sz_b341) all0)
    have hk1 := Nat.le_trans hk1 K342.1
    have S_tx := S_tx.keep K342 (ninS ne_o_tx_b341 nin0) (ninS ne_t_tx_b341 nin0)
    have E_b341 := E_b341.keep K342
    refine own_via (mkF m 153 #[iv p0, iv p1, iv p2, iv p3, iv p4, iv 4, iv nn, iv ca, iv cb, iv cc, iv cd, rv aE, rv o_tx, rv o_vx, .unset, .unset, .unset] [(.ref b341)]) st342 ?_
    have EK : Exa Z T342.heap b341 "com/example/ianus/ianus/Token" := Ek342
    have FK : Fld Z T342.heap b341 "com/example/ianus/ianus/Token" "kind" "Lcom/example/ianus/ianus/Token$Kind;" (.ref aE) := Fk342
    have FT : Fld Z T342.heap b341 "com/example/ianus/ianus/Token" "text" "Ljava/lang/String;" (.ref o_tx) := Ft342
    refine own_as 155 #[iv p0, iv p1, iv p2, iv p3, iv p4, iv 4, iv nn, iv ca, iv cb, iv cc, iv cd, rv aE, rv o_tx, rv o_vx, rv b341, .unset, .unset] X342 hx (hb hby at_153) rfl rfl rfl ?_
    refine own_al 157 X342 hx (hb hby at_155) rfl rfl rfl ?_
    obtain ⟨cq343, kq343, q343a, q343b, q343c⟩ := isOf (s := s.setVm T340.vm) hZ rfl EK
    obtain ⟨_, _, ⟨T343, L343, k343, n343⟩, -, X343, hS343, gr343, ⟨Lc343, hQ343, l343, y343, z343, CR343⟩, st343⟩ := Stand.virtualBackS (s := s.setVm T340.vm) X342 hx (y := (⟨"com/example/ianus/ianus/Token", "describe", "()Ljava/lang/String;"⟩ : MethodName)) (z := (⟨"com/example/ianus/ianus/Token", "describe", "()Ljava/lang/String;"⟩ : MethodName)) hown (mvT hZ (own_w hw 47 rfl)) (mvT hZ (own_w hw 48 rfl)) (notFace_of_selects (args := #[]) (mvT hZ (own_w hw 50 rfl))) (mvT hZ (own_w hw 50 rfl)) (mvT hZ (own_w hw 49 rfl)) (by decide) (backOfSH (s := s) (vm0 := T340.vm) (W := 0) (own_rmDE l Z a0 hw [] b341 aE T342.heap n0 (Nat.le_trans Z0 KP.1) OL FK SaE) hZ (own_w hw 51 rfl) (own_w hw 32 rfl) (by decide) (by decide) hEW CH) q343a q343c (g := (mkF m 157 #[iv p0, iv p1, iv p2, iv p3, iv p4, iv 4, iv nn, iv ca, iv cb, iv cc, iv cd, rv aE, rv o_tx, rv o_vx, rv b341, .unset, .unset] [(.ref b341)])) rfl (by rw [hml]; rfl) (Steps.refl _) (argsL := []) (rest := []) (lenOf own_pd20 rfl) rfl (by show 2 * 0 + _ ≤ _; exact Nat.le_of_eq rfl) (hb hby at_157) (fun _ _ => ⟨rfl, rfl, (by decide : 13 + 2 ≤ _), (by decide : 29 + 64 ≤ _)⟩)
    dsimp only [Pt.U, Pt.locs, Pt.cells, Pt.slots] at X343 hS343 gr343 l343 y343 z343 CR343 st343 hQ343
    subst l343 y343 z343
    obtain ⟨rr, tr, kr, rfl, N343q, K343, S_rr⟩ := hQ343
    have N343 := Fr.app N342 N343q
    obtain ⟨X343, hS, hZ, hown⟩ := rebS hS (hk1 : _ ≤ (T342.heap).size) X343 hS343 (gr343) hZ hown
    have OL := OL.keep K343 all0
    have KP := KP.trans K343 all0
    have S_tx := S_tx.keep K343 nin0 nin0
    have EK := EK.keep K343
    have FK := FK.keep K343 nin0
    have FT := FT.keep K343 nin0
    have hk1 : T343.heap.size ≤ T343.heap.size := Nat.le_refl _
    have CHR := CHR.trans CR343
    have CH := CR343.1
    have X343 : Stand p l e room_1 (s.setVm T343.vm) m #[(.int p0), (.int p1), (.int p2), (.int p3), (.int p4)] below meth c T343 _ 15 93 := X343
    refine own_via (mkF m 160 #[iv p0, iv p1, iv p2, iv p3, iv p4, iv 4, iv nn, iv ca, iv cb, iv cc, iv cd, rv aE, rv o_tx, rv o_vx, rv b341, .unset, .unset] [(.ref rr)]) st343 ?_
    refine own_as 162 #[iv p0, iv p1, iv p2, iv p3, iv p4, iv 4, iv nn, iv ca, iv cb, iv cc, iv cd, rv aE, rv o_tx, rv o_vx, rv b341, rv rr, .unset] X343 hx (hb hby at_160) rfl rfl rfl ?_
    refine own_il 164 X343 hx (hb hby at_162) rfl rfl ?_
    refine own_ic 165 4 X343 hx (hb hby at_164) rfl rfl ?_
    refine own_icN 168 X343 hx (hb hby at_165) (teq (by decide : (4 : Int32) = (4 : Int32))).2 rfl ?_
    obtain ⟨la1, T344, h344, k1, lb1, lk1, X344, e344, E344, hS, hk2, hZ, hown, E_la1, F_coder_la1, F_value_la1, V_lb1, -, -, CR344, -, sfe344, st344⟩ := ldcCH (s := s) (vm0 := T343.vm) X343 hx hZ hown (own_w hw 214 rfl) hwsS rfl hS hk1 hEW (List.mem_of_getElem? (i := 2) rfl) CH (vs := [(.int ((101 : Int32).toInt8.toInt32)), (.int ((110 : Int32).toInt8.toInt32)), (.int ((100 : Int32).toInt8.toInt32)), (.int ((32 : Int32).toInt8.toInt32)), (.int ((111 : Int32).toInt8.toInt32)), (.int ((102 : Int32).toInt8.toInt32)), (.int ((32 : Int32).toInt8.toInt32)), (.int ((100 : Int32).toInt8.toInt32)), (.int ((111 : Int32).toInt8.toInt32)), (.int ((99 : Int32).toInt8.toInt32)), (.int ((117 : Int32).toInt8.toInt32)), (.int ((109 : Int32).toInt8.toInt32)), (.int ((101 : Int32).toInt8.toInt32)), (.int ((110 : Int32).toInt8.toInt32)), (.int ((116 : Int32).toInt8.toInt32))]) (z := (15 : Int32)) own_ht15 (by decide) rfl (g := (mkF m 168 #[iv p0, iv p1, iv p2, iv p3, iv p4, iv 4, iv nn, iv ca, iv cb, iv cc, iv cd, rv aE, rv o_tx, rv o_vx, rv b341, rv rr, .unset] [])) rfl (hb hby at_168) (n := 60) own_hn15 (by decide) (by decide) (by decide)
    have OL := OL.ext E344
    have KP := KP.ext E344
    have S_rr := S_rr.ext E344
    have hk1 := hk2
    have CHR := CHR.trans CR344
    have CH := CR344.1
    refine own_to (mkF m 170 #[iv p0, iv p1, iv p2, iv p3, iv p4, iv 4, iv nn, iv ca, iv cb, iv cc, iv cd, rv aE, rv o_tx, rv o_vx, rv b341, rv rr, .unset] [(.ref la1)]) st344 ?_
    have S_ex : own_Str Z h344 la1 lb1 lk1 ([101, 110, 100, 32, 111, 102, 32, 100, 111, 99, 117, 109, 101, 110, 116] : List Int32) := ⟨E_la1, F_value_la1, F_coder_la1, V_lb1, (own_allS (show own_C8 101 from ⟨by decide, by decide⟩) (own_allS (show own_C8 110 from ⟨by decide, by decide⟩) (own_allS (show own_C8 100 from ⟨by decide, by decide⟩) (own_allS (show own_C8 32 from ⟨by decide, by decide⟩) (own_allS (show own_C8 111 from ⟨by decide, by decide⟩) (own_allS (show own_C8 102 from ⟨by decide, by decide⟩) (own_allS (show own_C8 32 from ⟨by decide, by decide⟩) (own_allS (show own_C8 100 from ⟨by decide, by decide⟩) (own_allS (show own_C8 111 from ⟨by decide, by decide⟩) (own_allS (show own_C8 99 from ⟨by decide, by decide⟩) (own_allS (show own_C8 117 from ⟨by decide, by decide⟩) (own_allS (show own_C8 109 from ⟨by decide, by decide⟩) (own_allS (show own_C8 101 from ⟨by decide, by decide⟩) (own_allS (show own_C8 110 from ⟨by decide, by decide⟩) (own_allS (show own_C8 116 from ⟨by decide, by decide⟩) own_all0))))))))))))))), Nat.le_of_ble_eq_true rfl⟩
    refine own_as 172 #[iv p0, iv p1, iv p2, iv p3, iv p4, iv 4, iv nn, iv ca, iv cb, iv cc, iv cd, rv aE, rv o_tx, rv o_vx, rv b341, rv rr, rv la1] X344 hx (hb hby at_170) rfl rfl rfl ?_
    refine own_go 206 X344 hx (hb hby at_172) (by decide) (by decide) ?_
    refine own_al 208 X344 hx (hb hby at_206) rfl rfl rfl ?_
    refine own_al 210 X344 hx (hb hby at_208) rfl rfl rfl ?_
    obtain ⟨cq345, kq345, q345a, q345b, q345c⟩ := isOf hZ e344 S_rr.1
    obtain ⟨_, T345, Lc345, X345, hQ345, st345⟩ := own_virtual X344 hx (y := (⟨"java/lang/String", "equals", "(Ljava/lang/Object;)Z"⟩ : MethodName)) (z := (⟨"java/lang/String", "equals", "(Ljava/lang/Object;)Z"⟩ : MethodName)) hown (mvT hZ (own_w hw 194 rfl)) (mvT hZ (own_w hw 195 rfl)) (notFace_of_selects (args := #[]) (mvT hZ (own_w hw 197 rfl))) (mvT hZ (own_w hw 197 rfl)) (mvT hZ (own_w hw 196 rfl)) (by decide) (own_backEq (W := 0) hZ hwsE (own_w hw 9 rfl) S_rr S_ex (O2.ext OL.2) P5 (by decide) (by decide)) q345a q345c (g := (mkF m 210 #[iv p0, iv p1, iv p2, iv p3, iv p4, iv 4, iv nn, iv ca, iv cb, iv cc, iv cd, rv aE, rv o_tx, rv o_vx, rv b341, rv rr, rv la1] [(.ref la1), (.ref rr)])) rfl (by rw [hml]; rfl) (argsL := [(.ref la1)]) (rest := []) (lenOf own_pd24 rfl) rfl (by show 2 * 0 + _ ≤ _; exact Nat.le_of_eq rfl) (hb hby at_210) rfl e344 (kc := 17) (ks := 157) rfl rfl (by decide) (by decide)
    obtain ⟨hor345, rfl, e345⟩ := hQ345
    have N345q : Fr n0 ([] : List Loc) := Fr.nil n0
    have N345 := Fr.app N343 N345q
    rcases hor345 with ⟨rfl, q⟩ | ⟨rfl, q⟩
    · refine own_via (mkF m 213 #[iv p0, iv p1, iv p2, iv p3, iv p4, iv 4, iv nn, iv ca, iv cb, iv cc, iv cd, rv aE, rv o_tx, rv o_vx, rv b341, rv rr, rv la1] [(.int (1 : Int32))]) st345 ?_
      exact own_retNH (s := s) (vm₁ := T344.vm) X345 hS (by rw [e345]; exact hk1) hZ hEW (by rw [e345]; exact CH) (by rw [hh, e345]; exact CHR) hx (t := .boolean) Bd.returns (by simp) hlk (hb hby at_213) (by decide) (by decide) (by rw [e345]; exact ⟨rfl, N345⟩)
    · exact absurd rfl q
set_option maxRecDepth 65536 in
set_option maxHeartbeats 40000000 in
theorem own_comes {Post : Tables → Env → Array Value → State → Outcome → State → Prop} (hpost : ∀ tb e args s v u, (limb_1_1.after args s (.returned v) u = true ∧ limb_1_2.after args s (.returned v) u = true ∧ True) → ReturnedEndW s (.returned v) u (Jvm.fieldLocs frame_1_writes args s ++ Jvm.arrayLocs frame_1_arrays args s ++ Jvm.staticLocs frame_1_statics s) 48 4352 → Post tb e args s (.returned v) u) :
    ArmFor flags0 classFile x code maxLocals ret World_1 tables_1 room_1 Calls_1 rest_1 Pre_1 Post := by
  intro l hfl _ _ p e ha hc hk s m args below hf hA hF happ hP
  obtain ⟨hcalls, hrest, hpre⟩ := hP
  obtain ⟨-, -, -, hnamed, -, -, -, hat⟩ := (Spec.applies_iff hf).mp happ
  obtain ⟨hg, hn⟩ := and_e (Cond.before_iff.mp (show (Jvm.Cond.and given_1 narrow_1).before args s = true from hpre))
  obtain ⟨hg0, hgr0⟩ := and_e hg
  obtain ⟨hg1, hgr1⟩ := and_e hgr0
  obtain ⟨hg2, hgr2⟩ := and_e hgr1
  obtain ⟨hg3, hgr3⟩ := and_e hgr2
  obtain ⟨hg4, hgr4⟩ := and_e hgr3
  obtain ⟨w0, w1, w2, w3, w4, rfl⟩ : ∃ w0 w1 w2 w3 w4 : Value, args = #[w0, w1, w2, w3, w4] := by
    have hs : args.size = 5 := by simpa [Cond.value, given_1] using hg0
    obtain ⟨L⟩ := args
    match L, hs with
    | [w0, w1, w2, w3, w4], _ => exact ⟨w0, w1, w2, w3, w4, rfl⟩
  have hw := fun d (hd : d ∈ tables_1) => atoms_spec (ws := Jvm.Cond.code x code maxLocals ret :: tables_1) hat d (List.mem_cons_of_mem _ hd)
  have hfit : Fit s := fun {y c} hc i hi => by
    obtain ⟨ha, rfl⟩ := Array.getElem?_eq_some_iff.mp hc
    have q := List.all_eq_true.mp ((Array.all_eq_true_iff_forall_mem.mp hF) _ (Array.getElem_mem ha)) i (List.mem_range.mpr hi)
    simpa [Array.getElem?_eq_getElem hi] using q
  obtain ⟨i0, ei0⟩ := is_v hg1
  obtain rfl : w0 = (.int i0) := Option.some.inj ei0
  obtain ⟨i1, ei1⟩ := is_v hg2
  obtain rfl : w1 = (.int i1) := Option.some.inj ei1
  obtain ⟨i2, ei2⟩ := is_v hg3
  obtain rfl : w2 = (.int i2) := Option.some.inj ei2
  obtain ⟨i3, ei3⟩ := is_v hg4
  obtain rfl : w3 = (.int i3) := Option.some.inj ei3
  obtain ⟨i4, ei4⟩ := is_v hgr4
  obtain rfl : w4 = (.int i4) := Option.some.inj ei4
  obtain ⟨hsets, hown0⟩ := atoms_of _ (rest_1_c_eq ▸ (show rest_1_c.before _ s = true from hrest))
  have n5 := not_v (Cond.before_iff.mp (hsets _ (List.mem_of_getElem? (i := 2) rfl)))
  obtain ⟨G1, eG1⟩ := is_v (Cond.before_iff.mp (hsets _ (List.mem_of_getElem? (i := 1) rfl)))
  have O2 : Sta s s.heap "java/lang/String" "COMPACT_STRINGS" "Z" (.int G1) := Sta.start eG1 (Or.inl (hsets _ (List.mem_of_getElem? (i := 0) rfl)))
  have P5 : ¬ (G1 = (0 : Int32)) := gotF (Cond.eq_ints eG1 (Term.int_eval (0))) n5
  obtain ⟨hx_IDENTIFIER, hr0⟩ := and_e hn
  obtain ⟨hx_END, hr1⟩ := and_e hr0
  obtain ⟨ho_IDENTIFIER, hr2⟩ := and_e hr1
  obtain ⟨ho_END, hr3⟩ := and_e hr2
  obtain ⟨hx_STRING, hr4⟩ := and_e hr3
  obtain ⟨ho_STRING, hr5⟩ := and_e hr4
  obtain ⟨hx_SYMBOL, hr6⟩ := and_e hr5
  obtain ⟨ho_SYMBOL, hr7⟩ := and_e hr6
  obtain ⟨hx_NUMBER, hr8⟩ := and_e hr7
  have ho_NUMBER := hr8
  obtain ⟨aI, eaI⟩ := exa_v hx_IDENTIFIER
  have SaI : Sta s s.heap "com/example/ianus/ianus/Token$Kind" "IDENTIFIER" "Lcom/example/ianus/ianus/Token$Kind;" (.ref aI) := Sta.start eaI (Or.inr ⟨(own_w hw 2 rfl), (own_w hw 3 rfl)⟩)
  have OaI := own_fldI eaI ho_IDENTIFIER
  obtain ⟨aS, eaS⟩ := exa_v hx_STRING
  have SaS : Sta s s.heap "com/example/ianus/ianus/Token$Kind" "STRING" "Lcom/example/ianus/ianus/Token$Kind;" (.ref aS) := Sta.start eaS (Or.inr ⟨(own_w hw 2 rfl), (own_w hw 55 rfl)⟩)
  have OaS := own_fldI eaS ho_STRING
  obtain ⟨aN, eaN⟩ := exa_v hx_NUMBER
  have SaN : Sta s s.heap "com/example/ianus/ianus/Token$Kind" "NUMBER" "Lcom/example/ianus/ianus/Token$Kind;" (.ref aN) := Sta.start eaN (Or.inr ⟨(own_w hw 2 rfl), (own_w hw 206 rfl)⟩)
  have OaN := own_fldI eaN ho_NUMBER
  obtain ⟨aY, eaY⟩ := exa_v hx_SYMBOL
  have SaY : Sta s s.heap "com/example/ianus/ianus/Token$Kind" "SYMBOL" "Lcom/example/ianus/ianus/Token$Kind;" (.ref aY) := Sta.start eaY (Or.inr ⟨(own_w hw 2 rfl), (own_w hw 204 rfl)⟩)
  have OaY := own_fldI eaY ho_SYMBOL
  obtain ⟨aE, eaE⟩ := exa_v hx_END
  have SaE : Sta s s.heap "com/example/ianus/ianus/Token$Kind" "END" "Lcom/example/ianus/ianus/Token$Kind;" (.ref aE) := Sta.start eaE (Or.inr ⟨(own_w hw 2 rfl), (own_w hw 53 rfl)⟩)
  have OaE := own_fldI eaE ho_END
  have ne_aI_aE : aI ≠ aE := Fld.ne OaI OaE (by decide)
  have ne_aI_aS : aI ≠ aS := Fld.ne OaI OaS (by decide)
  have ne_aS_aE : aS ≠ aE := Fld.ne OaS OaE (by decide)
  have ne_aN_aE : aN ≠ aE := Fld.ne OaN OaE (by decide)
  have ne_aN_aS : aN ≠ aS := Fld.ne OaN OaS (by decide)
  have ne_aY_aE : aY ≠ aE := Fld.ne OaY OaE (by decide)
  have ne_aY_aS : aY ≠ aS := Fld.ne OaY OaS (by decide)
  have CHs : CHv s own_EL s.vm s.heap := CHv.start (own_EWof hw) hcalls.1 (hsets _ (List.mem_of_getElem? (i := 2) rfl)) (own_w hw 23 rfl) (own_w hw 9 rfl)
  obtain ⟨n, o, h1, h2, h3, _, L, rfl, ⟨rfl, N⟩, -, hq⟩ := own_rm0 l s _ hw tables_1 i0 i1 i2 i3 i4 G1 aI aS aN aY aE s.heap s.heap.size (Nat.le_refl _) (Old.start s) O2 P5 SaI SaS SaN SaY SaE ne_aI_aE ne_aI_aS ne_aS_aE ne_aN_aE ne_aN_aS ne_aY_aE ne_aY_aS p e ha hc hk s m _ below hf ((Spec.applies_iff_loose hf).mp happ).1 ⟨rfl, State.Warmed39.refl s, rfl, CHs⟩ trivial
  refine ⟨n, _, h1, h2, h3, hpost _ _ _ _ _ _ ⟨Cond.after_iff.mpr rfl, Cond.after_iff.mpr (eq_i res_at (Term.int_eval (1)) rfl), trivial⟩ ⟨hq.1, hq.2.1, hq.2.2.1, (hq.2.2.2.sift fun y hy => Or.inr (N y hy)).mono (by decide) (by decide)⟩⟩
theorem main_1_1 : Claimed_1_1 := own_comes fun _ _ _ _ _ _ h hF => ⟨h.1, hF⟩
theorem main_1_2 : Claimed_1_2 := own_comes fun _ _ _ _ _ _ h hF => ⟨h.2.1, hF⟩
end Jvm.Pilot.@@N@@
namespace Jvm.Pilot.@@N@@
open Jvm Jvm.ClassFile Sem Op Lib Jvm.Free Jvm.Stand Jvm.Pilot.@@N@@.Jvm.D
/-! MADE BY PROGRAM (witnessworld.py) out of the Statement's table words and the real class files: 28 classes; the members and pool entries that the words name. The judged class is class 1, her method 1. -/
namespace start1
open Jvm.ClassFile
def u (s : String) : CpInfo := .utf8 (stringToUtf16 s)
/-- a pool by its gaps: so many unusable entries, then the entry; so many at the end -/
def gap : Nat → List CpInfo → List CpInfo
  | 0, r => r
  | n + 1, r => .unusable :: gap n r
def poolList (es : List (Nat × CpInfo)) (last : Nat) : List CpInfo := es.foldr (fun e r => gap e.1 (e.2 :: r)) (gap last [])
def pool (es : List (Nat × CpInfo)) (last : Nat) : Array CpInfo := ⟨poolList es last⟩
def fileOf (pool : Array CpInfo) (this : Nat) (attrs : Array Attribute := #[]) (ms : Array MethodInfo := #[]) (fl : Nat := 33) (sup : Nat := 0) (ifs : Array Nat := #[]) (fds : Array FieldInfo := #[]) : ClassFile where
  minorVersion := 0
  majorVersion := 65
  constantPool := pool
  accessFlags := fl
  thisClass := this
  superClass := sup
  interfaces := ifs
  fields := fds
  methods := ms
  attributes := attrs
def plain (name : String) (sup : Option ClassId) : Class where
  name := name
  kind := .ordinary
  loader := none
  accessFlags := 33
  super := sup
  interfaces := #[]
  cf := none
  fields := #[]
  methods := #[]
  instanceTypes := #[]
  staticTypes := #[]
  resolved := #[]
  callSites := []
  init := .initialized
  statics := none
  mirror := none

def pool0 : Array CpInfo := pool [(5, u "<init>"), (0, u "()V"), (1, .class_ 10), (1, u "java/lang/Object")] 113

def k0c0 : Code := { maxStack := 0, maxLocals := 1, code := object_method_1_code, exceptionTable := #[], attributes := #[] }
def k0m0 : Method := { name := "<init>", desc := "()V", sig := { parameters := [], returnType := none }, accessFlags := 1, code := some k0c0 }
/-- java/lang/Object -/
def k0 : Class := { plain "java/lang/Object" none with
  accessFlags := 33
  interfaces := #[]
  cf := some (fileOf pool0 8 #[] #[{ accessFlags := 1, nameIndex := 5, descriptorIndex := 6, attributes := #[] }] 33 0 #[] #[])
  fields := #[]
  methods := #[k0m0]
  instanceTypes := #[]
  staticTypes := #[]
  resolved := Array.replicate 124 none
  statics := none }

def pool1 : Array CpInfo := pool [(2, .class_ 4), (1, u "java/lang/Object"), (0, u "<init>"), (0, u "()V"), (0, .integer 2147483647), (0, .fieldref 9 10), (0, .class_ 11), (0, .nameAndType 12 13), (0, u "com/example/ianus/ianus/Token$Kind"), (0, u "IDENTIFIER"), (0, u "Lcom/example/ianus/ianus/Token$Kind;"), (0, .fieldref 9 15), (0, .nameAndType 16 13), (0, u "STRING"), (0, .fieldref 9 18), (0, .nameAndType 19 13), (0, u "NUMBER"), (0, .fieldref 9 21), (0, .nameAndType 22 13), (0, u "SYMBOL"), (0, .fieldref 9 24), (0, .nameAndType 25 13), (0, u "END"), (0, .methodref 27 28), (0, .class_ 29), (0, .nameAndType 30 31), (0, u "com/example/ianus/ianus/TokenDescribePinLaw"), (0, u "make"), (0, u "(ICC)Ljava/lang/String;"), (0, .class_ 33), (0, u "com/example/ianus/ianus/Token"), (0, .methodref 32 35), (0, .nameAndType 5 36), (0, u "(Lcom/example/ianus/ianus/Token$Kind;Ljava/lang/String;Ljava/lang/String;II)V"), (0, .methodref 32 38), (0, .nameAndType 39 40), (0, u "describe"), (0, u "()Ljava/lang/String;"), (0, .string 42), (0, u "end of document"), (0, .methodref 27 44), (0, .nameAndType 45 31), (0, u "prefixed"), (0, .methodref 27 47), (0, .nameAndType 48 31), (0, u "quoted"), (0, .methodref 50 51), (0, .class_ 52), (0, .nameAndType 53 54), (0, u "java/lang/String"), (0, u "equals"), (0, u "(Ljava/lang/Object;)Z"), (0, .methodref 50 56), (0, .nameAndType 5 57), (0, u "([C)V"), (2, u "law"), (0, u "(IIIII)Z")] 5

def k1m0 : Method := { name := "<init>", desc := "()V", sig := { parameters := [], returnType := none }, accessFlags := 1, code := none }
def k1c1 : Code := { maxStack := 7, maxLocals := 17, code := code, exceptionTable := #[], attributes := #[] }
def k1m1 : Method := { name := "law", desc := "(IIIII)Z", sig := { parameters := [.int, .int, .int, .int, .int], returnType := some .boolean }, accessFlags := 9, code := some k1c1 }
def k1c2 : Code := { maxStack := 6, maxLocals := 3, code := method_3_code, exceptionTable := #[], attributes := #[] }
def k1m2 : Method := { name := "make", desc := "(ICC)Ljava/lang/String;", sig := { parameters := [.int, .char, .char], returnType := some (.object "java/lang/String") }, accessFlags := 10, code := some k1c2 }
def k1c3 : Code := { maxStack := 6, maxLocals := 3, code := method_4_code, exceptionTable := #[], attributes := #[] }
def k1m3 : Method := { name := "prefixed", desc := "(ICC)Ljava/lang/String;", sig := { parameters := [.int, .char, .char], returnType := some (.object "java/lang/String") }, accessFlags := 10, code := some k1c3 }
def k1c4 : Code := { maxStack := 6, maxLocals := 3, code := method_5_code, exceptionTable := #[], attributes := #[] }
def k1m4 : Method := { name := "quoted", desc := "(ICC)Ljava/lang/String;", sig := { parameters := [.int, .char, .char], returnType := some (.object "java/lang/String") }, accessFlags := 10, code := some k1c4 }
/-- com/example/ianus/ianus/TokenDescribePinLaw -/
def k1 : Class := { plain "com/example/ianus/ianus/TokenDescribePinLaw" (some 0) with
  accessFlags := 49
  interfaces := #[]
  cf := some (fileOf pool1 27 #[] #[{ accessFlags := 1, nameIndex := 5, descriptorIndex := 6, attributes := #[] }, { accessFlags := 9, nameIndex := 60, descriptorIndex := 61, attributes := #[] }, { accessFlags := 10, nameIndex := 30, descriptorIndex := 31, attributes := #[] }, { accessFlags := 10, nameIndex := 45, descriptorIndex := 31, attributes := #[] }, { accessFlags := 10, nameIndex := 48, descriptorIndex := 31, attributes := #[] }] 49 2 #[] #[])
  fields := #[]
  methods := #[k1m0, k1m1, k1m2, k1m3, k1m4]
  instanceTypes := #[]
  staticTypes := #[]
  resolved := Array.replicate 67 none
  statics := none }

def pool2 : Array CpInfo := pool [(1, .class_ 2), (0, u "java/lang/constant/Constable"), (0, .class_ 4), (0, u "java/lang/Object")] 6

/-- java/lang/constant/Constable -/
def k2 : Class := { plain "java/lang/constant/Constable" (some 0) with
  accessFlags := 1537
  interfaces := #[]
  cf := some (fileOf pool2 1 #[] #[] 1537 3 #[] #[])
  fields := #[]
  methods := #[]
  instanceTypes := #[]
  staticTypes := #[]
  resolved := Array.replicate 11 none
  statics := none }

def pool3 : Array CpInfo := pool [(1, .class_ 2), (0, u "java/lang/Comparable"), (0, .class_ 4), (0, u "java/lang/Object")] 7

/-- java/lang/Comparable -/
def k3 : Class := { plain "java/lang/Comparable" (some 0) with
  accessFlags := 1537
  interfaces := #[]
  cf := some (fileOf pool3 1 #[] #[] 1537 3 #[] #[])
  fields := #[]
  methods := #[]
  instanceTypes := #[]
  staticTypes := #[]
  resolved := Array.replicate 12 none
  statics := none }

def pool4 : Array CpInfo := pool [(1, .class_ 2), (0, u "java/io/Serializable"), (0, .class_ 4), (0, u "java/lang/Object")] 2

/-- java/io/Serializable -/
def k4 : Class := { plain "java/io/Serializable" (some 0) with
  accessFlags := 1537
  interfaces := #[]
  cf := some (fileOf pool4 1 #[] #[] 1537 3 #[] #[])
  fields := #[]
  methods := #[]
  instanceTypes := #[]
  staticTypes := #[]
  resolved := Array.replicate 7 none
  statics := none }

def pool5 : Array CpInfo := pool [(2, .class_ 4), (1, u "java/lang/Enum"), (0, u "name"), (0, u "Ljava/lang/String;"), (2, u "ordinal"), (0, u "I"), (1, .class_ 14), (1, u "java/lang/Object"), (4, u "hash"), (86, .class_ 108), (1, u "java/lang/Enum$EnumDesc"), (2, .class_ 112), (0, u "java/lang/constant/Constable"), (0, .class_ 114), (0, u "java/lang/Comparable"), (0, .class_ 116), (0, u "java/io/Serializable")] 87

/-- java/lang/Enum -/
def k5 : Class := { plain "java/lang/Enum" (some 0) with
  accessFlags := 1057
  interfaces := #[2, 3, 4]
  cf := some (fileOf pool5 2 #[.nestMembers #[106]] #[] 1057 12 #[111, 113, 115] #[{ accessFlags := 18, nameIndex := 5, descriptorIndex := 6, attributes := #[] }, { accessFlags := 18, nameIndex := 9, descriptorIndex := 10, attributes := #[] }, { accessFlags := 2, nameIndex := 19, descriptorIndex := 10, attributes := #[] }])
  fields := #[{ name := "name", type := (.object "java/lang/String"), accessFlags := 18, slot := 0, constantValue := 0 }, { name := "ordinal", type := .int, accessFlags := 18, slot := 1, constantValue := 0 }, { name := "hash", type := .int, accessFlags := 2, slot := 2, constantValue := 0 }]
  methods := #[]
  instanceTypes := #[(.object "java/lang/String"), .int, .int]
  staticTypes := #[]
  resolved := Array.replicate 204 none
  statics := none }

def pool6 : Array CpInfo := pool [(1, .class_ 2), (0, u "com/example/ianus/ianus/Token$Kind"), (2, u "IDENTIFIER"), (0, u "Lcom/example/ianus/ianus/Token$Kind;"), (2, u "STRING"), (2, u "NUMBER"), (2, u "SYMBOL"), (2, u "END"), (2, u "$VALUES"), (0, u "[Lcom/example/ianus/ianus/Token$Kind;"), (6, .class_ 31), (1, u "java/lang/Enum"), (28, .class_ 61), (0, u "com/example/ianus/ianus/Token")] 2

/-- com/example/ianus/ianus/Token$Kind -/
def k6 : Class := { plain "com/example/ianus/ianus/Token$Kind" (some 5) with
  accessFlags := 16432
  interfaces := #[]
  cf := some (fileOf pool6 1 #[.nestHost 60] #[] 16432 29 #[] #[{ accessFlags := 16409, nameIndex := 5, descriptorIndex := 6, attributes := #[] }, { accessFlags := 16409, nameIndex := 9, descriptorIndex := 6, attributes := #[] }, { accessFlags := 16409, nameIndex := 12, descriptorIndex := 6, attributes := #[] }, { accessFlags := 16409, nameIndex := 15, descriptorIndex := 6, attributes := #[] }, { accessFlags := 16409, nameIndex := 18, descriptorIndex := 6, attributes := #[] }, { accessFlags := 4122, nameIndex := 21, descriptorIndex := 22, attributes := #[] }])
  fields := #[{ name := "IDENTIFIER", type := (.object "com/example/ianus/ianus/Token$Kind"), accessFlags := 16409, slot := 0, constantValue := 0 }, { name := "STRING", type := (.object "com/example/ianus/ianus/Token$Kind"), accessFlags := 16409, slot := 1, constantValue := 0 }, { name := "NUMBER", type := (.object "com/example/ianus/ianus/Token$Kind"), accessFlags := 16409, slot := 2, constantValue := 0 }, { name := "SYMBOL", type := (.object "com/example/ianus/ianus/Token$Kind"), accessFlags := 16409, slot := 3, constantValue := 0 }, { name := "END", type := (.object "com/example/ianus/ianus/Token$Kind"), accessFlags := 16409, slot := 4, constantValue := 0 }, { name := "$VALUES", type := (.array (.object "com/example/ianus/ianus/Token$Kind")), accessFlags := 4122, slot := 5, constantValue := 0 }]
  methods := #[]
  instanceTypes := #[(.object "java/lang/String"), .int, .int]
  staticTypes := #[(.object "com/example/ianus/ianus/Token$Kind"), (.object "com/example/ianus/ianus/Token$Kind"), (.object "com/example/ianus/ianus/Token$Kind"), (.object "com/example/ianus/ianus/Token$Kind"), (.object "com/example/ianus/ianus/Token$Kind"), (.array (.object "com/example/ianus/ianus/Token$Kind"))]
  resolved := Array.replicate 64 none
  statics := some 0 }

def pool7 : Array CpInfo := pool [(2, .class_ 4), (1, u "java/lang/CharSequence"), (42, .class_ 48), (0, u "java/lang/CharSequence$1CodePointIterator"), (10, .class_ 60), (0, u "java/lang/CharSequence$1CharIterator"), (5, .class_ 67), (0, u "java/lang/Object")] 63

/-- java/lang/CharSequence -/
def k7 : Class := { plain "java/lang/CharSequence" (some 0) with
  accessFlags := 1537
  interfaces := #[]
  cf := some (fileOf pool7 2 #[.nestMembers #[47, 59]] #[] 1537 66 #[] #[])
  fields := #[]
  methods := #[]
  instanceTypes := #[]
  staticTypes := #[]
  resolved := Array.replicate 131 none
  statics := none }

def pool8 : Array CpInfo := pool [(1, .class_ 2), (0, u "java/lang/constant/ConstantDesc"), (0, .class_ 4), (0, u "java/lang/Object")] 32

/-- java/lang/constant/ConstantDesc -/
def k8 : Class := { plain "java/lang/constant/ConstantDesc" (some 0) with
  accessFlags := 1537
  interfaces := #[]
  cf := some (fileOf pool8 1 #[] #[] 1537 3 #[] #[])
  fields := #[]
  methods := #[]
  instanceTypes := #[]
  staticTypes := #[]
  resolved := Array.replicate 37 none
  statics := none }

def pool9 : Array CpInfo := pool [(1, .methodref 2 3), (0, .class_ 4), (0, .nameAndType 5 6), (0, u "java/lang/Object"), (0, u "<init>"), (0, u "()V"), (0, .string 8), (0, u ""), (0, .fieldref 10 11), (0, .class_ 12), (0, .nameAndType 13 14), (0, u "java/lang/String"), (0, u "value"), (0, u "[B"), (0, .fieldref 10 16), (0, .nameAndType 17 18), (0, u "coder"), (0, u "B"), (2, u "hash"), (0, u "I"), (2, u "hashIsZero"), (0, u "Z"), (0, .methodref 10 28), (0, .nameAndType 5 29), (0, u "([CIILjava/lang/Void;)V"), (8, .fieldref 10 39), (0, .nameAndType 40 26), (0, u "COMPACT_STRINGS"), (1, .class_ 44), (1, u "java/lang/StringUTF16"), (0, u "compress"), (1, .methodref 42 48), (0, .nameAndType 49 50), (0, u "coderFromArrayLen"), (0, u "([BI)B"), (3, .methodref 55 56), (0, .class_ 57), (0, .nameAndType 58 59), (0, u "java/util/Arrays"), (0, u "copyOfRange"), (0, u "([BII)[B"), (47, .class_ 109), (1, u "java/lang/StringLatin1"), (32, u "()Z"), (34, .methodref 42 178), (0, .nameAndType 45 179), (0, u "([CII)[B"), (13, .class_ 195), (1, u "java/lang/System"), (16, .methodref 193 213), (0, .nameAndType 214 215), (0, u "arraycopy"), (0, u "(Ljava/lang/Object;ILjava/lang/Object;II)V"), (118, u "()I"), (0, .methodref 10 336), (0, .nameAndType 17 337), (0, u "()B"), (2, u "()[B"), (148, .methodref 10 490), (0, .nameAndType 5 491), (0, u "(Ljava/lang/AbstractStringBuilder;Ljava/lang/Void;)V"), (1, .nameAndType 494 142), (0, u "isLatin1"), (11, .nameAndType 507 334), (0, u "length"), (24, u "getBytes"), (8, .methodref 107 542), (0, .nameAndType 543 544), (0, u "equals"), (0, u "([B[B)Z"), (4, .methodref 550 506), (0, .class_ 551), (0, u "java/lang/AbstractStringBuilder"), (0, .methodref 550 553), (0, .nameAndType 554 340), (0, u "getValue"), (18, u "(Ljava/lang/Object;)Z"), (1, .class_ 576), (0, u "java/lang/CharSequence"), (22, u "CASE_INSENSITIVE_ORDER"), (0, u "Ljava/util/Comparator;"), (220, u "([BIB)V"), (188, u "([C)V"), (36, .methodref 550 493), (53, u "serialPersistentFields"), (0, u "[Ljava/io/ObjectStreamField;"), (0, .class_ 1104), (0, u "java/lang/String$CaseInsensitiveComparator"), (1, .class_ 1107), (0, u "java/io/Serializable"), (0, .class_ 1109), (0, u "java/lang/Comparable"), (0, .class_ 1111), (0, u "java/lang/constant/Constable"), (0, .class_ 1113), (0, u "java/lang/constant/ConstantDesc"), (2, u "serialVersionUID"), (0, u "J"), (3, u "REPL"), (0, u "C"), (2, u "LATIN1"), (1, u "UTF16"), (105, u "(Ljava/lang/StringBuilder;)V")] 217

def k9m0 : Method := { name := "<init>", desc := "()V", sig := { parameters := [], returnType := none }, accessFlags := 1, code := none }
def k9c1 : Code := { maxStack := 5, maxLocals := 2, code := jdk_42_method_3_code, exceptionTable := #[], attributes := #[] }
def k9m1 : Method := { name := "<init>", desc := "([C)V", sig := { parameters := [(.array .char)], returnType := none }, accessFlags := 1, code := some k9c1 }
def k9c2 : Code := { maxStack := 3, maxLocals := 2, code := jdk_42_method_53_code, exceptionTable := #[], attributes := #[] }
def k9m2 : Method := { name := "<init>", desc := "(Ljava/lang/StringBuilder;)V", sig := { parameters := [(.object "java/lang/StringBuilder")], returnType := none }, accessFlags := 1, code := some k9c2 }
def k9c3 : Code := { maxStack := 2, maxLocals := 1, code := jdk_42_method_54_code, exceptionTable := #[], attributes := #[] }
def k9m3 : Method := { name := "length", desc := "()I", sig := { parameters := [], returnType := some .int }, accessFlags := 1, code := some k9c3 }
def k9c4 : Code := { maxStack := 2, maxLocals := 3, code := jdk_42_method_66_code, exceptionTable := #[], attributes := #[] }
def k9m4 : Method := { name := "equals", desc := "(Ljava/lang/Object;)Z", sig := { parameters := [(.object "java/lang/Object")], returnType := some .boolean }, accessFlags := 1, code := some k9c4 }
def k9c5 : Code := { maxStack := 5, maxLocals := 4, code := jdk_42_method_147_code, exceptionTable := #[], attributes := #[] }
def k9m5 : Method := { name := "getBytes", desc := "([BIB)V", sig := { parameters := [(.array .byte), .int, .byte], returnType := none }, accessFlags := 0, code := some k9c5 }
def k9c6 : Code := { maxStack := 4, maxLocals := 6, code := jdk_42_method_149_code, exceptionTable := #[], attributes := #[] }
def k9m6 : Method := { name := "<init>", desc := "([CIILjava/lang/Void;)V", sig := { parameters := [(.array .char), .int, .int, (.object "java/lang/Void")], returnType := none }, accessFlags := 2, code := some k9c6 }
def k9c7 : Code := { maxStack := 5, maxLocals := 5, code := jdk_42_method_150_code, exceptionTable := #[], attributes := #[] }
def k9m7 : Method := { name := "<init>", desc := "(Ljava/lang/AbstractStringBuilder;Ljava/lang/Void;)V", sig := { parameters := [(.object "java/lang/AbstractStringBuilder"), (.object "java/lang/Void")], returnType := none }, accessFlags := 0, code := some k9c7 }
def k9c8 : Code := { maxStack := 1, maxLocals := 1, code := jdk_42_method_152_code, exceptionTable := #[], attributes := #[] }
def k9m8 : Method := { name := "coder", desc := "()B", sig := { parameters := [], returnType := some .byte }, accessFlags := 0, code := some k9c8 }
/-- java/lang/String -/
def k9 : Class := { plain "java/lang/String" (some 0) with
  accessFlags := 49
  interfaces := #[4, 3, 7, 2, 8]
  cf := some (fileOf pool9 10 #[.nestMembers #[1103]] #[{ accessFlags := 1, nameIndex := 5, descriptorIndex := 6, attributes := #[] }, { accessFlags := 1, nameIndex := 5, descriptorIndex := 1010, attributes := #[] }, { accessFlags := 1, nameIndex := 5, descriptorIndex := 1233, attributes := #[] }, { accessFlags := 1, nameIndex := 507, descriptorIndex := 334, attributes := #[] }, { accessFlags := 1, nameIndex := 543, descriptorIndex := 573, attributes := #[] }, { accessFlags := 0, nameIndex := 532, descriptorIndex := 821, attributes := #[] }, { accessFlags := 2, nameIndex := 5, descriptorIndex := 29, attributes := #[] }, { accessFlags := 0, nameIndex := 5, descriptorIndex := 491, attributes := #[] }, { accessFlags := 0, nameIndex := 17, descriptorIndex := 337, attributes := #[] }] 49 2 #[1106, 1108, 575, 1110, 1112] #[{ accessFlags := 18, nameIndex := 13, descriptorIndex := 14, attributes := #[] }, { accessFlags := 18, nameIndex := 17, descriptorIndex := 18, attributes := #[] }, { accessFlags := 2, nameIndex := 21, descriptorIndex := 22, attributes := #[] }, { accessFlags := 2, nameIndex := 25, descriptorIndex := 26, attributes := #[] }, { accessFlags := 26, nameIndex := 1116, descriptorIndex := 1117, attributes := #[] }, { accessFlags := 24, nameIndex := 40, descriptorIndex := 26, attributes := #[] }, { accessFlags := 26, nameIndex := 1101, descriptorIndex := 1102, attributes := #[] }, { accessFlags := 26, nameIndex := 1121, descriptorIndex := 1122, attributes := #[] }, { accessFlags := 25, nameIndex := 599, descriptorIndex := 600, attributes := #[] }, { accessFlags := 24, nameIndex := 1125, descriptorIndex := 18, attributes := #[] }, { accessFlags := 24, nameIndex := 1127, descriptorIndex := 18, attributes := #[] }])
  fields := #[{ name := "value", type := (.array .byte), accessFlags := 18, slot := 0, constantValue := 0 }, { name := "coder", type := .byte, accessFlags := 18, slot := 1, constantValue := 0 }, { name := "hash", type := .int, accessFlags := 2, slot := 2, constantValue := 0 }, { name := "hashIsZero", type := .boolean, accessFlags := 2, slot := 3, constantValue := 0 }, { name := "serialVersionUID", type := .long, accessFlags := 26, slot := 0, constantValue := 0 }, { name := "COMPACT_STRINGS", type := .boolean, accessFlags := 24, slot := 1, constantValue := 0 }, { name := "serialPersistentFields", type := (.array (.object "java/io/ObjectStreamField")), accessFlags := 26, slot := 2, constantValue := 0 }, { name := "REPL", type := .char, accessFlags := 26, slot := 3, constantValue := 0 }, { name := "CASE_INSENSITIVE_ORDER", type := (.object "java/util/Comparator"), accessFlags := 25, slot := 4, constantValue := 0 }, { name := "LATIN1", type := .byte, accessFlags := 24, slot := 5, constantValue := 0 }, { name := "UTF16", type := .byte, accessFlags := 24, slot := 6, constantValue := 0 }]
  methods := #[k9m0, k9m1, k9m2, k9m3, k9m4, k9m5, k9m6, k9m7, k9m8]
  instanceTypes := #[(.array .byte), .byte, .int, .boolean]
  staticTypes := #[.long, .boolean, (.array (.object "java/io/ObjectStreamField")), .char, (.object "java/util/Comparator"), .byte, .byte]
  resolved := Array.replicate 1451 none
  statics := some 1 }

def pool10 : Array CpInfo := pool [(1, .methodref 2 3), (0, .class_ 4), (0, .nameAndType 5 6), (0, u "java/lang/Object"), (0, u "<init>"), (0, u "()V"), (0, .fieldref 8 9), (0, .class_ 10), (0, .nameAndType 11 12), (0, u "com/example/ianus/ianus/Token"), (0, u "kind"), (0, u "Lcom/example/ianus/ianus/Token$Kind;"), (0, .fieldref 8 14), (0, .nameAndType 15 16), (0, u "text"), (0, u "Ljava/lang/String;"), (0, .fieldref 8 18), (0, .nameAndType 19 16), (0, u "value"), (0, .fieldref 8 21), (0, .nameAndType 22 23), (0, u "line"), (0, u "I"), (0, .fieldref 8 25), (0, .nameAndType 26 23), (0, u "column"), (1, .class_ 30), (1, u "com/example/ianus/ianus/Token$Kind"), (18, .fieldref 28 50), (0, .nameAndType 51 12), (0, u "END"), (0, .string 53), (0, u "end of document"), (0, .fieldref 28 55), (0, .nameAndType 56 12), (0, u "STRING"), (0, .class_ 58), (0, u "java/lang/StringBuilder"), (0, .methodref 57 3), (0, .string 61), (0, u "string "), (0, .methodref 57 63), (0, .nameAndType 64 65), (0, u "append"), (0, u "(Ljava/lang/String;)Ljava/lang/StringBuilder;"), (0, .methodref 57 67), (0, .nameAndType 68 69), (0, u "toString"), (0, u "()Ljava/lang/String;"), (0, .methodref 57 71), (0, .nameAndType 64 72), (0, u "(C)Ljava/lang/StringBuilder;"), (0, u "(Lcom/example/ianus/ianus/Token$Kind;Ljava/lang/String;Ljava/lang/String;II)V"), (8, u "describe")] 5

def k10c0 : Code := { maxStack := 2, maxLocals := 6, code := prog_18_method_1_code, exceptionTable := #[], attributes := #[] }
def k10m0 : Method := { name := "<init>", desc := "(Lcom/example/ianus/ianus/Token$Kind;Ljava/lang/String;Ljava/lang/String;II)V", sig := { parameters := [(.object "com/example/ianus/ianus/Token$Kind"), (.object "java/lang/String"), (.object "java/lang/String"), .int, .int], returnType := none }, accessFlags := 0, code := some k10c0 }
def k10c1 : Code := { maxStack := 2, maxLocals := 2, code := prog_18_method_9_code, exceptionTable := #[], attributes := #[] }
def k10m1 : Method := { name := "describe", desc := "()Ljava/lang/String;", sig := { parameters := [], returnType := some (.object "java/lang/String") }, accessFlags := 0, code := some k10c1 }
/-- com/example/ianus/ianus/Token -/
def k10 : Class := { plain "com/example/ianus/ianus/Token" (some 0) with
  accessFlags := 32
  interfaces := #[]
  cf := some (fileOf pool10 8 #[.nestMembers #[28]] #[{ accessFlags := 0, nameIndex := 5, descriptorIndex := 73, attributes := #[] }, { accessFlags := 0, nameIndex := 82, descriptorIndex := 69, attributes := #[] }] 32 2 #[] #[{ accessFlags := 18, nameIndex := 11, descriptorIndex := 12, attributes := #[] }, { accessFlags := 18, nameIndex := 15, descriptorIndex := 16, attributes := #[] }, { accessFlags := 18, nameIndex := 19, descriptorIndex := 16, attributes := #[] }, { accessFlags := 18, nameIndex := 22, descriptorIndex := 23, attributes := #[] }, { accessFlags := 18, nameIndex := 26, descriptorIndex := 23, attributes := #[] }])
  fields := #[{ name := "kind", type := (.object "com/example/ianus/ianus/Token$Kind"), accessFlags := 18, slot := 0, constantValue := 0 }, { name := "text", type := (.object "java/lang/String"), accessFlags := 18, slot := 1, constantValue := 0 }, { name := "value", type := (.object "java/lang/String"), accessFlags := 18, slot := 2, constantValue := 0 }, { name := "line", type := .int, accessFlags := 18, slot := 3, constantValue := 0 }, { name := "column", type := .int, accessFlags := 18, slot := 4, constantValue := 0 }]
  methods := #[k10m0, k10m1]
  instanceTypes := #[(.object "com/example/ianus/ianus/Token$Kind"), (.object "java/lang/String"), (.object "java/lang/String"), .int, .int]
  staticTypes := #[]
  resolved := Array.replicate 88 none
  statics := none }

def pool11 : Array CpInfo := pool [(1, .class_ 2), (0, u "java/lang/Appendable"), (0, .class_ 4), (0, u "java/lang/Object")] 9

/-- java/lang/Appendable -/
def k11 : Class := { plain "java/lang/Appendable" (some 0) with
  accessFlags := 1537
  interfaces := #[]
  cf := some (fileOf pool11 1 #[] #[] 1537 3 #[] #[])
  fields := #[]
  methods := #[]
  instanceTypes := #[]
  staticTypes := #[]
  resolved := Array.replicate 14 none
  statics := none }

def pool12 : Array CpInfo := pool [(1, .class_ 2), (0, u "java/lang/String"), (0, .methodref 4 5), (0, .class_ 6), (0, .nameAndType 7 8), (0, u "java/lang/Object"), (0, u "<init>"), (0, u "()V"), (1, .class_ 12), (1, u "java/lang/AbstractStringBuilder"), (0, u "EMPTYVALUE"), (0, u "[B"), (0, .fieldref 10 16), (0, .nameAndType 17 14), (0, u "value"), (0, .fieldref 1 19), (0, .nameAndType 20 21), (0, u "COMPACT_STRINGS"), (0, u "Z"), (0, .fieldref 10 23), (0, .nameAndType 24 25), (0, u "coder"), (0, u "B"), (6, .methodref 1 33), (0, .nameAndType 34 35), (0, u "length"), (0, u "()I"), (4, .methodref 1 41), (0, .nameAndType 24 42), (0, u "()B"), (2, u "append"), (0, u "(Ljava/lang/String;)Ljava/lang/AbstractStringBuilder;"), (1, .class_ 49), (0, u "java/lang/CharSequence"), (19, u "(Ljava/lang/String;)V"), (5, u "maybeLatin1"), (3, .fieldref 10 80), (0, .nameAndType 81 82), (0, u "count"), (0, u "I"), (0, .methodref 10 84), (0, .nameAndType 85 86), (0, u "isLatin1"), (0, u "()Z"), (1, .class_ 90), (1, u "java/lang/StringLatin1"), (9, .methodref 10 101), (0, .nameAndType 102 103), (0, u "ensureCapacityInternal"), (0, u "(I)V"), (87, .methodref 88 192), (0, .nameAndType 193 194), (0, u "canEncode"), (0, u "(C)Z"), (13, .methodref 10 209), (0, .nameAndType 210 211), (0, u "putStringAt"), (0, u "(ILjava/lang/String;)V"), (5, u "inflateIfNeededFor"), (2, .nameAndType 221 222), (0, u "getBytes"), (0, u "([BIB)V"), (69, u "(C)Ljava/lang/AbstractStringBuilder;"), (104, .methodref 10 398), (0, .nameAndType 217 69), (0, .methodref 1 220), (3, u "()[B"), (40, .class_ 445), (0, u "java/lang/Appendable"), (106, u "getValue")] 56

def k12m0 : Method := { name := "<init>", desc := "()V", sig := { parameters := [], returnType := none }, accessFlags := 0, code := none }
def k12c1 : Code := { maxStack := 2, maxLocals := 2, code := jdk_68_method_2_code, exceptionTable := #[], attributes := #[] }
def k12m1 : Method := { name := "<init>", desc := "(I)V", sig := { parameters := [.int], returnType := none }, accessFlags := 0, code := some k12c1 }
def k12c2 : Code := { maxStack := 1, maxLocals := 1, code := jdk_68_method_6_code, exceptionTable := #[], attributes := #[] }
def k12m2 : Method := { name := "length", desc := "()I", sig := { parameters := [], returnType := some .int }, accessFlags := 1, code := some k12c2 }
def k12c3 : Code := { maxStack := 4, maxLocals := 3, code := jdk_68_method_9_code, exceptionTable := #[], attributes := #[] }
def k12m3 : Method := { name := "ensureCapacityInternal", desc := "(I)V", sig := { parameters := [.int], returnType := none }, accessFlags := 2, code := some k12c3 }
def k12c4 : Code := { maxStack := 3, maxLocals := 3, code := jdk_68_method_22_code, exceptionTable := #[], attributes := #[] }
def k12m4 : Method := { name := "append", desc := "(Ljava/lang/String;)Ljava/lang/AbstractStringBuilder;", sig := { parameters := [(.object "java/lang/String")], returnType := some (.object "java/lang/AbstractStringBuilder") }, accessFlags := 1, code := some k12c4 }
def k12c5 : Code := { maxStack := 5, maxLocals := 2, code := jdk_68_method_31_code, exceptionTable := #[], attributes := #[] }
def k12m5 : Method := { name := "append", desc := "(C)Ljava/lang/AbstractStringBuilder;", sig := { parameters := [.char], returnType := some (.object "java/lang/AbstractStringBuilder") }, accessFlags := 1, code := some k12c5 }
def k12c6 : Code := { maxStack := 1, maxLocals := 1, code := jdk_68_method_64_code, exceptionTable := #[], attributes := #[] }
def k12m6 : Method := { name := "getValue", desc := "()[B", sig := { parameters := [], returnType := some (.array .byte) }, accessFlags := 16, code := some k12c6 }
def k12c7 : Code := { maxStack := 1, maxLocals := 1, code := jdk_68_method_68_code, exceptionTable := #[], attributes := #[] }
def k12m7 : Method := { name := "isLatin1", desc := "()Z", sig := { parameters := [], returnType := some .boolean }, accessFlags := 16, code := some k12c7 }
def k12c8 : Code := { maxStack := 2, maxLocals := 2, code := jdk_68_method_71_code, exceptionTable := #[], attributes := #[] }
def k12m8 : Method := { name := "inflateIfNeededFor", desc := "(Ljava/lang/String;)V", sig := { parameters := [(.object "java/lang/String")], returnType := none }, accessFlags := 2, code := some k12c8 }
def k12c9 : Code := { maxStack := 4, maxLocals := 3, code := jdk_68_method_73_code, exceptionTable := #[], attributes := #[] }
def k12m9 : Method := { name := "putStringAt", desc := "(ILjava/lang/String;)V", sig := { parameters := [.int, (.object "java/lang/String")], returnType := none }, accessFlags := 2, code := some k12c9 }
/-- java/lang/AbstractStringBuilder -/
def k12 : Class := { plain "java/lang/AbstractStringBuilder" (some 0) with
  accessFlags := 1056
  interfaces := #[11, 7]
  cf := some (fileOf pool12 10 #[] #[{ accessFlags := 0, nameIndex := 7, descriptorIndex := 8, attributes := #[] }, { accessFlags := 0, nameIndex := 7, descriptorIndex := 103, attributes := #[] }, { accessFlags := 1, nameIndex := 34, descriptorIndex := 35, attributes := #[] }, { accessFlags := 2, nameIndex := 102, descriptorIndex := 103, attributes := #[] }, { accessFlags := 1, nameIndex := 45, descriptorIndex := 46, attributes := #[] }, { accessFlags := 1, nameIndex := 45, descriptorIndex := 292, attributes := #[] }, { accessFlags := 16, nameIndex := 552, descriptorIndex := 403, attributes := #[] }, { accessFlags := 16, nameIndex := 85, descriptorIndex := 86, attributes := #[] }, { accessFlags := 2, nameIndex := 217, descriptorIndex := 69, attributes := #[] }, { accessFlags := 2, nameIndex := 210, descriptorIndex := 211, attributes := #[] }] 1056 4 #[444, 48] #[{ accessFlags := 0, nameIndex := 17, descriptorIndex := 14, attributes := #[] }, { accessFlags := 0, nameIndex := 24, descriptorIndex := 25, attributes := #[] }, { accessFlags := 0, nameIndex := 75, descriptorIndex := 21, attributes := #[] }, { accessFlags := 0, nameIndex := 81, descriptorIndex := 82, attributes := #[] }, { accessFlags := 26, nameIndex := 13, descriptorIndex := 14, attributes := #[] }])
  fields := #[{ name := "value", type := (.array .byte), accessFlags := 0, slot := 0, constantValue := 0 }, { name := "coder", type := .byte, accessFlags := 0, slot := 1, constantValue := 0 }, { name := "maybeLatin1", type := .boolean, accessFlags := 0, slot := 2, constantValue := 0 }, { name := "count", type := .int, accessFlags := 0, slot := 3, constantValue := 0 }, { name := "EMPTYVALUE", type := (.array .byte), accessFlags := 26, slot := 0, constantValue := 0 }]
  methods := #[k12m0, k12m1, k12m2, k12m3, k12m4, k12m5, k12m6, k12m7, k12m8, k12m9]
  instanceTypes := #[(.array .byte), .byte, .boolean, .int]
  staticTypes := #[(.array .byte)]
  resolved := Array.replicate 609 none
  statics := none }

def pool13 : Array CpInfo := pool [(1, .methodref 2 3), (0, .class_ 4), (0, .nameAndType 5 6), (0, u "java/lang/AbstractStringBuilder"), (0, u "<init>"), (0, u "(I)V"), (11, .class_ 20), (1, u "java/lang/String"), (3, .class_ 26), (1, u "java/lang/StringBuilder"), (0, u "append"), (0, u "(Ljava/lang/String;)Ljava/lang/StringBuilder;"), (0, .methodref 2 30), (0, .nameAndType 27 31), (0, u "(Ljava/lang/String;)Ljava/lang/AbstractStringBuilder;"), (18, .methodref 2 51), (0, .nameAndType 27 52), (0, u "(C)Ljava/lang/AbstractStringBuilder;"), (84, .methodref 18 138), (0, .nameAndType 5 139), (0, u "(Ljava/lang/StringBuilder;)V"), (5, u "()V"), (10, u "()I"), (129, u "(C)Ljava/lang/StringBuilder;"), (56, .methodref 2 344), (0, .nameAndType 345 156), (0, u "length"), (3, .class_ 350), (0, u "java/lang/Appendable"), (0, .class_ 352), (0, u "java/io/Serializable"), (0, .class_ 354), (0, u "java/lang/Comparable"), (0, .class_ 356), (0, u "java/lang/CharSequence"), (0, u "serialVersionUID"), (0, u "J"), (40, u "toString"), (0, u "()Ljava/lang/String;")] 21

def k13c0 : Code := { maxStack := 2, maxLocals := 1, code := jdk_67_method_1_code, exceptionTable := #[], attributes := #[] }
def k13m0 : Method := { name := "<init>", desc := "()V", sig := { parameters := [], returnType := none }, accessFlags := 1, code := some k13c0 }
def k13c1 : Code := { maxStack := 2, maxLocals := 2, code := jdk_67_method_7_code, exceptionTable := #[], attributes := #[] }
def k13m1 : Method := { name := "append", desc := "(Ljava/lang/String;)Ljava/lang/StringBuilder;", sig := { parameters := [(.object "java/lang/String")], returnType := some (.object "java/lang/StringBuilder") }, accessFlags := 1, code := some k13c1 }
def k13c2 : Code := { maxStack := 2, maxLocals := 2, code := jdk_67_method_14_code, exceptionTable := #[], attributes := #[] }
def k13m2 : Method := { name := "append", desc := "(C)Ljava/lang/StringBuilder;", sig := { parameters := [.char], returnType := some (.object "java/lang/StringBuilder") }, accessFlags := 1, code := some k13c2 }
def k13c3 : Code := { maxStack := 3, maxLocals := 1, code := jdk_67_method_42_code, exceptionTable := #[], attributes := #[] }
def k13m3 : Method := { name := "toString", desc := "()Ljava/lang/String;", sig := { parameters := [], returnType := some (.object "java/lang/String") }, accessFlags := 1, code := some k13c3 }
def k13c4 : Code := { maxStack := 1, maxLocals := 1, code := jdk_67_method_93_code, exceptionTable := #[], attributes := #[] }
def k13m4 : Method := { name := "length", desc := "()I", sig := { parameters := [], returnType := some .int }, accessFlags := 4161, code := some k13c4 }
/-- java/lang/StringBuilder -/
def k13 : Class := { plain "java/lang/StringBuilder" (some 12) with
  accessFlags := 49
  interfaces := #[11, 4, 3, 7]
  cf := some (fileOf pool13 24 #[] #[{ accessFlags := 1, nameIndex := 5, descriptorIndex := 145, attributes := #[] }, { accessFlags := 1, nameIndex := 27, descriptorIndex := 28, attributes := #[] }, { accessFlags := 1, nameIndex := 27, descriptorIndex := 286, attributes := #[] }, { accessFlags := 1, nameIndex := 399, descriptorIndex := 400, attributes := #[] }, { accessFlags := 4161, nameIndex := 345, descriptorIndex := 156, attributes := #[] }] 49 2 #[349, 351, 353, 355] #[{ accessFlags := 24, nameIndex := 357, descriptorIndex := 358, attributes := #[] }])
  fields := #[{ name := "serialVersionUID", type := .long, accessFlags := 24, slot := 0, constantValue := 0 }]
  methods := #[k13m0, k13m1, k13m2, k13m3, k13m4]
  instanceTypes := #[(.array .byte), .byte, .boolean, .int]
  staticTypes := #[.long]
  resolved := Array.replicate 422 none
  statics := none }

def pool14 : Array CpInfo := pool [(4, .class_ 6), (1, u "java/lang/Object"), (0, u "<init>"), (0, u "()V"), (5, .class_ 16), (1, u "java/lang/StringLatin1"), (73, u "canEncode"), (14, u "(C)Z"), (15, u "$assertionsDisabled"), (0, u "Z"), (98, .class_ 223), (1, u "java/lang/StringLatin1$LinesSpliterator"), (57, u "equals"), (0, u "([B[B)Z"), (107, .class_ 391), (0, u "java/lang/StringLatin1$CharsSpliterator")] 3

def k14m0 : Method := { name := "<init>", desc := "()V", sig := { parameters := [], returnType := none }, accessFlags := 0, code := none }
def k14c1 : Code := { maxStack := 2, maxLocals := 1, code := jdk_43_method_3_code, exceptionTable := #[], attributes := #[] }
def k14m1 : Method := { name := "canEncode", desc := "(C)Z", sig := { parameters := [.char], returnType := some .boolean }, accessFlags := 9, code := some k14c1 }
def k14c2 : Code := { maxStack := 3, maxLocals := 3, code := jdk_43_method_13_code, exceptionTable := #[], attributes := #[] }
def k14m2 : Method := { name := "equals", desc := "([B[B)Z", sig := { parameters := [(.array .byte), (.array .byte)], returnType := some .boolean }, accessFlags := 9, code := some k14c2 }
/-- java/lang/StringLatin1 -/
def k14 : Class := { plain "java/lang/StringLatin1" (some 0) with
  accessFlags := 48
  interfaces := #[]
  cf := some (fileOf pool14 14 #[.nestMembers #[390, 221]] #[{ accessFlags := 0, nameIndex := 7, descriptorIndex := 8, attributes := #[] }, { accessFlags := 9, nameIndex := 90, descriptorIndex := 105, attributes := #[] }, { accessFlags := 9, nameIndex := 281, descriptorIndex := 282, attributes := #[] }] 48 4 #[] #[{ accessFlags := 4120, nameIndex := 121, descriptorIndex := 122, attributes := #[] }])
  fields := #[{ name := "$assertionsDisabled", type := .boolean, accessFlags := 4120, slot := 0, constantValue := 0 }]
  methods := #[k14m0, k14m1, k14m2]
  instanceTypes := #[]
  staticTypes := #[.boolean]
  resolved := Array.replicate 395 none
  statics := none }

def pool15 : Array CpInfo := pool [(2, .class_ 4), (1, u "java/lang/Object"), (0, u "<init>"), (0, u "()V"), (1, .class_ 10), (1, u "java/lang/System"), (0, u "allowSecurityManager"), (0, u "I"), (16, u "cons"), (0, u "Ljava/io/Console;"), (77, .class_ 110), (1, u "java/lang/System$CallersHolder"), (43, u "initialErrStream"), (0, u "Ljava/io/PrintStream;"), (19, u "security"), (0, u "Ljava/lang/SecurityManager;"), (31, .class_ 209), (0, u "java/lang/System$1"), (7, u "props"), (0, u "Ljava/util/Properties;"), (2, u "lineSeparator"), (0, u "Ljava/lang/String;"), (96, .class_ 321), (1, u "java/lang/System$LoggerFinder"), (5, .class_ 328), (0, u "java/lang/System$Logger"), (67, u "err"), (2, u "out"), (91, u "notSupportedJnuEncoding"), (15, u "in"), (17, u "initialIn"), (0, u "Ljava/io/InputStream;"), (35, u "bootLayer"), (0, u "Ljava/lang/ModuleLayer;"), (99, .class_ 664), (0, u "java/lang/System$2"), (9, u "NEVER"), (2, u "MAYBE"), (49, u "arraycopy"), (0, u "(Ljava/lang/Object;ILjava/lang/Object;II)V"), (72, .class_ 802), (0, u "java/lang/System$Logger$Level")] 31

def k15m0 : Method := { name := "<init>", desc := "()V", sig := { parameters := [], returnType := none }, accessFlags := 2, code := none }
def k15m1 : Method := { name := "arraycopy", desc := "(Ljava/lang/Object;ILjava/lang/Object;II)V", sig := { parameters := [(.object "java/lang/Object"), .int, (.object "java/lang/Object"), .int, .int], returnType := none }, accessFlags := 265, code := none }
/-- java/lang/System -/
def k15 : Class := { plain "java/lang/System" (some 0) with
  accessFlags := 49
  interfaces := #[]
  cf := some (fileOf pool15 8 #[.nestMembers #[319, 327, 801, 108, 663, 208]] #[{ accessFlags := 2, nameIndex := 5, descriptorIndex := 6, attributes := #[] }, { accessFlags := 265, nameIndex := 727, descriptorIndex := 728, attributes := #[] }] 49 2 #[] #[{ accessFlags := 25, nameIndex := 507, descriptorIndex := 526, attributes := #[] }, { accessFlags := 25, nameIndex := 399, descriptorIndex := 155, attributes := #[] }, { accessFlags := 25, nameIndex := 396, descriptorIndex := 155, attributes := #[] }, { accessFlags := 10, nameIndex := 525, descriptorIndex := 526, attributes := #[] }, { accessFlags := 26, nameIndex := 674, descriptorIndex := 12, attributes := #[] }, { accessFlags := 26, nameIndex := 677, descriptorIndex := 12, attributes := #[] }, { accessFlags := 10, nameIndex := 11, descriptorIndex := 12, attributes := #[] }, { accessFlags := 74, nameIndex := 175, descriptorIndex := 176, attributes := #[] }, { accessFlags := 10, nameIndex := 491, descriptorIndex := 222, attributes := #[] }, { accessFlags := 74, nameIndex := 29, descriptorIndex := 30, attributes := #[] }, { accessFlags := 74, nameIndex := 154, descriptorIndex := 155, attributes := #[] }, { accessFlags := 10, nameIndex := 217, descriptorIndex := 218, attributes := #[] }, { accessFlags := 10, nameIndex := 221, descriptorIndex := 222, attributes := #[] }, { accessFlags := 8, nameIndex := 562, descriptorIndex := 563, attributes := #[] }])
  fields := #[{ name := "in", type := (.object "java/io/InputStream"), accessFlags := 25, slot := 0, constantValue := 0 }, { name := "out", type := (.object "java/io/PrintStream"), accessFlags := 25, slot := 1, constantValue := 0 }, { name := "err", type := (.object "java/io/PrintStream"), accessFlags := 25, slot := 2, constantValue := 0 }, { name := "initialIn", type := (.object "java/io/InputStream"), accessFlags := 10, slot := 3, constantValue := 0 }, { name := "NEVER", type := .int, accessFlags := 26, slot := 4, constantValue := 0 }, { name := "MAYBE", type := .int, accessFlags := 26, slot := 5, constantValue := 0 }, { name := "allowSecurityManager", type := .int, accessFlags := 10, slot := 6, constantValue := 0 }, { name := "security", type := (.object "java/lang/SecurityManager"), accessFlags := 74, slot := 7, constantValue := 0 }, { name := "notSupportedJnuEncoding", type := (.object "java/lang/String"), accessFlags := 10, slot := 8, constantValue := 0 }, { name := "cons", type := (.object "java/io/Console"), accessFlags := 74, slot := 9, constantValue := 0 }, { name := "initialErrStream", type := (.object "java/io/PrintStream"), accessFlags := 74, slot := 10, constantValue := 0 }, { name := "props", type := (.object "java/util/Properties"), accessFlags := 10, slot := 11, constantValue := 0 }, { name := "lineSeparator", type := (.object "java/lang/String"), accessFlags := 10, slot := 12, constantValue := 0 }, { name := "bootLayer", type := (.object "java/lang/ModuleLayer"), accessFlags := 8, slot := 13, constantValue := 0 }]
  methods := #[k15m0, k15m1]
  instanceTypes := #[]
  staticTypes := #[(.object "java/io/InputStream"), (.object "java/io/PrintStream"), (.object "java/io/PrintStream"), (.object "java/io/InputStream"), .int, .int, .int, (.object "java/lang/SecurityManager"), (.object "java/lang/String"), (.object "java/io/Console"), (.object "java/io/PrintStream"), (.object "java/util/Properties"), (.object "java/lang/String"), (.object "java/lang/ModuleLayer")]
  resolved := Array.replicate 834 none
  statics := none }

def pool16 : Array CpInfo := pool [(2, .class_ 4), (1, u "java/lang/Object"), (0, u "<init>"), (0, u "()V"), (7, .class_ 16), (1, u "java/util/Arrays"), (57, .class_ 76), (1, u "java/util/Arrays$NaturalOrder"), (36, .class_ 115), (1, u "java/util/Arrays$LegacyMergeSort"), (1, u "Z"), (21, u "copyOfRange"), (10, .methodref 151 152), (0, .class_ 153), (0, .nameAndType 154 155), (0, u "java/lang/System"), (0, u "arraycopy"), (0, u "(Ljava/lang/Object;ILjava/lang/Object;II)V"), (148, .methodref 305 306), (0, .class_ 307), (0, .nameAndType 308 309), (0, u "java/lang/Math"), (0, u "min"), (0, u "(II)I"), (29, .methodref 14 340), (0, .nameAndType 341 342), (0, u "copyOfRangeByte"), (0, u "([BII)[B"), (0, .methodref 14 344), (0, .nameAndType 345 346), (0, u "checkLength"), (0, u "(II)V"), (28, .class_ 376), (0, u "java/util/Arrays$ArrayList"), (68, u "$assertionsDisabled"), (269, u "MIN_ARRAY_SORT_GRAN"), (0, u "I"), (2, u "INSERTIONSORT_THRESHOLD"), (255, .class_ 976), (0, u "java/util/Arrays$ArrayItr")] 52

def k16m0 : Method := { name := "<init>", desc := "()V", sig := { parameters := [], returnType := none }, accessFlags := 2, code := none }
def k16c1 : Code := { maxStack := 4, maxLocals := 2, code := jdk_65_method_131_code, exceptionTable := #[], attributes := #[] }
def k16m1 : Method := { name := "checkLength", desc := "(II)V", sig := { parameters := [.int, .int], returnType := none }, accessFlags := 10, code := some k16c1 }
def k16c2 : Code := { maxStack := 3, maxLocals := 3, code := jdk_65_method_132_code, exceptionTable := #[], attributes := #[] }
def k16m2 : Method := { name := "copyOfRange", desc := "([BII)[B", sig := { parameters := [(.array .byte), .int, .int], returnType := some (.array .byte) }, accessFlags := 9, code := some k16c2 }
def k16c3 : Code := { maxStack := 6, maxLocals := 5, code := jdk_65_method_133_code, exceptionTable := #[], attributes := #[] }
def k16m3 : Method := { name := "copyOfRangeByte", desc := "([BII)[B", sig := { parameters := [(.array .byte), .int, .int], returnType := some (.array .byte) }, accessFlags := 10, code := some k16c3 }
/-- java/util/Arrays -/
def k16 : Class := { plain "java/util/Arrays" (some 0) with
  accessFlags := 49
  interfaces := #[]
  cf := some (fileOf pool16 14 #[.nestMembers #[975, 375, 113, 74]] #[{ accessFlags := 2, nameIndex := 5, descriptorIndex := 6, attributes := #[] }, { accessFlags := 10, nameIndex := 345, descriptorIndex := 346, attributes := #[] }, { accessFlags := 9, nameIndex := 139, descriptorIndex := 342, attributes := #[] }, { accessFlags := 10, nameIndex := 341, descriptorIndex := 342, attributes := #[] }] 49 2 #[] #[{ accessFlags := 26, nameIndex := 715, descriptorIndex := 716, attributes := #[] }, { accessFlags := 26, nameIndex := 719, descriptorIndex := 716, attributes := #[] }, { accessFlags := 4120, nameIndex := 445, descriptorIndex := 117, attributes := #[] }])
  fields := #[{ name := "MIN_ARRAY_SORT_GRAN", type := .int, accessFlags := 26, slot := 0, constantValue := 0 }, { name := "INSERTIONSORT_THRESHOLD", type := .int, accessFlags := 26, slot := 1, constantValue := 0 }, { name := "$assertionsDisabled", type := .boolean, accessFlags := 4120, slot := 2, constantValue := 0 }]
  methods := #[k16m0, k16m1, k16m2, k16m3]
  instanceTypes := #[]
  staticTypes := #[.int, .int, .boolean]
  resolved := Array.replicate 1029 none
  statics := none }

def pool17 : Array CpInfo := pool [(1, .class_ 2), (0, u "java/lang/Math"), (1, .class_ 6), (1, u "java/lang/Object"), (0, u "<init>"), (0, u "()V"), (89, .class_ 100), (1, u "java/lang/Math$RandomNumberGeneratorHolder"), (71, u "negativeZeroFloatBits"), (0, u "J"), (2, u "negativeZeroDoubleBits"), (24, u "min"), (43, u "$assertionsDisabled"), (0, u "Z"), (88, u "(II)I"), (2, u "twoToTheDoubleScaleDown"), (0, u "D"), (4, u "twoToTheDoubleScaleUp"), (9, u "E"), (3, u "PI"), (2, u "TAU"), (2, u "DEGREES_TO_RADIANS"), (0, u "RADIANS_TO_DEGREES")] 94

def k17m0 : Method := { name := "<init>", desc := "()V", sig := { parameters := [], returnType := none }, accessFlags := 2, code := none }
def k17c1 : Code := { maxStack := 2, maxLocals := 2, code := jdk_29_method_69_code, exceptionTable := #[], attributes := #[] }
def k17m1 : Method := { name := "min", desc := "(II)I", sig := { parameters := [.int, .int], returnType := some .int }, accessFlags := 9, code := some k17c1 }
/-- java/lang/Math -/
def k17 : Class := { plain "java/lang/Math" (some 0) with
  accessFlags := 49
  interfaces := #[]
  cf := some (fileOf pool17 1 #[.nestMembers #[98]] #[{ accessFlags := 2, nameIndex := 7, descriptorIndex := 8, attributes := #[] }, { accessFlags := 9, nameIndex := 201, descriptorIndex := 335, attributes := #[] }] 49 4 #[] #[{ accessFlags := 25, nameIndex := 354, descriptorIndex := 339, attributes := #[] }, { accessFlags := 25, nameIndex := 358, descriptorIndex := 339, attributes := #[] }, { accessFlags := 25, nameIndex := 361, descriptorIndex := 339, attributes := #[] }, { accessFlags := 26, nameIndex := 364, descriptorIndex := 339, attributes := #[] }, { accessFlags := 26, nameIndex := 365, descriptorIndex := 339, attributes := #[] }, { accessFlags := 26, nameIndex := 172, descriptorIndex := 173, attributes := #[] }, { accessFlags := 26, nameIndex := 176, descriptorIndex := 173, attributes := #[] }, { accessFlags := 8, nameIndex := 344, descriptorIndex := 339, attributes := #[] }, { accessFlags := 8, nameIndex := 338, descriptorIndex := 339, attributes := #[] }, { accessFlags := 4120, nameIndex := 245, descriptorIndex := 246, attributes := #[] }])
  fields := #[{ name := "E", type := .double, accessFlags := 25, slot := 0, constantValue := 0 }, { name := "PI", type := .double, accessFlags := 25, slot := 1, constantValue := 0 }, { name := "TAU", type := .double, accessFlags := 25, slot := 2, constantValue := 0 }, { name := "DEGREES_TO_RADIANS", type := .double, accessFlags := 26, slot := 3, constantValue := 0 }, { name := "RADIANS_TO_DEGREES", type := .double, accessFlags := 26, slot := 4, constantValue := 0 }, { name := "negativeZeroFloatBits", type := .long, accessFlags := 26, slot := 5, constantValue := 0 }, { name := "negativeZeroDoubleBits", type := .long, accessFlags := 26, slot := 6, constantValue := 0 }, { name := "twoToTheDoubleScaleUp", type := .double, accessFlags := 8, slot := 7, constantValue := 0 }, { name := "twoToTheDoubleScaleDown", type := .double, accessFlags := 8, slot := 8, constantValue := 0 }, { name := "$assertionsDisabled", type := .boolean, accessFlags := 4120, slot := 9, constantValue := 0 }]
  methods := #[k17m0, k17m1]
  instanceTypes := #[]
  staticTypes := #[.double, .double, .double, .double, .double, .long, .long, .double, .double, .boolean]
  resolved := Array.replicate 460 none
  statics := none }

def pool18 : Array CpInfo := pool [(6, .class_ 8), (1, u "java/lang/Object"), (0, u "<init>"), (0, u "()V"), (1, .class_ 14), (1, u "java/lang/StringUTF16"), (31, u "$assertionsDisabled"), (0, u "Z"), (13, u "HI_BYTE_SHIFT"), (0, u "I"), (2, u "LO_BYTE_SHIFT"), (49, .methodref 12 116), (0, .nameAndType 117 118), (0, u "compress"), (0, u "([CI[BII)I"), (3, u "([CII)[B"), (138, u "coderFromArrayLen"), (0, u "([BI)B"), (106, .class_ 371), (1, u "java/lang/StringUTF16$LinesSpliterator"), (58, u "MAX_LENGTH"), (196, .class_ 628), (0, u "java/lang/StringUTF16$CodePointsSpliterator"), (0, .class_ 630), (0, u "java/lang/StringUTF16$CharsSpliterator")] 4

def k18m0 : Method := { name := "<init>", desc := "()V", sig := { parameters := [], returnType := none }, accessFlags := 0, code := none }
def k18c1 : Code := { maxStack := 2, maxLocals := 2, code := jdk_52_method_15_code, exceptionTable := #[], attributes := #[] }
def k18m1 : Method := { name := "coderFromArrayLen", desc := "([BI)B", sig := { parameters := [(.array .byte), .int], returnType := some .byte }, accessFlags := 8, code := some k18c1 }
def k18c2 : Code := { maxStack := 5, maxLocals := 6, code := jdk_52_method_16_code, exceptionTable := #[], attributes := #[] }
def k18m2 : Method := { name := "compress", desc := "([CII)[B", sig := { parameters := [(.array .char), .int, .int], returnType := some (.array .byte) }, accessFlags := 9, code := some k18c2 }
def k18c3 : Code := { maxStack := 3, maxLocals := 7, code := jdk_52_method_21_code, exceptionTable := #[], attributes := #[] }
def k18m3 : Method := { name := "compress", desc := "([CI[BII)I", sig := { parameters := [(.array .char), .int, (.array .byte), .int, .int], returnType := some .int }, accessFlags := 9, code := some k18c3 }
/-- java/lang/StringUTF16 -/
def k18 : Class := { plain "java/lang/StringUTF16" (some 0) with
  accessFlags := 48
  interfaces := #[]
  cf := some (fileOf pool18 12 #[.nestMembers #[627, 629, 369]] #[{ accessFlags := 0, nameIndex := 9, descriptorIndex := 10, attributes := #[] }, { accessFlags := 8, nameIndex := 261, descriptorIndex := 262, attributes := #[] }, { accessFlags := 9, nameIndex := 117, descriptorIndex := 122, attributes := #[] }, { accessFlags := 9, nameIndex := 117, descriptorIndex := 118, attributes := #[] }] 48 6 #[] #[{ accessFlags := 26, nameIndex := 61, descriptorIndex := 62, attributes := #[] }, { accessFlags := 26, nameIndex := 65, descriptorIndex := 62, attributes := #[] }, { accessFlags := 24, nameIndex := 430, descriptorIndex := 62, attributes := #[] }, { accessFlags := 4120, nameIndex := 46, descriptorIndex := 47, attributes := #[] }])
  fields := #[{ name := "HI_BYTE_SHIFT", type := .int, accessFlags := 26, slot := 0, constantValue := 0 }, { name := "LO_BYTE_SHIFT", type := .int, accessFlags := 26, slot := 1, constantValue := 0 }, { name := "MAX_LENGTH", type := .int, accessFlags := 24, slot := 2, constantValue := 0 }, { name := "$assertionsDisabled", type := .boolean, accessFlags := 4120, slot := 3, constantValue := 0 }]
  methods := #[k18m0, k18m1, k18m2, k18m3]
  instanceTypes := #[]
  staticTypes := #[.int, .int, .int, .boolean]
  resolved := Array.replicate 635 none
  statics := none }

def pool19 : Array CpInfo := pool [(2, .class_ 4), (1, u "java/lang/Object"), (0, u "<init>"), (0, u "()V"), (17, .class_ 26), (1, u "jdk/internal/util/Preconditions"), (28, .class_ 56), (0, u "jdk/internal/util/Preconditions$4"), (57, .class_ 115), (0, u "jdk/internal/util/Preconditions$1"), (7, u "SIOOBE_FORMATTER"), (0, u "Ljava/util/function/BiFunction;"), (0, .class_ 126), (0, u "jdk/internal/util/Preconditions$2"), (3, u "AIOOBE_FORMATTER"), (0, .class_ 132), (0, u "jdk/internal/util/Preconditions$3"), (3, u "IOOBE_FORMATTER")] 57

def k19m0 : Method := { name := "<init>", desc := "()V", sig := { parameters := [], returnType := none }, accessFlags := 1, code := none }
/-- jdk/internal/util/Preconditions -/
def k19 : Class := { plain "jdk/internal/util/Preconditions" (some 0) with
  accessFlags := 33
  interfaces := #[]
  cf := some (fileOf pool19 24 #[.nestMembers #[55, 131, 125, 114]] #[{ accessFlags := 1, nameIndex := 5, descriptorIndex := 6, attributes := #[] }] 33 2 #[] #[{ accessFlags := 25, nameIndex := 123, descriptorIndex := 124, attributes := #[] }, { accessFlags := 25, nameIndex := 130, descriptorIndex := 124, attributes := #[] }, { accessFlags := 25, nameIndex := 136, descriptorIndex := 124, attributes := #[] }])
  fields := #[{ name := "SIOOBE_FORMATTER", type := (.object "java/util/function/BiFunction"), accessFlags := 25, slot := 0, constantValue := 0 }, { name := "AIOOBE_FORMATTER", type := (.object "java/util/function/BiFunction"), accessFlags := 25, slot := 1, constantValue := 0 }, { name := "IOOBE_FORMATTER", type := (.object "java/util/function/BiFunction"), accessFlags := 25, slot := 2, constantValue := 0 }]
  methods := #[k19m0]
  instanceTypes := #[]
  staticTypes := #[(.object "java/util/function/BiFunction"), (.object "java/util/function/BiFunction"), (.object "java/util/function/BiFunction")]
  resolved := Array.replicate 194 none
  statics := some 2 }

def pool20 : Array CpInfo := pool [(9, u "<init>"), (6, .class_ 18), (1, u "java/lang/Object"), (0, u "()V"), (1, .class_ 23), (1, u "jdk/internal/util/ArraysSupport"), (0, u "LOG2_ARRAY_LONG_INDEX_SCALE"), (0, u "I"), (2, u "U"), (0, u "Ljdk/internal/misc/Unsafe;"), (8, u "BIG_ENDIAN"), (0, u "Z"), (8, u "LOG2_BYTE_BIT_SIZE"), (4, u "LOG2_ARRAY_INT_INDEX_SCALE"), (54, u "JLA"), (0, u "Ljdk/internal/access/JavaLangAccess;"), (11, u "LOG2_ARRAY_BOOLEAN_INDEX_SCALE"), (9, u "LOG2_ARRAY_BYTE_INDEX_SCALE"), (5, u "LOG2_ARRAY_CHAR_INDEX_SCALE"), (5, u "LOG2_ARRAY_SHORT_INDEX_SCALE"), (18, u "LOG2_ARRAY_FLOAT_INDEX_SCALE"), (24, u "LOG2_ARRAY_DOUBLE_INDEX_SCALE"), (89, u "T_BOOLEAN"), (2, u "T_CHAR"), (1, u "T_FLOAT"), (1, u "T_DOUBLE"), (1, u "T_BYTE"), (1, u "T_SHORT"), (1, u "T_INT"), (1, u "T_LONG"), (1, u "SOFT_MAX_ARRAY_LENGTH")] 83

def k20m0 : Method := { name := "<init>", desc := "()V", sig := { parameters := [], returnType := none }, accessFlags := 2, code := none }
/-- jdk/internal/util/ArraysSupport -/
def k20 : Class := { plain "jdk/internal/util/ArraysSupport" (some 0) with
  accessFlags := 33
  interfaces := #[]
  cf := some (fileOf pool20 21 #[] #[{ accessFlags := 2, nameIndex := 9, descriptorIndex := 19, attributes := #[] }] 33 16 #[] #[{ accessFlags := 24, nameIndex := 28, descriptorIndex := 29, attributes := #[] }, { accessFlags := 26, nameIndex := 38, descriptorIndex := 39, attributes := #[] }, { accessFlags := 25, nameIndex := 121, descriptorIndex := 25, attributes := #[] }, { accessFlags := 25, nameIndex := 131, descriptorIndex := 25, attributes := #[] }, { accessFlags := 25, nameIndex := 137, descriptorIndex := 25, attributes := #[] }, { accessFlags := 25, nameIndex := 143, descriptorIndex := 25, attributes := #[] }, { accessFlags := 25, nameIndex := 53, descriptorIndex := 25, attributes := #[] }, { accessFlags := 25, nameIndex := 24, descriptorIndex := 25, attributes := #[] }, { accessFlags := 25, nameIndex := 162, descriptorIndex := 25, attributes := #[] }, { accessFlags := 25, nameIndex := 187, descriptorIndex := 25, attributes := #[] }, { accessFlags := 26, nameIndex := 48, descriptorIndex := 25, attributes := #[] }, { accessFlags := 25, nameIndex := 277, descriptorIndex := 25, attributes := #[] }, { accessFlags := 25, nameIndex := 280, descriptorIndex := 25, attributes := #[] }, { accessFlags := 25, nameIndex := 282, descriptorIndex := 25, attributes := #[] }, { accessFlags := 25, nameIndex := 284, descriptorIndex := 25, attributes := #[] }, { accessFlags := 25, nameIndex := 286, descriptorIndex := 25, attributes := #[] }, { accessFlags := 25, nameIndex := 288, descriptorIndex := 25, attributes := #[] }, { accessFlags := 25, nameIndex := 290, descriptorIndex := 25, attributes := #[] }, { accessFlags := 25, nameIndex := 292, descriptorIndex := 25, attributes := #[] }, { accessFlags := 26, nameIndex := 108, descriptorIndex := 109, attributes := #[] }, { accessFlags := 25, nameIndex := 294, descriptorIndex := 25, attributes := #[] }])
  fields := #[{ name := "U", type := (.object "jdk/internal/misc/Unsafe"), accessFlags := 24, slot := 0, constantValue := 0 }, { name := "BIG_ENDIAN", type := .boolean, accessFlags := 26, slot := 1, constantValue := 0 }, { name := "LOG2_ARRAY_BOOLEAN_INDEX_SCALE", type := .int, accessFlags := 25, slot := 2, constantValue := 0 }, { name := "LOG2_ARRAY_BYTE_INDEX_SCALE", type := .int, accessFlags := 25, slot := 3, constantValue := 0 }, { name := "LOG2_ARRAY_CHAR_INDEX_SCALE", type := .int, accessFlags := 25, slot := 4, constantValue := 0 }, { name := "LOG2_ARRAY_SHORT_INDEX_SCALE", type := .int, accessFlags := 25, slot := 5, constantValue := 0 }, { name := "LOG2_ARRAY_INT_INDEX_SCALE", type := .int, accessFlags := 25, slot := 6, constantValue := 0 }, { name := "LOG2_ARRAY_LONG_INDEX_SCALE", type := .int, accessFlags := 25, slot := 7, constantValue := 0 }, { name := "LOG2_ARRAY_FLOAT_INDEX_SCALE", type := .int, accessFlags := 25, slot := 8, constantValue := 0 }, { name := "LOG2_ARRAY_DOUBLE_INDEX_SCALE", type := .int, accessFlags := 25, slot := 9, constantValue := 0 }, { name := "LOG2_BYTE_BIT_SIZE", type := .int, accessFlags := 26, slot := 10, constantValue := 0 }, { name := "T_BOOLEAN", type := .int, accessFlags := 25, slot := 11, constantValue := 0 }, { name := "T_CHAR", type := .int, accessFlags := 25, slot := 12, constantValue := 0 }, { name := "T_FLOAT", type := .int, accessFlags := 25, slot := 13, constantValue := 0 }, { name := "T_DOUBLE", type := .int, accessFlags := 25, slot := 14, constantValue := 0 }, { name := "T_BYTE", type := .int, accessFlags := 25, slot := 15, constantValue := 0 }, { name := "T_SHORT", type := .int, accessFlags := 25, slot := 16, constantValue := 0 }, { name := "T_INT", type := .int, accessFlags := 25, slot := 17, constantValue := 0 }, { name := "T_LONG", type := .int, accessFlags := 25, slot := 18, constantValue := 0 }, { name := "JLA", type := (.object "jdk/internal/access/JavaLangAccess"), accessFlags := 26, slot := 19, constantValue := 0 }, { name := "SOFT_MAX_ARRAY_LENGTH", type := .int, accessFlags := 25, slot := 20, constantValue := 0 }]
  methods := #[k20m0]
  instanceTypes := #[]
  staticTypes := #[(.object "jdk/internal/misc/Unsafe"), .boolean, .int, .int, .int, .int, .int, .int, .int, .int, .int, .int, .int, .int, .int, .int, .int, .int, .int, (.object "jdk/internal/access/JavaLangAccess"), .int]
  resolved := Array.replicate 378 none
  statics := none }

def pool21 : Array CpInfo := pool [(1, u "java/lang/Cloneable"), (0, .class_ 1), (0, u "java/lang/Object"), (0, .class_ 3)] 3

/-- java/lang/Cloneable -/
def k21 : Class := { plain "java/lang/Cloneable" (some 0) with
  accessFlags := 1537
  interfaces := #[]
  cf := some (fileOf pool21 2 #[] #[] 1537 4 #[] #[])
  fields := #[]
  methods := #[]
  instanceTypes := #[]
  staticTypes := #[]
  resolved := Array.replicate 8 none
  statics := none }

/-- the primitive byte -/
def k22 : Class := { plain "byte" none with kind := .primitive 'B', accessFlags := 0x411 }
/-- [B -/
def k23 : Class := { plain "[B" (some 0) with kind := .array 22 .byte, interfaces := #[21, 4], accessFlags := 1041 }

/-- the primitive char -/
def k24 : Class := { plain "char" none with kind := .primitive 'C', accessFlags := 0x411 }
/-- [C -/
def k25 : Class := { plain "[C" (some 0) with kind := .array 24 .char, interfaces := #[21, 4], accessFlags := 1041 }

/-- the primitive int -/
def k26 : Class := { plain "int" none with kind := .primitive 'I', accessFlags := 0x411 }
/-- [I -/
def k27 : Class := { plain "[I" (some 0) with kind := .array 26 .int, interfaces := #[21, 4], accessFlags := 1041 }

def heap : Heap := #[{ cls := 6, slots := #[.ref 3, .ref 4, .ref 5, .ref 6, .ref 7, .null], vm := .statics 6 },
  { cls := 9, slots := #[.long 0, .int 1, .null, .int 0, .null, .int 0, .int 0], vm := .statics 9 },
  { cls := 19, slots := #[.null, .null, .null], vm := .statics 19 },
  { cls := 6, slots := #[.null, .int 0, .int 0], vm := .none },
  { cls := 6, slots := #[.null, .int 1, .int 0], vm := .none },
  { cls := 6, slots := #[.null, .int 2, .int 0], vm := .none },
  { cls := 6, slots := #[.null, .int 3, .int 0], vm := .none },
  { cls := 6, slots := #[.null, .int 4, .int 0], vm := .none }]
def classes : Array Class := #[k0, k1, k2, k3, k4, k5, k6, k7, k8, k9, k10, k11, k12, k13, k14, k15, k16, k17, k18, k19, k20, k21, k22, k23, k24, k25, k26, k27]
def interned : List (Array UInt16 × Addr) := []
def slotsUsed : Nat := 31
def theMethod : MethodId := ⟨1, 1⟩
def args0 : Array Value := #[.int 5, .int 2, .int 7, .int 8, .int 9]
def aboutOver (below : List Frame) : State where
  vm := { classes := classes, interned := interned.toArray }
  heap := heap
  slotsUsed := slotsUsed
  threads := #[{ frames := .invoking theMethod args0 :: below }]
def below0 : List Frame := [.native { method := ⟨0, 0⟩, args := #[] }]
def about1 : State := aboutOver below0
def p0 : Program := .bare "" "" ""
def e0 : Env := launch0.env 0 0 0
theorem w_frames : about1.frames = Frame.invoking theMethod args0 :: below0 := rfl
set_option maxRecDepth 65536 in
theorem w_args : argsFit about1.vm theMethod args0 = true := by decide +kernel
set_option maxRecDepth 65536 in
theorem w_heap : heapFits about1 = true := by decide +kernel
set_option maxRecDepth 65536 in
theorem w_runnable : about1.curStatus? = some .runnable := by decide +kernel
set_option maxRecDepth 65536 in
theorem w_alone : about1.alone = true := by decide +kernel
set_option maxRecDepth 65536 in
theorem w_named : about1.methodNamed? x = some theMethod := by decide +kernel
set_option maxRecDepth 65536 in
theorem w_hears : about1.hears theMethod below0 = true := by decide +kernel
set_option maxRecDepth 65536 in
theorem w_ripe : about1.ripe theMethod args0 below0 = true := by decide +kernel
theorem w_running : about1.status = .running := rfl
set_option maxRecDepth 65536 in
theorem w_room : about1.hasRoom e0.platform room_1 = true :=
  launch0.hasRoom_least _ room_1 (by decide +kernel) (by decide +kernel) (by decide +kernel) (by decide +kernel) (by decide +kernel) (by decide +kernel)
theorem allAtoms_all (ts : List Jvm.Cond) (a : Array Jvm.Value) (st : Jvm.State) : (allAtoms ts).before a st = ts.all (fun c => c.before a st) := by
  induction ts with
  | nil => rfl
  | cons c t ih =>
    show (Jvm.Cond.and c (allAtoms t)).before a st = _
    rw [Jvm.Cond.before_and, ih, List.all_cons]
def words1 : List Jvm.Cond := Jvm.Cond.code x code maxLocals ret :: tables_1
/-- a 'code' word, met by the world's own term for the bytes: nothing is compared byte by byte -/
theorem code_word {y : MethodName} {bytes : ByteArray} {mx : Nat} {rt : Option FieldType} {a : Array Value} {s : State} {m : MethodId} {meth : Method} {c : Code} (h1 : s.methodNamed? y = some m) (h2 : s.vm.method? m = some meth) (h3 : meth.code = some c) (h4 : c.code = bytes)
    (h5 : (c.maxLocals == mx && c.exceptionTable.isEmpty && decide (c.maxStack ≤ mostOperands) && decide (meth.sig.returnType = rt) && !meth.locks && decide (parseMethodDescriptor y.desc = some meth.sig)) = true) : (Jvm.Cond.code y bytes mx rt).before a s = true := by
  simp only [Bool.and_eq_true, beq_iff_eq, Bool.not_eq_true', decide_eq_true_eq] at h5
  obtain ⟨⟨⟨⟨⟨g1, g2⟩, g3⟩, g4⟩, g5⟩, g6⟩ := h5
  simp [Cond.before, Cond.holds, Cond.value, h1, h2, h3, h4, g1, g2, g3, g4, g5, g6]
def isCode : Jvm.Cond → Bool
  | .code _ _ _ _ => true
  | _ => false
theorem all_split {L : List Jvm.Cond} {P : Jvm.Cond → Bool} (h1 : L.all (fun c => isCode c || P c) = true) (h2 : ∀ c ∈ L.filter isCode, P c = true) : L.all P = true := by
  refine List.all_eq_true.mpr fun c hc => ?_
  have h := List.all_eq_true.mp h1 c hc
  rcases Bool.eq_false_or_eq_true (isCode c) with hi | hi
  · exact h2 c (List.mem_filter.mpr ⟨hc, hi⟩)
  · simpa [hi] using h
set_option maxRecDepth 65536 in
theorem w_c0 : (Jvm.Cond.code x code maxLocals ret).before args0 about1 = true := code_word (m := ⟨1, 1⟩) (meth := k1m1) (c := k1c1) (by decide +kernel) rfl rfl rfl (by decide +kernel)
set_option maxRecDepth 65536 in
theorem w_c1 : (Jvm.Cond.code ({ cls := "com/example/ianus/ianus/TokenDescribePinLaw", name := "make", desc := "(ICC)Ljava/lang/String;" } : Jvm.MethodName) method_3_code (3 : Nat) (Option.some (Jvm.ClassFile.FieldType.object "java/lang/String"))).before args0 about1 = true := code_word (m := ⟨1, 2⟩) (meth := k1m2) (c := k1c2) (by decide +kernel) rfl rfl rfl (by decide +kernel)
set_option maxRecDepth 65536 in
theorem w_c2 : (Jvm.Cond.code ({ cls := "java/lang/String", name := "<init>", desc := "([C)V" } : Jvm.MethodName) jdk_42_method_3_code (2 : Nat) (Option.none : Option Jvm.ClassFile.FieldType)).before args0 about1 = true := code_word (m := ⟨9, 1⟩) (meth := k9m1) (c := k9c1) (by decide +kernel) rfl rfl rfl (by decide +kernel)
set_option maxRecDepth 65536 in
theorem w_c3 : (Jvm.Cond.code ({ cls := "java/lang/String", name := "<init>", desc := "([CIILjava/lang/Void;)V" } : Jvm.MethodName) jdk_42_method_149_code (6 : Nat) (Option.none : Option Jvm.ClassFile.FieldType)).before args0 about1 = true := code_word (m := ⟨9, 6⟩) (meth := k9m6) (c := k9c6) (by decide +kernel) rfl rfl rfl (by decide +kernel)
set_option maxRecDepth 65536 in
theorem w_c4 : (Jvm.Cond.code ({ cls := "java/lang/Object", name := "<init>", desc := "()V" } : Jvm.MethodName) object_method_1_code (1 : Nat) (Option.none : Option Jvm.ClassFile.FieldType)).before args0 about1 = true := code_word (m := ⟨0, 0⟩) (meth := k0m0) (c := k0c0) (by decide +kernel) rfl rfl rfl (by decide +kernel)
set_option maxRecDepth 65536 in
theorem w_c5 : (Jvm.Cond.code ({ cls := "com/example/ianus/ianus/Token", name := "<init>", desc := "(Lcom/example/ianus/ianus/Token$Kind;Ljava/lang/String;Ljava/lang/String;II)V" } : Jvm.MethodName) prog_18_method_1_code (6 : Nat) (Option.none : Option Jvm.ClassFile.FieldType)).before args0 about1 = true := code_word (m := ⟨10, 0⟩) (meth := k10m0) (c := k10c0) (by decide +kernel) rfl rfl rfl (by decide +kernel)
set_option maxRecDepth 65536 in
theorem w_c6 : (Jvm.Cond.code ({ cls := "com/example/ianus/ianus/Token", name := "describe", desc := "()Ljava/lang/String;" } : Jvm.MethodName) prog_18_method_9_code (2 : Nat) (Option.some (Jvm.ClassFile.FieldType.object "java/lang/String"))).before args0 about1 = true := code_word (m := ⟨10, 1⟩) (meth := k10m1) (c := k10c1) (by decide +kernel) rfl rfl rfl (by decide +kernel)
set_option maxRecDepth 65536 in
theorem w_c7 : (Jvm.Cond.code ({ cls := "java/lang/StringBuilder", name := "<init>", desc := "()V" } : Jvm.MethodName) jdk_67_method_1_code (1 : Nat) (Option.none : Option Jvm.ClassFile.FieldType)).before args0 about1 = true := code_word (m := ⟨13, 0⟩) (meth := k13m0) (c := k13c0) (by decide +kernel) rfl rfl rfl (by decide +kernel)
set_option maxRecDepth 65536 in
theorem w_c8 : (Jvm.Cond.code ({ cls := "java/lang/AbstractStringBuilder", name := "<init>", desc := "(I)V" } : Jvm.MethodName) jdk_68_method_2_code (2 : Nat) (Option.none : Option Jvm.ClassFile.FieldType)).before args0 about1 = true := code_word (m := ⟨12, 1⟩) (meth := k12m1) (c := k12c1) (by decide +kernel) rfl rfl rfl (by decide +kernel)
set_option maxRecDepth 65536 in
theorem w_c9 : (Jvm.Cond.code ({ cls := "java/lang/StringBuilder", name := "append", desc := "(C)Ljava/lang/StringBuilder;" } : Jvm.MethodName) jdk_67_method_14_code (2 : Nat) (Option.some (Jvm.ClassFile.FieldType.object "java/lang/StringBuilder"))).before args0 about1 = true := code_word (m := ⟨13, 2⟩) (meth := k13m2) (c := k13c2) (by decide +kernel) rfl rfl rfl (by decide +kernel)
set_option maxRecDepth 65536 in
theorem w_c10 : (Jvm.Cond.code ({ cls := "java/lang/AbstractStringBuilder", name := "append", desc := "(C)Ljava/lang/AbstractStringBuilder;" } : Jvm.MethodName) jdk_68_method_31_code (2 : Nat) (Option.some (Jvm.ClassFile.FieldType.object "java/lang/AbstractStringBuilder"))).before args0 about1 = true := code_word (m := ⟨12, 5⟩) (meth := k12m5) (c := k12c5) (by decide +kernel) rfl rfl rfl (by decide +kernel)
set_option maxRecDepth 65536 in
theorem w_c11 : (Jvm.Cond.code ({ cls := "java/lang/AbstractStringBuilder", name := "ensureCapacityInternal", desc := "(I)V" } : Jvm.MethodName) jdk_68_method_9_code (3 : Nat) (Option.none : Option Jvm.ClassFile.FieldType)).before args0 about1 = true := code_word (m := ⟨12, 3⟩) (meth := k12m3) (c := k12c3) (by decide +kernel) rfl rfl rfl (by decide +kernel)
set_option maxRecDepth 65536 in
theorem w_c12 : (Jvm.Cond.code ({ cls := "java/lang/AbstractStringBuilder", name := "isLatin1", desc := "()Z" } : Jvm.MethodName) jdk_68_method_68_code (1 : Nat) (Option.some Jvm.ClassFile.FieldType.boolean)).before args0 about1 = true := code_word (m := ⟨12, 7⟩) (meth := k12m7) (c := k12c7) (by decide +kernel) rfl rfl rfl (by decide +kernel)
set_option maxRecDepth 65536 in
theorem w_c13 : (Jvm.Cond.code ({ cls := "java/lang/StringLatin1", name := "canEncode", desc := "(C)Z" } : Jvm.MethodName) jdk_43_method_3_code (1 : Nat) (Option.some Jvm.ClassFile.FieldType.boolean)).before args0 about1 = true := code_word (m := ⟨14, 1⟩) (meth := k14m1) (c := k14c1) (by decide +kernel) rfl rfl rfl (by decide +kernel)
set_option maxRecDepth 65536 in
theorem w_c14 : (Jvm.Cond.code ({ cls := "java/lang/StringBuilder", name := "append", desc := "(Ljava/lang/String;)Ljava/lang/StringBuilder;" } : Jvm.MethodName) jdk_67_method_7_code (2 : Nat) (Option.some (Jvm.ClassFile.FieldType.object "java/lang/StringBuilder"))).before args0 about1 = true := code_word (m := ⟨13, 1⟩) (meth := k13m1) (c := k13c1) (by decide +kernel) rfl rfl rfl (by decide +kernel)
set_option maxRecDepth 65536 in
theorem w_c15 : (Jvm.Cond.code ({ cls := "java/lang/AbstractStringBuilder", name := "append", desc := "(Ljava/lang/String;)Ljava/lang/AbstractStringBuilder;" } : Jvm.MethodName) jdk_68_method_22_code (3 : Nat) (Option.some (Jvm.ClassFile.FieldType.object "java/lang/AbstractStringBuilder"))).before args0 about1 = true := code_word (m := ⟨12, 4⟩) (meth := k12m4) (c := k12c4) (by decide +kernel) rfl rfl rfl (by decide +kernel)
set_option maxRecDepth 65536 in
theorem w_c16 : (Jvm.Cond.code ({ cls := "java/lang/String", name := "length", desc := "()I" } : Jvm.MethodName) jdk_42_method_54_code (1 : Nat) (Option.some Jvm.ClassFile.FieldType.int)).before args0 about1 = true := code_word (m := ⟨9, 3⟩) (meth := k9m3) (c := k9c3) (by decide +kernel) rfl rfl rfl (by decide +kernel)
set_option maxRecDepth 65536 in
theorem w_c17 : (Jvm.Cond.code ({ cls := "java/lang/String", name := "coder", desc := "()B" } : Jvm.MethodName) jdk_42_method_152_code (1 : Nat) (Option.some Jvm.ClassFile.FieldType.byte)).before args0 about1 = true := code_word (m := ⟨9, 8⟩) (meth := k9m8) (c := k9c8) (by decide +kernel) rfl rfl rfl (by decide +kernel)
set_option maxRecDepth 65536 in
theorem w_c18 : (Jvm.Cond.code ({ cls := "java/lang/AbstractStringBuilder", name := "putStringAt", desc := "(ILjava/lang/String;)V" } : Jvm.MethodName) jdk_68_method_73_code (3 : Nat) (Option.none : Option Jvm.ClassFile.FieldType)).before args0 about1 = true := code_word (m := ⟨12, 9⟩) (meth := k12m9) (c := k12c9) (by decide +kernel) rfl rfl rfl (by decide +kernel)
set_option maxRecDepth 65536 in
theorem w_c19 : (Jvm.Cond.code ({ cls := "java/lang/AbstractStringBuilder", name := "inflateIfNeededFor", desc := "(Ljava/lang/String;)V" } : Jvm.MethodName) jdk_68_method_71_code (2 : Nat) (Option.none : Option Jvm.ClassFile.FieldType)).before args0 about1 = true := code_word (m := ⟨12, 8⟩) (meth := k12m8) (c := k12c8) (by decide +kernel) rfl rfl rfl (by decide +kernel)
set_option maxRecDepth 65536 in
theorem w_c20 : (Jvm.Cond.code ({ cls := "java/lang/String", name := "getBytes", desc := "([BIB)V" } : Jvm.MethodName) jdk_42_method_147_code (4 : Nat) (Option.none : Option Jvm.ClassFile.FieldType)).before args0 about1 = true := code_word (m := ⟨9, 5⟩) (meth := k9m5) (c := k9c5) (by decide +kernel) rfl rfl rfl (by decide +kernel)
set_option maxRecDepth 65536 in
theorem w_c21 : (Jvm.Cond.code ({ cls := "java/lang/StringBuilder", name := "toString", desc := "()Ljava/lang/String;" } : Jvm.MethodName) jdk_67_method_42_code (1 : Nat) (Option.some (Jvm.ClassFile.FieldType.object "java/lang/String"))).before args0 about1 = true := code_word (m := ⟨13, 3⟩) (meth := k13m3) (c := k13c3) (by decide +kernel) rfl rfl rfl (by decide +kernel)
set_option maxRecDepth 65536 in
theorem w_c22 : (Jvm.Cond.code ({ cls := "java/lang/String", name := "<init>", desc := "(Ljava/lang/StringBuilder;)V" } : Jvm.MethodName) jdk_42_method_53_code (2 : Nat) (Option.none : Option Jvm.ClassFile.FieldType)).before args0 about1 = true := code_word (m := ⟨9, 2⟩) (meth := k9m2) (c := k9c2) (by decide +kernel) rfl rfl rfl (by decide +kernel)
set_option maxRecDepth 65536 in
theorem w_c23 : (Jvm.Cond.code ({ cls := "java/lang/String", name := "<init>", desc := "(Ljava/lang/AbstractStringBuilder;Ljava/lang/Void;)V" } : Jvm.MethodName) jdk_42_method_150_code (5 : Nat) (Option.none : Option Jvm.ClassFile.FieldType)).before args0 about1 = true := code_word (m := ⟨9, 7⟩) (meth := k9m7) (c := k9c7) (by decide +kernel) rfl rfl rfl (by decide +kernel)
set_option maxRecDepth 65536 in
theorem w_c24 : (Jvm.Cond.code ({ cls := "java/lang/AbstractStringBuilder", name := "getValue", desc := "()[B" } : Jvm.MethodName) jdk_68_method_64_code (1 : Nat) (Option.some (Jvm.ClassFile.FieldType.array Jvm.ClassFile.FieldType.byte))).before args0 about1 = true := code_word (m := ⟨12, 6⟩) (meth := k12m6) (c := k12c6) (by decide +kernel) rfl rfl rfl (by decide +kernel)
set_option maxRecDepth 65536 in
theorem w_c25 : (Jvm.Cond.code ({ cls := "java/lang/StringBuilder", name := "length", desc := "()I" } : Jvm.MethodName) jdk_67_method_93_code (1 : Nat) (Option.some Jvm.ClassFile.FieldType.int)).before args0 about1 = true := code_word (m := ⟨13, 4⟩) (meth := k13m4) (c := k13c4) (by decide +kernel) rfl rfl rfl (by decide +kernel)
set_option maxRecDepth 65536 in
theorem w_c26 : (Jvm.Cond.code ({ cls := "java/lang/AbstractStringBuilder", name := "length", desc := "()I" } : Jvm.MethodName) jdk_68_method_6_code (1 : Nat) (Option.some Jvm.ClassFile.FieldType.int)).before args0 about1 = true := code_word (m := ⟨12, 2⟩) (meth := k12m2) (c := k12c2) (by decide +kernel) rfl rfl rfl (by decide +kernel)
set_option maxRecDepth 65536 in
theorem w_c27 : (Jvm.Cond.code ({ cls := "java/util/Arrays", name := "copyOfRange", desc := "([BII)[B" } : Jvm.MethodName) jdk_65_method_132_code (3 : Nat) (Option.some (Jvm.ClassFile.FieldType.array Jvm.ClassFile.FieldType.byte))).before args0 about1 = true := code_word (m := ⟨16, 2⟩) (meth := k16m2) (c := k16c2) (by decide +kernel) rfl rfl rfl (by decide +kernel)
set_option maxRecDepth 65536 in
theorem w_c28 : (Jvm.Cond.code ({ cls := "java/util/Arrays", name := "copyOfRangeByte", desc := "([BII)[B" } : Jvm.MethodName) jdk_65_method_133_code (5 : Nat) (Option.some (Jvm.ClassFile.FieldType.array Jvm.ClassFile.FieldType.byte))).before args0 about1 = true := code_word (m := ⟨16, 3⟩) (meth := k16m3) (c := k16c3) (by decide +kernel) rfl rfl rfl (by decide +kernel)
set_option maxRecDepth 65536 in
theorem w_c29 : (Jvm.Cond.code ({ cls := "java/util/Arrays", name := "checkLength", desc := "(II)V" } : Jvm.MethodName) jdk_65_method_131_code (2 : Nat) (Option.none : Option Jvm.ClassFile.FieldType)).before args0 about1 = true := code_word (m := ⟨16, 1⟩) (meth := k16m1) (c := k16c1) (by decide +kernel) rfl rfl rfl (by decide +kernel)
set_option maxRecDepth 65536 in
theorem w_c30 : (Jvm.Cond.code ({ cls := "java/lang/Math", name := "min", desc := "(II)I" } : Jvm.MethodName) jdk_29_method_69_code (2 : Nat) (Option.some Jvm.ClassFile.FieldType.int)).before args0 about1 = true := code_word (m := ⟨17, 1⟩) (meth := k17m1) (c := k17c1) (by decide +kernel) rfl rfl rfl (by decide +kernel)
set_option maxRecDepth 65536 in
theorem w_c31 : (Jvm.Cond.code ({ cls := "com/example/ianus/ianus/TokenDescribePinLaw", name := "quoted", desc := "(ICC)Ljava/lang/String;" } : Jvm.MethodName) method_5_code (3 : Nat) (Option.some (Jvm.ClassFile.FieldType.object "java/lang/String"))).before args0 about1 = true := code_word (m := ⟨1, 4⟩) (meth := k1m4) (c := k1c4) (by decide +kernel) rfl rfl rfl (by decide +kernel)
set_option maxRecDepth 65536 in
theorem w_c32 : (Jvm.Cond.code ({ cls := "java/lang/StringUTF16", name := "compress", desc := "([CII)[B" } : Jvm.MethodName) jdk_52_method_16_code (6 : Nat) (Option.some (Jvm.ClassFile.FieldType.array Jvm.ClassFile.FieldType.byte))).before args0 about1 = true := code_word (m := ⟨18, 2⟩) (meth := k18m2) (c := k18c2) (by decide +kernel) rfl rfl rfl (by decide +kernel)
set_option maxRecDepth 65536 in
theorem w_c33 : (Jvm.Cond.code ({ cls := "java/lang/StringUTF16", name := "compress", desc := "([CI[BII)I" } : Jvm.MethodName) jdk_52_method_21_code (7 : Nat) (Option.some Jvm.ClassFile.FieldType.int)).before args0 about1 = true := code_word (m := ⟨18, 3⟩) (meth := k18m3) (c := k18c3) (by decide +kernel) rfl rfl rfl (by decide +kernel)
set_option maxRecDepth 65536 in
theorem w_c34 : (Jvm.Cond.code ({ cls := "java/lang/StringUTF16", name := "coderFromArrayLen", desc := "([BI)B" } : Jvm.MethodName) jdk_52_method_15_code (2 : Nat) (Option.some Jvm.ClassFile.FieldType.byte)).before args0 about1 = true := code_word (m := ⟨18, 1⟩) (meth := k18m1) (c := k18c1) (by decide +kernel) rfl rfl rfl (by decide +kernel)
set_option maxRecDepth 65536 in
theorem w_c35 : (Jvm.Cond.code ({ cls := "java/lang/String", name := "equals", desc := "(Ljava/lang/Object;)Z" } : Jvm.MethodName) jdk_42_method_66_code (3 : Nat) (Option.some Jvm.ClassFile.FieldType.boolean)).before args0 about1 = true := code_word (m := ⟨9, 4⟩) (meth := k9m4) (c := k9c4) (by decide +kernel) rfl rfl rfl (by decide +kernel)
set_option maxRecDepth 65536 in
theorem w_c36 : (Jvm.Cond.code ({ cls := "java/lang/StringLatin1", name := "equals", desc := "([B[B)Z" } : Jvm.MethodName) jdk_43_method_13_code (3 : Nat) (Option.some Jvm.ClassFile.FieldType.boolean)).before args0 about1 = true := code_word (m := ⟨14, 2⟩) (meth := k14m2) (c := k14c2) (by decide +kernel) rfl rfl rfl (by decide +kernel)
set_option maxRecDepth 65536 in
theorem w_c37 : (Jvm.Cond.code ({ cls := "com/example/ianus/ianus/TokenDescribePinLaw", name := "prefixed", desc := "(ICC)Ljava/lang/String;" } : Jvm.MethodName) method_4_code (3 : Nat) (Option.some (Jvm.ClassFile.FieldType.object "java/lang/String"))).before args0 about1 = true := code_word (m := ⟨1, 3⟩) (meth := k1m3) (c := k1c3) (by decide +kernel) rfl rfl rfl (by decide +kernel)
def codes1 : List Jvm.Cond := [Jvm.Cond.code x code maxLocals ret, Jvm.Cond.code ({ cls := "com/example/ianus/ianus/TokenDescribePinLaw", name := "make", desc := "(ICC)Ljava/lang/String;" } : Jvm.MethodName) method_3_code (3 : Nat) (Option.some (Jvm.ClassFile.FieldType.object "java/lang/String")), Jvm.Cond.code ({ cls := "java/lang/String", name := "<init>", desc := "([C)V" } : Jvm.MethodName) jdk_42_method_3_code (2 : Nat) (Option.none : Option Jvm.ClassFile.FieldType), Jvm.Cond.code ({ cls := "java/lang/String", name := "<init>", desc := "([CIILjava/lang/Void;)V" } : Jvm.MethodName) jdk_42_method_149_code (6 : Nat) (Option.none : Option Jvm.ClassFile.FieldType), Jvm.Cond.code ({ cls := "java/lang/Object", name := "<init>", desc := "()V" } : Jvm.MethodName) object_method_1_code (1 : Nat) (Option.none : Option Jvm.ClassFile.FieldType), Jvm.Cond.code ({ cls := "com/example/ianus/ianus/Token", name := "<init>", desc := "(Lcom/example/ianus/ianus/Token$Kind;Ljava/lang/String;Ljava/lang/String;II)V" } : Jvm.MethodName) prog_18_method_1_code (6 : Nat) (Option.none : Option Jvm.ClassFile.FieldType), Jvm.Cond.code ({ cls := "com/example/ianus/ianus/Token", name := "describe", desc := "()Ljava/lang/String;" } : Jvm.MethodName) prog_18_method_9_code (2 : Nat) (Option.some (Jvm.ClassFile.FieldType.object "java/lang/String")), Jvm.Cond.code ({ cls := "java/lang/StringBuilder", name := "<init>", desc := "()V" } : Jvm.MethodName) jdk_67_method_1_code (1 : Nat) (Option.none : Option Jvm.ClassFile.FieldType), Jvm.Cond.code ({ cls := "java/lang/AbstractStringBuilder", name := "<init>", desc := "(I)V" } : Jvm.MethodName) jdk_68_method_2_code (2 : Nat) (Option.none : Option Jvm.ClassFile.FieldType), Jvm.Cond.code ({ cls := "java/lang/StringBuilder", name := "append", desc := "(C)Ljava/lang/StringBuilder;" } : Jvm.MethodName) jdk_67_method_14_code (2 : Nat) (Option.some (Jvm.ClassFile.FieldType.object "java/lang/StringBuilder")), Jvm.Cond.code ({ cls := "java/lang/AbstractStringBuilder", name := "append", desc := "(C)Ljava/lang/AbstractStringBuilder;" } : Jvm.MethodName) jdk_68_method_31_code (2 : Nat) (Option.some (Jvm.ClassFile.FieldType.object "java/lang/AbstractStringBuilder")), Jvm.Cond.code ({ cls := "java/lang/AbstractStringBuilder", name := "ensureCapacityInternal", desc := "(I)V" } : Jvm.MethodName) jdk_68_method_9_code (3 : Nat) (Option.none : Option Jvm.ClassFile.FieldType), Jvm.Cond.code ({ cls := "java/lang/AbstractStringBuilder", name := "isLatin1", desc := "()Z" } : Jvm.MethodName) jdk_68_method_68_code (1 : Nat) (Option.some Jvm.ClassFile.FieldType.boolean), Jvm.Cond.code ({ cls := "java/lang/StringLatin1", name := "canEncode", desc := "(C)Z" } : Jvm.MethodName) jdk_43_method_3_code (1 : Nat) (Option.some Jvm.ClassFile.FieldType.boolean), Jvm.Cond.code ({ cls := "java/lang/StringBuilder", name := "append", desc := "(Ljava/lang/String;)Ljava/lang/StringBuilder;" } : Jvm.MethodName) jdk_67_method_7_code (2 : Nat) (Option.some (Jvm.ClassFile.FieldType.object "java/lang/StringBuilder")), Jvm.Cond.code ({ cls := "java/lang/AbstractStringBuilder", name := "append", desc := "(Ljava/lang/String;)Ljava/lang/AbstractStringBuilder;" } : Jvm.MethodName) jdk_68_method_22_code (3 : Nat) (Option.some (Jvm.ClassFile.FieldType.object "java/lang/AbstractStringBuilder")), Jvm.Cond.code ({ cls := "java/lang/String", name := "length", desc := "()I" } : Jvm.MethodName) jdk_42_method_54_code (1 : Nat) (Option.some Jvm.ClassFile.FieldType.int), Jvm.Cond.code ({ cls := "java/lang/String", name := "coder", desc := "()B" } : Jvm.MethodName) jdk_42_method_152_code (1 : Nat) (Option.some Jvm.ClassFile.FieldType.byte), Jvm.Cond.code ({ cls := "java/lang/AbstractStringBuilder", name := "putStringAt", desc := "(ILjava/lang/String;)V" } : Jvm.MethodName) jdk_68_method_73_code (3 : Nat) (Option.none : Option Jvm.ClassFile.FieldType), Jvm.Cond.code ({ cls := "java/lang/AbstractStringBuilder", name := "inflateIfNeededFor", desc := "(Ljava/lang/String;)V" } : Jvm.MethodName) jdk_68_method_71_code (2 : Nat) (Option.none : Option Jvm.ClassFile.FieldType), Jvm.Cond.code ({ cls := "java/lang/String", name := "getBytes", desc := "([BIB)V" } : Jvm.MethodName) jdk_42_method_147_code (4 : Nat) (Option.none : Option Jvm.ClassFile.FieldType), Jvm.Cond.code ({ cls := "java/lang/StringBuilder", name := "toString", desc := "()Ljava/lang/String;" } : Jvm.MethodName) jdk_67_method_42_code (1 : Nat) (Option.some (Jvm.ClassFile.FieldType.object "java/lang/String")), Jvm.Cond.code ({ cls := "java/lang/String", name := "<init>", desc := "(Ljava/lang/StringBuilder;)V" } : Jvm.MethodName) jdk_42_method_53_code (2 : Nat) (Option.none : Option Jvm.ClassFile.FieldType), Jvm.Cond.code ({ cls := "java/lang/String", name := "<init>", desc := "(Ljava/lang/AbstractStringBuilder;Ljava/lang/Void;)V" } : Jvm.MethodName) jdk_42_method_150_code (5 : Nat) (Option.none : Option Jvm.ClassFile.FieldType), Jvm.Cond.code ({ cls := "java/lang/AbstractStringBuilder", name := "getValue", desc := "()[B" } : Jvm.MethodName) jdk_68_method_64_code (1 : Nat) (Option.some (Jvm.ClassFile.FieldType.array Jvm.ClassFile.FieldType.byte)), Jvm.Cond.code ({ cls := "java/lang/StringBuilder", name := "length", desc := "()I" } : Jvm.MethodName) jdk_67_method_93_code (1 : Nat) (Option.some Jvm.ClassFile.FieldType.int), Jvm.Cond.code ({ cls := "java/lang/AbstractStringBuilder", name := "length", desc := "()I" } : Jvm.MethodName) jdk_68_method_6_code (1 : Nat) (Option.some Jvm.ClassFile.FieldType.int), Jvm.Cond.code ({ cls := "java/util/Arrays", name := "copyOfRange", desc := "([BII)[B" } : Jvm.MethodName) jdk_65_method_132_code (3 : Nat) (Option.some (Jvm.ClassFile.FieldType.array Jvm.ClassFile.FieldType.byte)), Jvm.Cond.code ({ cls := "java/util/Arrays", name := "copyOfRangeByte", desc := "([BII)[B" } : Jvm.MethodName) jdk_65_method_133_code (5 : Nat) (Option.some (Jvm.ClassFile.FieldType.array Jvm.ClassFile.FieldType.byte)), Jvm.Cond.code ({ cls := "java/util/Arrays", name := "checkLength", desc := "(II)V" } : Jvm.MethodName) jdk_65_method_131_code (2 : Nat) (Option.none : Option Jvm.ClassFile.FieldType), Jvm.Cond.code ({ cls := "java/lang/Math", name := "min", desc := "(II)I" } : Jvm.MethodName) jdk_29_method_69_code (2 : Nat) (Option.some Jvm.ClassFile.FieldType.int), Jvm.Cond.code ({ cls := "com/example/ianus/ianus/TokenDescribePinLaw", name := "quoted", desc := "(ICC)Ljava/lang/String;" } : Jvm.MethodName) method_5_code (3 : Nat) (Option.some (Jvm.ClassFile.FieldType.object "java/lang/String")), Jvm.Cond.code ({ cls := "java/lang/StringUTF16", name := "compress", desc := "([CII)[B" } : Jvm.MethodName) jdk_52_method_16_code (6 : Nat) (Option.some (Jvm.ClassFile.FieldType.array Jvm.ClassFile.FieldType.byte)), Jvm.Cond.code ({ cls := "java/lang/StringUTF16", name := "compress", desc := "([CI[BII)I" } : Jvm.MethodName) jdk_52_method_21_code (7 : Nat) (Option.some Jvm.ClassFile.FieldType.int), Jvm.Cond.code ({ cls := "java/lang/StringUTF16", name := "coderFromArrayLen", desc := "([BI)B" } : Jvm.MethodName) jdk_52_method_15_code (2 : Nat) (Option.some Jvm.ClassFile.FieldType.byte), Jvm.Cond.code ({ cls := "java/lang/String", name := "equals", desc := "(Ljava/lang/Object;)Z" } : Jvm.MethodName) jdk_42_method_66_code (3 : Nat) (Option.some Jvm.ClassFile.FieldType.boolean), Jvm.Cond.code ({ cls := "java/lang/StringLatin1", name := "equals", desc := "([B[B)Z" } : Jvm.MethodName) jdk_43_method_13_code (3 : Nat) (Option.some Jvm.ClassFile.FieldType.boolean), Jvm.Cond.code ({ cls := "com/example/ianus/ianus/TokenDescribePinLaw", name := "prefixed", desc := "(ICC)Ljava/lang/String;" } : Jvm.MethodName) method_4_code (3 : Nat) (Option.some (Jvm.ClassFile.FieldType.object "java/lang/String"))]
set_option maxRecDepth 65536 in
theorem codes_eq : words1.filter isCode = codes1 := rfl
theorem w_codes : ∀ c ∈ words1.filter isCode, c.before args0 about1 = true := by
  rw [codes_eq]
  intro c hc
  simp only [codes1, List.mem_cons, List.not_mem_nil, or_false] at hc
  rcases hc with rfl | rfl | rfl | rfl | rfl | rfl | rfl | rfl | rfl | rfl | rfl | rfl | rfl | rfl | rfl | rfl | rfl | rfl | rfl | rfl | rfl | rfl | rfl | rfl | rfl | rfl | rfl | rfl | rfl | rfl | rfl | rfl | rfl | rfl | rfl | rfl | rfl | rfl
  · exact w_c0
  · exact w_c1
  · exact w_c2
  · exact w_c3
  · exact w_c4
  · exact w_c5
  · exact w_c6
  · exact w_c7
  · exact w_c8
  · exact w_c9
  · exact w_c10
  · exact w_c11
  · exact w_c12
  · exact w_c13
  · exact w_c14
  · exact w_c15
  · exact w_c16
  · exact w_c17
  · exact w_c18
  · exact w_c19
  · exact w_c20
  · exact w_c21
  · exact w_c22
  · exact w_c23
  · exact w_c24
  · exact w_c25
  · exact w_c26
  · exact w_c27
  · exact w_c28
  · exact w_c29
  · exact w_c30
  · exact w_c31
  · exact w_c32
  · exact w_c33
  · exact w_c34
  · exact w_c35
  · exact w_c36
  · exact w_c37
set_option maxRecDepth 65536 in
theorem w_t1 : (words1.take 24).all (fun c => isCode c || c.before args0 about1) = true := by decide +kernel
set_option maxRecDepth 65536 in
theorem w_t2 : ((words1.drop 24).take 24).all (fun c => isCode c || c.before args0 about1) = true := by decide +kernel
set_option maxRecDepth 65536 in
theorem w_t3 : (((words1.drop 24).drop 24).take 24).all (fun c => isCode c || c.before args0 about1) = true := by decide +kernel
set_option maxRecDepth 65536 in
theorem w_t4 : ((((words1.drop 24).drop 24).drop 24).take 24).all (fun c => isCode c || c.before args0 about1) = true := by decide +kernel
set_option maxRecDepth 65536 in
theorem w_t5 : (((((words1.drop 24).drop 24).drop 24).drop 24).take 24).all (fun c => isCode c || c.before args0 about1) = true := by decide +kernel
set_option maxRecDepth 65536 in
theorem w_t6 : ((((((words1.drop 24).drop 24).drop 24).drop 24).drop 24).take 24).all (fun c => isCode c || c.before args0 about1) = true := by decide +kernel
set_option maxRecDepth 65536 in
theorem w_t7 : (((((((words1.drop 24).drop 24).drop 24).drop 24).drop 24).drop 24).take 24).all (fun c => isCode c || c.before args0 about1) = true := by decide +kernel
set_option maxRecDepth 65536 in
theorem w_t8 : ((((((((words1.drop 24).drop 24).drop 24).drop 24).drop 24).drop 24).drop 24).take 24).all (fun c => isCode c || c.before args0 about1) = true := by decide +kernel
set_option maxRecDepth 65536 in
theorem w_t9 : ((((((((words1.drop 24).drop 24).drop 24).drop 24).drop 24).drop 24).drop 24).drop 24).all (fun c => isCode c || c.before args0 about1) = true := by decide +kernel
theorem w_tables : (allAtoms (Jvm.Cond.code x code maxLocals ret :: tables_1)).before args0 about1 = true := by
  rw [allAtoms_all]
  show words1.all (fun c => c.before args0 about1) = true
  refine all_split ?_ w_codes
  rw [← List.take_append_drop 24 words1, List.all_append, w_t1, ← List.take_append_drop 24 (words1.drop 24), List.all_append, w_t2, ← List.take_append_drop 24 ((words1.drop 24).drop 24), List.all_append, w_t3, ← List.take_append_drop 24 (((words1.drop 24).drop 24).drop 24), List.all_append, w_t4, ← List.take_append_drop 24 ((((words1.drop 24).drop 24).drop 24).drop 24), List.all_append, w_t5, ← List.take_append_drop 24 (((((words1.drop 24).drop 24).drop 24).drop 24).drop 24), List.all_append, w_t6, ← List.take_append_drop 24 ((((((words1.drop 24).drop 24).drop 24).drop 24).drop 24).drop 24), List.all_append, w_t7, ← List.take_append_drop 24 (((((((words1.drop 24).drop 24).drop 24).drop 24).drop 24).drop 24).drop 24), List.all_append, w_t8, w_t9]
  rfl
set_option maxRecDepth 65536 in
theorem w_rest : rest_1_c.before args0 about1 = true := by decide +kernel
set_option maxRecDepth 65536 in
theorem w_case : (Jvm.Cond.and given_1 narrow_1).before args0 about1 = true := by decide +kernel
set_option maxRecDepth 65536 in
theorem w_consts : constsHeld consts_1 about1 := Jvm.Lit.constsHeldB_iff.mp (by decide +kernel)
theorem w_applies : (headSpec (Jvm.Cond.code x code maxLocals ret :: tables_1) room_1).applies x e0.platform about1 = true :=
  (Spec.applies_iff w_frames).mpr ⟨w_running, w_runnable, w_alone, w_named, w_hears, w_ripe, w_room, w_tables⟩
theorem atStart : AtStart classFile x code maxLocals ret World_1 tables_1 room_1 Calls_1 rest_1 Pre_1 launch0 p0 e0 about1 theMethod args0 below0 :=
  ⟨lists_1, trivial, launch0.admits_env _ _ _, launch0.least_env, fairChoices_fair.cas, fairChoices_fair.clock, w_frames, w_args, w_heap, w_applies, ⟨w_consts, trivial⟩, w_rest, w_case⟩
end start1
theorem witness_1 : WitnessClaimed_1 := ⟨start1.p0, start1.e0, start1.about1, start1.theMethod, start1.args0, start1.below0, start1.atStart⟩
end Jvm.Pilot.@@N@@
