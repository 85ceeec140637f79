import JvmDerived
import JvmDerived.Pilot.@@N@@Statement
import JvmDerived.Pilot.@@N@@Code
set_option linter.unusedVariables false
set_option linter.unusedSimpArgs false
/- laws to paste: Road.backV, Road.eqW, Road.codOf (cut by pick.py; bodies as the Statement names them) -/
namespace Jvm.Pilot.@@N@@
namespace StrChars
open Jvm Sem ClassFile Op Lib Jvm.Stand Jvm.Free.XT Jvm.Free.ALB Jvm.Free.JM Jvm.Free
open Jvm.Lib.Cold (StaticIs)
/-- a char array whose places are chars -/
def Ch (a : Addr) (A : Cell) (U : State) : Prop := Arr .char a A U ∧ Typed .char A
theorem Ch.mv {a : Addr} {A : Cell} {U U' : State} (h : Ch a A U) (hal : U.vm.Alike U'.vm) (hh : U'.heap = U.heap) : Ch a A U' := ⟨h.1.mv hal hh, h.2⟩
theorem Ch.keep {a : Addr} {A : Cell} {U U' : State} (h : Ch a A U) (hal : U.vm.Alike U'.vm) (hk : U'.heap[a]? = some A) : Ch a A U' := ⟨h.1.keep hal hk, h.2⟩
/-- what place i of a char[]'s cell holds -/
def cv (A : Cell) (i : Nat) : Int32 := match A.slots[i]? with | some (.int x) => x | _ => 0
theorem Ch.get {a : Addr} {A : Cell} {U : State} (h : Ch a A U) {i : Nat} (hi : i < A.slots.size) : A.slots[i]? = some (.int (cv A i)) := by
  have e := Array.getElem?_eq_getElem hi
  have f := h.2 i _ e
  unfold cv; rw [e]
  generalize A.slots[i] = v at f
  cases v <;> simp [fits] at f ⊢
/-- the byte that i2b leaves of a char -/
def lo8 (x : Int32) : Int32 := x.toInt8.toInt32
theorem fits_lo8 (y : Int32) : fits .byte (.int (lo8 y)) = true := by
  have h1 := y.toInt8.le_toInt
  have h2 := y.toInt8.toInt_lt
  simp only [lo8, fits, Bool.and_eq_true, decide_eq_true_eq, Int32.le_iff_toInt_le, Int8.toInt_toInt32, show (-128 : Int32).toInt = -128 from by decide, show (127 : Int32).toInt = 127 from by decide]
  omega
/-- A' is A but that each place j of lo .. hi - 1 holds f j -/
def Laid (A A' : Cell) (lo hi : Nat) (f : Nat → Value) : Prop := A'.cls = A.cls ∧ A'.vm = A.vm ∧ A'.slots.size = A.slots.size ∧ ∀ i, A'.slots[i]? = if lo ≤ i ∧ i < hi then some (f i) else A.slots[i]?
theorem Laid.zero (A : Cell) (lo : Nat) (f : Nat → Value) : Laid A A lo (lo + 0) f := ⟨rfl, rfl, rfl, fun i => by rw [if_neg (by omega)]⟩
theorem Laid.step {A Ak : Cell} {lo k : Nat} {f : Nat → Value} {v : Value} (h : Laid A Ak lo k f) (hlo : lo ≤ k) (hk : k < Ak.slots.size) (hv : v = f k) : Laid A (Ak.setSlot k v) lo (k + 1) f := by
  refine ⟨h.1, h.2.1, by simpa [Cell.setSlot] using h.2.2.1, fun i => ?_⟩
  by_cases e : k = i
  · subst e; rw [Cell.slots_setSlot_self v hk, if_pos (by omega), hv]
  · rw [Cell.slots_setSlot_ne v e, h.2.2.2 i]
    by_cases q : lo ≤ i ∧ i < k
    · rw [if_pos q, if_pos (by omega)]
    · rw [if_neg q, if_neg (by omega)]
def U16 : String := "java/lang/StringUTF16"
namespace Cmp5
def yN : MethodName := ⟨"java/lang/StringUTF16", "compress", "([CI[BII)I"⟩
abbrev yB : ByteArray := jdk_52_method_21_code
theorem d0 : decode yB 0 = .ok (.iconst 0, 1) := by decide +kernel
theorem d1 : decode yB 1 = .ok (.istore 5, 2) := by decide +kernel
theorem d3 : decode yB 3 = .ok (.iload 5, 2) := by decide +kernel
theorem d5 : decode yB 5 = .ok (.iload 4, 2) := by decide +kernel
theorem d7 : decode yB 7 = .ok (.if_icmp (.ge) 37, 3) := by decide +kernel
theorem d10 : decode yB 10 = .ok (.aload_n 0, 1) := by decide +kernel
theorem d11 : decode yB 11 = .ok (.iload_n 1, 1) := by decide +kernel
theorem d12 : decode yB 12 = .ok (.caload, 1) := by decide +kernel
theorem d13 : decode yB 13 = .ok (.istore 6, 2) := by decide +kernel
theorem d15 : decode yB 15 = .ok (.iload 6, 2) := by decide +kernel
theorem d17 : decode yB 17 = .ok (.sipush 255, 3) := by decide +kernel
theorem d20 : decode yB 20 = .ok (.if_icmp (.le) 6, 3) := by decide +kernel
theorem d26 : decode yB 26 = .ok (.aload_n 2, 1) := by decide +kernel
theorem d27 : decode yB 27 = .ok (.iload_n 3, 1) := by decide +kernel
theorem d28 : decode yB 28 = .ok (.iload 6, 2) := by decide +kernel
theorem d30 : decode yB 30 = .ok (.i2b, 1) := by decide +kernel
theorem d31 : decode yB 31 = .ok (.bastore, 1) := by decide +kernel
theorem d32 : decode yB 32 = .ok (.iinc 1 1, 3) := by decide +kernel
theorem d35 : decode yB 35 = .ok (.iinc 3 1, 3) := by decide +kernel
theorem d38 : decode yB 38 = .ok (.iinc 5 1, 3) := by decide +kernel
theorem d41 : decode yB 41 = .ok (.goto (-38), 3) := by decide +kernel
theorem d44 : decode yB 44 = .ok (.iload 4, 2) := by decide +kernel
theorem d46 : decode yB 46 = .ok (.ireturn, 1) := by decide +kernel
def site : List Cond := []
def tab : Cond := tabOf yN yB 7 (some .int) site
def P (b : Addr) (A : Cell) (d : Addr) (B : Cell) (o q len : Nat) (args : Array Value) (s : State) : Prop := args = #[.ref b, .int (Int32.ofNat o), .ref d, .int (Int32.ofNat q), .int (Int32.ofNat len)] ∧ Ch b A s ∧ Arr .byte d B s ∧ b ≠ d ∧ o + len ≤ A.slots.size ∧ q + len ≤ B.slots.size ∧ ∀ i, i < len → ¬ 255 < cv A (o + i)
def E (b : Addr) (A : Cell) (d : Addr) (B : Cell) (o q len : Nat) (r : Option Value) (s u : State) : Prop := r = some (.int (Int32.ofNat len)) ∧ ∃ B', Put d B' s u ∧ Laid B B' q (q + len) (fun j => Value.int (lo8 (cv A (o + (j - q)))))
/-- no char of the range above 255: len; the places written hold each char's low byte -/
theorem law (l : Launch) (b : Addr) (A : Cell) (d : Addr) (B : Cell) (o q len : Nat) : Law l yN 5 5 0 0 yB 7 (some .int) site (P b A d B o q len) (E b A d B o q len) (copyLocs d q len) 0 0 := by
  refine Law.of_walk (plainFor_of_name (by decide +kernel)) (by decide +kernel) (by decide +kernel) (by decide) (fun _ _ h => by rw [h.1]; rfl) (fun _ U U' hal hh h => ⟨h.1, h.2.1.mv hal hh, h.2.2.1.mv hal hh, h.2.2.2⟩) (fun r U U' V V' h1 hal h2 h => ⟨h.1, h.2.elim fun B' q => ⟨B', q.1.mv h1 h2, q.2⟩⟩) ?_
  intro p e s m args below meth c s₁ X0 hexec hbytes hml hret hlk hnm hown hh0 W hP
  obtain ⟨rfl, hA, hB, hne, l1, l2, hp⟩ := hP
  have c1 : Steps p.tables e below (s₁.setTop (entryFrame m #[.ref b, .int (Int32.ofNat o), .ref d, .int (Int32.ofNat q), .int (Int32.ofNat len)] 7)) (s₁.setTop (mkF m 0 #[.val (.ref b), .val (.int (Int32.ofNat o)), .val (.ref d), .val (.int (Int32.ofNat q)), .val (.int (Int32.ofNat len)), .unset, .unset] [])) := entry rfl
  have hA0 := hA.1.mv X0.warmed.alike hh0
  have hB0 := hB.mv X0.warmed.alike hh0
  have a31 := hA.1.2.2.2
  have c2 : Steps p.tables e below (s₁.setTop (entryFrame m #[.ref b, .int (Int32.ofNat o), .ref d, .int (Int32.ofNat q), .int (Int32.ofNat len)] 7)) (s₁.setTop (mkF m 3 #[.val (.ref b), .val (.int (Int32.ofNat o)), .val (.ref d), .val (.int (Int32.ofNat q)), .val (.int (Int32.ofNat len)), .val (.int 0), .unset] [])) := c1.trans (by
    refine iconstV X0.here hexec rfl 0 (hb hbytes d0) (by decide) ?_
    refine XS.istore X0.here hexec rfl (hb hbytes d1) rfl rfl ?_
    exact Steps.refl _)
  have loop : ∀ (r i : Nat), i + r = len → ∀ (z : Slot), (z = .unset ∨ ∃ w, z = .val w ∧ w.category = 1) → ∀ (Tl : State) (Bk : Cell), Stand p l e { frames := 0, locals := 0, cells := 0, slots := 0 } s m #[.ref b, .int (Int32.ofNat o), .ref d, .int (Int32.ofNat q), .int (Int32.ofNat len)] below meth c Tl ([] ++ copyLocs d q i) 0 0 → Put d Bk s₁ Tl → Laid B Bk q (q + i) (fun j => Value.int (lo8 (cv A (o + (j - q))))) →
      Steps p.tables e below (s₁.setTop (entryFrame m #[.ref b, .int (Int32.ofNat o), .ref d, .int (Int32.ofNat q), .int (Int32.ofNat len)] 7)) (Tl.setTop (mkF m 3 #[.val (.ref b), .val (.int (Int32.ofNat (o + i))), .val (.ref d), .val (.int (Int32.ofNat (q + i))), .val (.int (Int32.ofNat len)), .val (.int (Int32.ofNat i)), z] [])) → ∃ (T' : State) (B' : Cell) (z' : Slot), Stand p l e { frames := 0, locals := 0, cells := 0, slots := 0 } s m #[.ref b, .int (Int32.ofNat o), .ref d, .int (Int32.ofNat q), .int (Int32.ofNat len)] below meth c T' ([] ++ copyLocs d q len) 0 0 ∧ Put d B' s₁ T' ∧ Laid B B' q (q + len) (fun j => Value.int (lo8 (cv A (o + (j - q))))) ∧
      Steps p.tables e below (s₁.setTop (entryFrame m #[.ref b, .int (Int32.ofNat o), .ref d, .int (Int32.ofNat q), .int (Int32.ofNat len)] 7)) (T'.setTop (mkF m 3 #[.val (.ref b), .val (.int (Int32.ofNat (o + len))), .val (.ref d), .val (.int (Int32.ofNat (q + len))), .val (.int (Int32.ofNat len)), .val (.int (Int32.ofNat len)), z'] [])) := by
    intro r
    induction r with
    | zero =>
      intro i hi z hz Tl Bk Xl pl fl cl
      have hil : i = len := by omega
      rw [hil] at Xl fl cl
      exact ⟨Tl, Bk, z, Xl, pl, fl, cl⟩
    | succ r ih =>
      intro i hi z hz Tl Bk Xl pl fl cl
      have all := X0.warmed.alike.symm.trans Xl.warmed.alike
      have hAl := hA0.keep all (pl.other hne hA0.1)
      have hBk := hB0.like all pl.1 fl.1 fl.2.1 fl.2.2.1
      have hlt : q + i < Bk.slots.size := by rw [fl.2.2.1]; omega
      have c3 : Steps p.tables e below (s₁.setTop (entryFrame m #[.ref b, .int (Int32.ofNat o), .ref d, .int (Int32.ofNat q), .int (Int32.ofNat len)] 7)) (Tl.setTop (mkF m 12 #[.val (.ref b), .val (.int (Int32.ofNat (o + i))), .val (.ref d), .val (.int (Int32.ofNat (q + i))), .val (.int (Int32.ofNat len)), .val (.int (Int32.ofNat i)), z] [.int (Int32.ofNat (o + i)), .ref b])) := cl.trans (by
        refine XS.iload Xl.here hexec rfl (hb hbytes d3) rfl ?_
        refine XS.iload Xl.here hexec rfl (hb hbytes d5) rfl ?_
        refine XS.icmpNo Xl.here hexec rfl (hb hbytes d7) rfl (ii_ge_f (lt32 (by omega) (by omega))) ?_
        refine XS.aloadN Xl.here hexec rfl (hb hbytes d10) rfl rfl ?_
        refine XS.iloadN Xl.here hexec rfl (hb hbytes d11) rfl ?_
        exact Steps.refl _)
      have c4 : Steps p.tables e below (s₁.setTop (entryFrame m #[.ref b, .int (Int32.ofNat o), .ref d, .int (Int32.ofNat q), .int (Int32.ofNat len)] 7)) (Tl.setTop (mkF m 13 #[.val (.ref b), .val (.int (Int32.ofNat (o + i))), .val (.ref d), .val (.int (Int32.ofNat (q + i))), .val (.int (Int32.ofNat len)), .val (.int (Int32.ofNat i)), z] [.int (cv A (o + i))])) := c3.trans (by
        refine Xl.aget hexec hAl rfl (hA.get (i := o + i) (by omega)) rfl rfl (hb hbytes d12) ?_
        exact Steps.refl _)
      have c5 : Steps p.tables e below (s₁.setTop (entryFrame m #[.ref b, .int (Int32.ofNat o), .ref d, .int (Int32.ofNat q), .int (Int32.ofNat len)] 7)) (Tl.setTop (mkF m 15 #[.val (.ref b), .val (.int (Int32.ofNat (o + i))), .val (.ref d), .val (.int (Int32.ofNat (q + i))), .val (.int (Int32.ofNat len)), .val (.int (Int32.ofNat i)), .val (.int (cv A (o + i)))] [])) := c4.trans (by
        refine XS.istoreS Xl.here hexec rfl (hb hbytes d13) rfl rfl hz ?_
        exact Steps.refl _)
      have c6 : Steps p.tables e below (s₁.setTop (entryFrame m #[.ref b, .int (Int32.ofNat o), .ref d, .int (Int32.ofNat q), .int (Int32.ofNat len)] 7)) (Tl.setTop (mkF m 31 #[.val (.ref b), .val (.int (Int32.ofNat (o + i))), .val (.ref d), .val (.int (Int32.ofNat (q + i))), .val (.int (Int32.ofNat len)), .val (.int (Int32.ofNat i)), .val (.int (cv A (o + i)))] [.int (lo8 (cv A (o + i))), .int (Int32.ofNat (q + i)), .ref d])) := c5.trans (by
        refine XS.iload Xl.here hexec rfl (hb hbytes d15) rfl ?_
        refine sipushV Xl.here hexec rfl 255 (hb hbytes d17) (by decide) ?_
        refine XS.icmpYes Xl.here hexec rfl (pc0 := 20) rfl (hb hbytes d20) rfl (ii_le_t (hp i (by omega))) (by decide) rfl ?_
        refine XS.aloadN Xl.here hexec rfl (hb hbytes d26) rfl rfl ?_
        refine XS.iloadN Xl.here hexec rfl (hb hbytes d27) rfl ?_
        refine XS.iload Xl.here hexec rfl (hb hbytes d28) rfl ?_
        refine i2b Xl.here hexec rfl (hb hbytes d30) rfl ?_
        exact Steps.refl _)
      obtain ⟨T7, X7, p7, st7⟩ := Xl.aput hexec hBk rfl hlt rfl (fits_lo8 (cv A (o + i))) (g := (mkF m 31 #[.val (.ref b), .val (.int (Int32.ofNat (o + i))), .val (.ref d), .val (.int (Int32.ofNat (q + i))), .val (.int (Int32.ofNat len)), .val (.int (Int32.ofNat i)), .val (.int (cv A (o + i)))] [.int (lo8 (cv A (o + i))), .int (Int32.ofNat (q + i)), .ref d])) rfl (rest := []) rfl (hb hbytes d31)
      have c8 : Steps p.tables e below (s₁.setTop (entryFrame m #[.ref b, .int (Int32.ofNat o), .ref d, .int (Int32.ofNat q), .int (Int32.ofNat len)] 7)) (T7.setTop (mkF m 32 #[.val (.ref b), .val (.int (Int32.ofNat (o + i))), .val (.ref d), .val (.int (Int32.ofNat (q + i))), .val (.int (Int32.ofNat len)), .val (.int (Int32.ofNat i)), .val (.int (cv A (o + i)))] [])) := c6.trans (st7 _ (Steps.refl _))
      have c9 : Steps p.tables e below (s₁.setTop (entryFrame m #[.ref b, .int (Int32.ofNat o), .ref d, .int (Int32.ofNat q), .int (Int32.ofNat len)] 7)) (T7.setTop (mkF m 3 #[.val (.ref b), .val (.int (Int32.ofNat (o + i) + 1)), .val (.ref d), .val (.int (Int32.ofNat (q + i) + 1)), .val (.int (Int32.ofNat len)), .val (.int (Int32.ofNat i + 1)), .val (.int (cv A (o + i)))] [])) := c8.trans (by
        refine iincV X7.here hexec rfl 1 (hb hbytes d32) (by decide) rfl rfl ?_
        refine iincV X7.here hexec rfl 1 (hb hbytes d35) (by decide) rfl rfl ?_
        refine iincV X7.here hexec rfl 1 (hb hbytes d38) (by decide) rfl rfl ?_
        refine XS.goto X7.here hexec rfl (pc0 := 41) rfl (hb hbytes d41) (by decide) rfl ?_
        exact Steps.refl _)
      have c10 : Steps p.tables e below (s₁.setTop (entryFrame m #[.ref b, .int (Int32.ofNat o), .ref d, .int (Int32.ofNat q), .int (Int32.ofNat len)] 7)) (T7.setTop (mkF m 3 #[.val (.ref b), .val (.int (Int32.ofNat (o + (i + 1)))), .val (.ref d), .val (.int (Int32.ofNat (q + (i + 1)))), .val (.int (Int32.ofNat len)), .val (.int (Int32.ofNat (i + 1))), .val (.int (cv A (o + i)))] [])) := by
        have := c9
        rw [succ32, succ32, succ32] at this
        exact this
      exact ih (i + 1) (by omega) _ (Or.inr ⟨_, rfl, rfl⟩) T7 _ (by rw [copyLocs_step, ← List.append_assoc]; exact X7) (pl.trans p7) (fl.step (by omega) hlt (by simp)) c10
  obtain ⟨T9, B9, z9, X9, p9, f9, g9⟩ := loop len 0 (by omega) .unset (Or.inl rfl) s₁ B (by simpa [copyLocs] using X0) ⟨hB0.1, fun _ _ => rfl, rfl⟩ (Laid.zero _ _ _) c2
  have c11 : Steps p.tables e below (s₁.setTop (entryFrame m #[.ref b, .int (Int32.ofNat o), .ref d, .int (Int32.ofNat q), .int (Int32.ofNat len)] 7)) (T9.setTop (mkF m 46 #[.val (.ref b), .val (.int (Int32.ofNat (o + len))), .val (.ref d), .val (.int (Int32.ofNat (q + len))), .val (.int (Int32.ofNat len)), .val (.int (Int32.ofNat len)), z9] [.int (Int32.ofNat len)])) := g9.trans (by
    refine XS.iload X9.here hexec rfl (hb hbytes d3) rfl ?_
    refine XS.iload X9.here hexec rfl (hb hbytes d5) rfl ?_
    refine XS.icmpYes X9.here hexec rfl (pc0 := 7) rfl (hb hbytes d7) rfl (ii_ge_t (nlt32 (by omega) (Nat.le_refl _))) (by decide) rfl ?_
    refine XS.iload X9.here hexec rfl (hb hbytes d44) rfl ?_
    exact Steps.refl _)
  exact ⟨T9, some (.int (Int32.ofNat len)), _, _, _, X9, by simp, rfl, rfl, (fun h => by cases h), ⟨rfl, B9, p9.from hh0, f9⟩, fun fs hl => c11.trans (X9.ireturnOut hexec hret rfl (Or.inl rfl) (hb hbytes d46) hl)⟩
end Cmp5
namespace Cmp3
def yN : MethodName := ⟨"java/lang/StringUTF16", "compress", "([CII)[B"⟩
abbrev yB : ByteArray := jdk_52_method_16_code
theorem d0 : decode yB 0 = .ok (.iload_n 2, 1) := by decide +kernel
theorem d1 : decode yB 1 = .ok (.newarray .byte, 2) := by decide +kernel
theorem d3 : decode yB 3 = .ok (.astore_n 3, 1) := by decide +kernel
theorem d4 : decode yB 4 = .ok (.aload_n 0, 1) := by decide +kernel
theorem d5 : decode yB 5 = .ok (.iload_n 1, 1) := by decide +kernel
theorem d6 : decode yB 6 = .ok (.aload_n 3, 1) := by decide +kernel
theorem d7 : decode yB 7 = .ok (.iconst 0, 1) := by decide +kernel
theorem d8 : decode yB 8 = .ok (.iload_n 2, 1) := by decide +kernel
theorem d9 : decode yB 9 = .ok (.invokestatic 115, 3) := by decide +kernel
theorem d12 : decode yB 12 = .ok (.istore 4, 2) := by decide +kernel
theorem d14 : decode yB 14 = .ok (.iload 4, 2) := by decide +kernel
theorem d16 : decode yB 16 = .ok (.iload_n 2, 1) := by decide +kernel
theorem d17 : decode yB 17 = .ok (.if_icmp (.eq) 40, 3) := by decide +kernel
theorem d57 : decode yB 57 = .ok (.aload_n 3, 1) := by decide +kernel
theorem d58 : decode yB 58 = .ok (.areturn, 1) := by decide +kernel
def site : List Cond := [.arrayClass .byte, Cmp5.tab] ++ staticW U16 115 Cmp5.yN
def tab : Cond := tabOf yN yB 6 (some (.array .byte)) site
def P (b : Addr) (A : Cell) (o len : Nat) (args : Array Value) (s : State) : Prop := args = #[.ref b, .int (Int32.ofNat o), .int (Int32.ofNat len)] ∧ Ch b A s ∧ o + len ≤ A.slots.size ∧ len ≤ 536870912 ∧ ∀ i, i < len → ¬ 255 < cv A (o + i)
def E (b : Addr) (A : Cell) (o len : Nat) (r : Option Value) (s u : State) : Prop := NewArr .byte "[B" len (fun j => .int (lo8 (cv A (o + j)))) r s u ∧ u.heap.size = s.heap.size + 1
/-- no char of the range above 255: a new byte[] of their low bytes -/
theorem law (l : Launch) (b : Addr) (A : Cell) (o len : Nat) : Law l yN 3 3 1 18 yB 6 (some (.array .byte)) site (P b A o len) (E b A o len) [] 1 len := by
  refine Law.of_walk (plainFor_of_name (by decide +kernel)) (by decide +kernel) (by decide +kernel) (by decide) (fun _ _ h => by rw [h.1]; rfl) (fun _ U U' hal hh h => ⟨h.1, h.2.1.mv hal hh, h.2.2⟩) (fun r U U' V V' h1 hal h2 h => ⟨NewArr.mv r U U' V V' h1 hal h2 h.1, by rw [h1, h2]; exact h.2⟩) ?_
  intro p e s m args below meth c s₁ X0 hexec hbytes hml hret hlk hnm hown hh0 W hP
  obtain ⟨rfl, hA, l1, l2, hp⟩ := hP
  have a31 := hA.1.2.2.2
  have c1 : Steps p.tables e below (s₁.setTop (entryFrame m #[.ref b, .int (Int32.ofNat o), .int (Int32.ofNat len)] 6)) (s₁.setTop (mkF m 0 #[.val (.ref b), .val (.int (Int32.ofNat o)), .val (.int (Int32.ofNat len)), .unset, .unset, .unset] [])) := entry rfl
  have c2 : Steps p.tables e below (s₁.setTop (entryFrame m #[.ref b, .int (Int32.ofNat o), .int (Int32.ofNat len)] 6)) (s₁.setTop (mkF m 1 #[.val (.ref b), .val (.int (Int32.ofNat o)), .val (.int (Int32.ofNat len)), .unset, .unset, .unset] [.int (Int32.ofNat len)])) := c1.trans (by
    refine XS.iloadN X0.here hexec rfl (hb hbytes d0) rfl ?_
    exact Steps.refl _)
  obtain ⟨T3, B3, X3, ba3, bs3, bv3, bh3, bf3, st3⟩ := X0.anew hexec (atype := .byte) (wk W (.arrayClass .byte)) rfl (by show len * 1 ≤ _; omega) (by omega) (g := (mkF m 1 #[.val (.ref b), .val (.int (Int32.ofNat o)), .val (.int (Int32.ofNat len)), .unset, .unset, .unset] [.int (Int32.ofNat len)])) rfl (hb hbytes d1) (rest := []) rfl (Nat.le_refl _) (by show 0 + len ≤ len; omega)
  rw [hh0] at ba3 st3
  have kp3 : XT.Kept s T3 := (XT.Kept.of_eq hh0).push bh3
  have hA3 := hA.keep X3.warmed.alike (kp3 _ _ hA.1.1)
  have hne : b ≠ s.heap.size := hA.1.ne
  have c4 : Steps p.tables e below (s₁.setTop (entryFrame m #[.ref b, .int (Int32.ofNat o), .int (Int32.ofNat len)] 6)) (T3.setTop (mkF m 3 #[.val (.ref b), .val (.int (Int32.ofNat o)), .val (.int (Int32.ofNat len)), .unset, .unset, .unset] [.ref s.heap.size])) := c2.trans (st3 _ (Steps.refl _))
  have c5 : Steps p.tables e below (s₁.setTop (entryFrame m #[.ref b, .int (Int32.ofNat o), .int (Int32.ofNat len)] 6)) (T3.setTop (mkF m 9 #[.val (.ref b), .val (.int (Int32.ofNat o)), .val (.int (Int32.ofNat len)), .val (.ref s.heap.size), .unset, .unset] [.int (Int32.ofNat len), .int 0, .ref s.heap.size, .int (Int32.ofNat o), .ref b])) := c4.trans (by
    refine XS.astoreN X3.here hexec rfl (hb hbytes d3) rfl rfl rfl ?_
    refine XS.aloadN X3.here hexec rfl (hb hbytes d4) rfl rfl ?_
    refine XS.iloadN X3.here hexec rfl (hb hbytes d5) rfl ?_
    refine XS.aloadN X3.here hexec rfl (hb hbytes d6) rfl rfl ?_
    refine iconstV X3.here hexec rfl 0 (hb hbytes d7) (by decide) ?_
    refine XS.iloadN X3.here hexec rfl (hb hbytes d8) rfl ?_
    exact Steps.refl _)
  obtain ⟨v6, T6, X6, E6, g6⟩ := X3.callS hexec (Cmp5.law l b A s.heap.size B3 o 0 len) hown (wks W (staticW U16 115 Cmp5.yN)) (wk W Cmp5.tab) (W := 0) (Nat.le_of_ble_eq_true rfl) (Nat.le_of_ble_eq_true rfl) (Nat.le_refl _) (by show 0 + len + 0 ≤ len; omega) (g := (mkF m 9 #[.val (.ref b), .val (.int (Int32.ofNat o)), .val (.int (Int32.ofNat len)), .val (.ref s.heap.size), .unset, .unset] [.int (Int32.ofNat len), .int (Int32.ofNat 0), .ref s.heap.size, .int (Int32.ofNat o), .ref b])) rfl (by rw [hml]; rfl) c5 (argsL := [.ref b, .int (Int32.ofNat o), .ref s.heap.size, .int (Int32.ofNat 0), .int (Int32.ofNat len)]) (rest := []) rfl rfl (by show 2 * 0 + 0 ≤ _; decide) (hb hbytes d9) (⟨rfl, hA3, ba3, hne, l1, by rw [bs3]; simp, hp⟩)
  obtain ⟨rfl, B6, p6, f6⟩ := E6
  have c7 : Steps p.tables e below (s₁.setTop (entryFrame m #[.ref b, .int (Int32.ofNat o), .int (Int32.ofNat len)] 6)) (T6.setTop (mkF m 12 #[.val (.ref b), .val (.int (Int32.ofNat o)), .val (.int (Int32.ofNat len)), .val (.ref s.heap.size), .unset, .unset] [.int (Int32.ofNat len)])) := g6
  have c8 : Steps p.tables e below (s₁.setTop (entryFrame m #[.ref b, .int (Int32.ofNat o), .int (Int32.ofNat len)] 6)) (T6.setTop (mkF m 58 #[.val (.ref b), .val (.int (Int32.ofNat o)), .val (.int (Int32.ofNat len)), .val (.ref s.heap.size), .val (.int (Int32.ofNat len)), .unset] [.ref s.heap.size])) := c7.trans (by
    refine XS.istore X6.here hexec rfl (hb hbytes d12) rfl rfl ?_
    refine XS.iload X6.here hexec rfl (hb hbytes d14) rfl ?_
    refine XS.iloadN X6.here hexec rfl (hb hbytes d16) rfl ?_
    refine XS.icmpYes X6.here hexec rfl (pc0 := 17) rfl (hb hbytes d17) rfl (ii_eq_t rfl) (by decide) rfl ?_
    refine XS.aloadN X6.here hexec rfl (hb hbytes d57) rfl rfl ?_
    exact Steps.refl _)
  have X8 := X6.wide (L' := []) (cells' := 1) (slots' := len) (fun x hx hlt => by
    simp only [List.nil_append, copyLocs, List.mem_map, List.mem_range] at hx
    obtain ⟨i, -, rfl⟩ := hx
    exact absurd hlt (Nat.lt_irrefl _)) (Nat.le_refl _) (by omega)
  exact ⟨T6, some (.ref s.heap.size), _, _, _, X8, rfl, rfl, rfl, (fun h => by cases h), ⟨⟨rfl, B6, ba3.like (X3.warmed.alike.symm.trans X6.warmed.alike) p6.1 f6.1 f6.2.1 f6.2.2.1, f6.2.1.trans bv3, by rw [X6.warmed.alike.findClass, f6.1]; exact bf3, by rw [f6.2.2.1, bs3]; simp, fun j hj => by rw [f6.2.2.2 j, if_pos (by omega)]; rfl, kp3.put p6 (Nat.le_refl _)⟩, by rw [p6.2.2, bh3, hh0]; simp⟩, fun fs hl => c8.trans (X8.areturnOut hexec rfl hret rfl (hb hbytes d58) hl)⟩
end Cmp3
namespace CodL
def yN : MethodName := ⟨"java/lang/StringUTF16", "coderFromArrayLen", "([BI)B"⟩
abbrev yB : ByteArray := jdk_52_method_15_code
theorem d0 : decode yB 0 = .ok (.iload_n 1, 1) := by decide +kernel
theorem d1 : decode yB 1 = .ok (.aload_n 0, 1) := by decide +kernel
theorem d2 : decode yB 2 = .ok (.arraylength, 1) := by decide +kernel
theorem d3 : decode yB 3 = .ok (.isub, 1) := by decide +kernel
theorem d4 : decode yB 4 = .ok (.bipush 31, 2) := by decide +kernel
theorem d6 : decode yB 6 = .ok (.iushr, 1) := by decide +kernel
theorem d7 : decode yB 7 = .ok (.i2b, 1) := by decide +kernel
theorem d8 : decode yB 8 = .ok (.ireturn, 1) := by decide +kernel
def site : List Cond := []
def tab : Cond := tabOf yN yB 2 (some .byte) site
def P (d : Addr) (B : Cell) (args : Array Value) (s : State) : Prop := args = #[.ref d, .int (Int32.ofNat B.slots.size)] ∧ Arr .byte d B s
def E (r : Option Value) (s u : State) : Prop := XT.PureE (some (.int 0)) r s u
/-- an array as long as the number of chars: LATIN1 -/
theorem law (l : Launch) (d : Addr) (B : Cell) : Law l yN 2 2 0 0 yB 2 (some .byte) site (P d B) E [] 0 0 := by
  refine Law.of_walk (plainFor_of_name (by decide +kernel)) (by decide +kernel) (by decide +kernel) (by decide) (fun _ _ h => by rw [h.1]; rfl) (fun _ U U' hal hh h => ⟨h.1, h.2.mv hal hh⟩) (fun r U U' V V' h1 hal h2 h => XT.PureE.mv r U U' V V' h1 hal h2 h) ?_
  intro p e s m args below meth c s₁ X0 hexec hbytes hml hret hlk hnm hown hh0 W hP
  obtain ⟨rfl, hB⟩ := hP
  have hB0 := hB.mv X0.warmed.alike hh0
  have c1 : Steps p.tables e below (s₁.setTop (entryFrame m #[.ref d, .int (Int32.ofNat B.slots.size)] 2)) (s₁.setTop (mkF m 0 #[.val (.ref d), .val (.int (Int32.ofNat B.slots.size))] [])) := entry rfl
  have c2 : Steps p.tables e below (s₁.setTop (entryFrame m #[.ref d, .int (Int32.ofNat B.slots.size)] 2)) (s₁.setTop (mkF m 2 #[.val (.ref d), .val (.int (Int32.ofNat B.slots.size))] [.ref d, .int (Int32.ofNat B.slots.size)])) := c1.trans (by
    refine XS.iloadN X0.here hexec rfl (hb hbytes d0) rfl ?_
    refine XS.aloadN X0.here hexec rfl (hb hbytes d1) rfl rfl ?_
    exact Steps.refl _)
  have c3 : Steps p.tables e below (s₁.setTop (entryFrame m #[.ref d, .int (Int32.ofNat B.slots.size)] 2)) (s₁.setTop (mkF m 8 #[.val (.ref d), .val (.int (Int32.ofNat B.slots.size))] [.int (lo8 (ushr (Int32.ofNat B.slots.size - Int32.ofNat B.slots.size) 31))])) := c2.trans (by
    refine X0.alen hexec hB0 rfl rfl (hb hbytes d2) ?_
    refine XS.isub X0.here hexec rfl (hb hbytes d3) rfl ?_
    refine bipushV X0.here hexec rfl 31 (hb hbytes d4) (by decide) ?_
    refine iushr X0.here hexec rfl (hb hbytes d6) rfl ?_
    refine i2b X0.here hexec rfl (hb hbytes d7) rfl ?_
    exact Steps.refl _)
  have e0 : lo8 (ushr (Int32.ofNat B.slots.size - Int32.ofNat B.slots.size) 31) = 0 := by rw [Int32.sub_self]; decide
  rw [e0] at c3
  exact ⟨s₁, some (.int 0), _, _, _, X0, rfl, rfl, rfl, (fun h => by cases h), ⟨rfl, hh0⟩, fun fs hl => c3.trans (X0.ireturnOut hexec hret rfl (Or.inr (Or.inr (Or.inl rfl))) (hb hbytes d8) hl)⟩
end CodL
/-- the String at a is Latin-1 over a new byte[] (the heap's one new cell): the low bytes of the len chars of A from o on; every cell but a is kept -/
def Got (a : Addr) (D : Cell) (fV fC : Field) (A : Cell) (o len : Nat) (r : Option Value) (s u : State) : Prop := r = none ∧ ∃ D' V : Cell, Blank "java/lang/String" a D' u ∧ Same D D' [fV.slot, fC.slot] ∧ D'.slots[fV.slot]? = some (.ref s.heap.size) ∧ D'.slots[fC.slot]? = some (.int 0) ∧ Arr .byte s.heap.size V u ∧ V.vm = .none ∧ u.vm.findClass "[B" = some V.cls ∧ V.slots.size = len ∧ (∀ j, j < len → V.slots[j]? = some (.int (lo8 (cv A (o + j))))) ∧ (∀ (y : Addr) (c : Cell), y ≠ a → s.heap[y]? = some c → u.heap[y]? = some c) ∧ u.heap.size = s.heap.size + 1
theorem Got.mv {a : Addr} {D A : Cell} {fV fC : Field} {o len : Nat} : ∀ r (U U' V V' : State), U'.heap = U.heap → V.vm.Alike V'.vm → V'.heap = V.heap → Got a D fV fC A o len r U V → Got a D fV fC A o len r U' V' :=
  fun r U U' V V' h1 hal h2 ⟨e0, D', X, a1, a2, a3, a4, a5, a6, a7, a8, a9, a10, a11⟩ => ⟨e0, D', X, a1.mv hal h2, a2, by rw [h1]; exact a3, a4, by rw [h1]; exact a5.mv hal h2, a6, by rw [hal.findClass]; exact a7, a8, a9, by rw [h1, h2]; exact a10, by rw [h1, h2]; exact a11⟩
namespace New4
def yN : MethodName := ⟨"java/lang/String", "<init>", "([CIILjava/lang/Void;)V"⟩
abbrev yB : ByteArray := jdk_42_method_149_code
theorem d0 : decode yB 0 = .ok (.aload_n 0, 1) := by decide +kernel
theorem d1 : decode yB 1 = .ok (.invokespecial 1, 3) := by decide +kernel
theorem d4 : decode yB 4 = .ok (.iload_n 3, 1) := by decide +kernel
theorem d5 : decode yB 5 = .ok (.ifCond (.ne) 22, 3) := by decide +kernel
theorem d27 : decode yB 27 = .ok (.getstatic 38, 3) := by decide +kernel
theorem d30 : decode yB 30 = .ok (.ifCond (.eq) 28, 3) := by decide +kernel
theorem d33 : decode yB 33 = .ok (.aload_n 1, 1) := by decide +kernel
theorem d34 : decode yB 34 = .ok (.iload_n 2, 1) := by decide +kernel
theorem d35 : decode yB 35 = .ok (.iload_n 3, 1) := by decide +kernel
theorem d36 : decode yB 36 = .ok (.invokestatic 177, 3) := by decide +kernel
theorem d39 : decode yB 39 = .ok (.astore 5, 2) := by decide +kernel
theorem d41 : decode yB 41 = .ok (.aload_n 0, 1) := by decide +kernel
theorem d42 : decode yB 42 = .ok (.aload 5, 2) := by decide +kernel
theorem d44 : decode yB 44 = .ok (.iload_n 3, 1) := by decide +kernel
theorem d45 : decode yB 45 = .ok (.invokestatic 47, 3) := by decide +kernel
theorem d48 : decode yB 48 = .ok (.putfield 15, 3) := by decide +kernel
theorem d51 : decode yB 51 = .ok (.aload_n 0, 1) := by decide +kernel
theorem d52 : decode yB 52 = .ok (.aload 5, 2) := by decide +kernel
theorem d54 : decode yB 54 = .ok (.putfield 9, 3) := by decide +kernel
theorem d57 : decode yB 57 = .ok (.return_, 1) := by decide +kernel
def site : List Cond := [.fieldLink "java/lang/String" 38 "java/lang/String" "COMPACT_STRINGS" "Z", Cmp3.tab, CodL.tab, .laysFinal "java/lang/String" "java/lang/String" "value" "[B", .fieldLink "java/lang/String" 9 "java/lang/String" "value" "[B", .laysFinal "java/lang/String" "java/lang/String" "coder" "B", .fieldLink "java/lang/String" 15 "java/lang/String" "coder" "B"] ++ objW "java/lang/String" 1 ++ staticW "java/lang/String" 177 Cmp3.yN ++ staticW "java/lang/String" 47 CodL.yN
def tab : Cond := tabOf yN yB 6 none site
def P (a : Addr) (D : Cell) (fV fC : Field) (b : Addr) (A : Cell) (z : Int32) (o len : Nat) (args : Array Value) (s : State) : Prop := args = #[.ref a, .ref b, .int (Int32.ofNat o), .int (Int32.ofNat len), .null] ∧ Blank "java/lang/String" a D s ∧ Found "java/lang/String" "value" "[B" fV s ∧ Found "java/lang/String" "coder" "B" fC s ∧ Ch b A s ∧ StaticIs s "java/lang/String" "COMPACT_STRINGS" "Z" (.int z) ∧ ¬ z = 0 ∧ 0 < len ∧ o + len ≤ A.slots.size ∧ len ≤ 536870912 ∧ ∀ i, i < len → ¬ 255 < cv A (o + i)
def E (a : Addr) (D : Cell) (fV fC : Field) (A : Cell) (o len : Nat) (r : Option Value) (s u : State) : Prop := Got a D fV fC A o len r s u
/-- len > 0, no char of the range above 255: a Latin-1 String of their low bytes -/
theorem law (l : Launch) (a : Addr) (D : Cell) (fV fC : Field) (b : Addr) (A : Cell) (z : Int32) (o len : Nat) : Law l yN 5 4 2 35 yB 6 none site (P a D fV fC b A z o len) (E a D fV fC A o len) [⟨a, fC.slot⟩, ⟨a, fV.slot⟩] 1 len := by
  refine Law.of_walk (plainFor_of_name (by decide +kernel)) (by decide +kernel) (by decide +kernel) (by decide) (fun _ _ h => by rw [h.1]; rfl) (fun _ U U' hal hh h => ⟨h.1, h.2.1.mv hal hh, h.2.2.1.al hal, h.2.2.2.1.al hal, h.2.2.2.2.1.mv hal hh, h.2.2.2.2.2.1.there hal hh, h.2.2.2.2.2.2⟩) (fun r U U' V V' h1 hal h2 h => Got.mv r U U' V V' h1 hal h2 h) ?_
  intro p e s m args below meth c s₁ X0 hexec hbytes hml hret hlk hnm hown hh0 W hP
  obtain ⟨rfl, hB, f1, f2, hA, s1, hz, l0, l1, l2, hp⟩ := hP
  have a31 := hA.1.2.2.2
  have c1 : Steps p.tables e below (s₁.setTop (entryFrame m #[.ref a, .ref b, .int (Int32.ofNat o), .int (Int32.ofNat len), .null] 6)) (s₁.setTop (mkF m 0 #[.val (.ref a), .val (.ref b), .val (.int (Int32.ofNat o)), .val (.int (Int32.ofNat len)), .val .null, .unset] [])) := entry rfl
  have c2 : Steps p.tables e below (s₁.setTop (entryFrame m #[.ref a, .ref b, .int (Int32.ofNat o), .int (Int32.ofNat len), .null] 6)) (s₁.setTop (mkF m 1 #[.val (.ref a), .val (.ref b), .val (.int (Int32.ofNat o)), .val (.int (Int32.ofNat len)), .val .null, .unset] [.ref a])) := c1.trans (by
    refine XS.aloadN X0.here hexec rfl (hb hbytes d0) rfl rfl ?_
    exact Steps.refl _)
  obtain ⟨T3, X3, q3, st3⟩ := X0.oinit hexec hown (wks W (objW "java/lang/String" 1)) (g := (mkF m 1 #[.val (.ref a), .val (.ref b), .val (.int (Int32.ofNat o)), .val (.int (Int32.ofNat len)), .val .null, .unset] [.ref a])) rfl (by rw [hml]; rfl) (rest := []) rfl (hb hbytes d1) (W := 0) (by show 2 * 0 + 0 ≤ _; decide) (Nat.le_of_ble_eq_true rfl) (Nat.le_of_ble_eq_true rfl)
  have hh3 := q3.trans hh0
  have c4 : Steps p.tables e below (s₁.setTop (entryFrame m #[.ref a, .ref b, .int (Int32.ofNat o), .int (Int32.ofNat len), .null] 6)) (T3.setTop (mkF m 27 #[.val (.ref a), .val (.ref b), .val (.int (Int32.ofNat o)), .val (.int (Int32.ofNat len)), .val .null, .unset] [])) := (c2.trans (st3 _ (Steps.refl _))).trans (by
    refine XS.iloadN X3.here hexec rfl (hb hbytes d4) rfl ?_
    refine XS.ifYes X3.here hexec rfl (pc0 := 5) rfl (hb hbytes d5) rfl (i0_ne_t (nz32 (by omega) l0)) (by decide) rfl ?_
    exact Steps.refl _)
  obtain ⟨T5, X5, q5, st5⟩ := X3.sget hexec hown (wk W (.fieldLink "java/lang/String" 38 "java/lang/String" "COMPACT_STRINGS" "Z")) s1 (fun _ _ h => by rw [hh3]; exact h) (g := (mkF m 27 #[.val (.ref a), .val (.ref b), .val (.int (Int32.ofNat o)), .val (.int (Int32.ofNat len)), .val .null, .unset] [])) rfl (hb hbytes d27)
  have hh5 := q5.trans hh3
  have c6 : Steps p.tables e below (s₁.setTop (entryFrame m #[.ref a, .ref b, .int (Int32.ofNat o), .int (Int32.ofNat len), .null] 6)) (T5.setTop (mkF m 30 #[.val (.ref a), .val (.ref b), .val (.int (Int32.ofNat o)), .val (.int (Int32.ofNat len)), .val .null, .unset] [.int z])) := c4.trans (st5 _ (Steps.refl _))
  have c7 : Steps p.tables e below (s₁.setTop (entryFrame m #[.ref a, .ref b, .int (Int32.ofNat o), .int (Int32.ofNat len), .null] 6)) (T5.setTop (mkF m 36 #[.val (.ref a), .val (.ref b), .val (.int (Int32.ofNat o)), .val (.int (Int32.ofNat len)), .val .null, .unset] [.int (Int32.ofNat len), .int (Int32.ofNat o), .ref b])) := c6.trans (by
    refine XS.ifNo X5.here hexec rfl (hb hbytes d30) rfl (i0_eq_f hz) ?_
    refine XS.aloadN X5.here hexec rfl (hb hbytes d33) rfl rfl ?_
    refine XS.iloadN X5.here hexec rfl (hb hbytes d34) rfl ?_
    refine XS.iloadN X5.here hexec rfl (hb hbytes d35) rfl ?_
    exact Steps.refl _)
  obtain ⟨v8, T8, X8, E8, g8⟩ := X5.callS hexec (Cmp3.law l b A o len) hown (wks W (staticW "java/lang/String" 177 Cmp3.yN)) (wk W Cmp3.tab) (W := 0) (Nat.le_of_ble_eq_true rfl) (Nat.le_of_ble_eq_true rfl) (Nat.le_refl _) (by show 0 + len ≤ len; omega) (g := (mkF m 36 #[.val (.ref a), .val (.ref b), .val (.int (Int32.ofNat o)), .val (.int (Int32.ofNat len)), .val .null, .unset] [.int (Int32.ofNat len), .int (Int32.ofNat o), .ref b])) rfl (by rw [hml]; rfl) c7 (argsL := [.ref b, .int (Int32.ofNat o), .int (Int32.ofNat len)]) (rest := []) rfl rfl (by show 2 * 0 + 0 ≤ _; decide) (hb hbytes d36) (⟨rfl, hA.mv X5.warmed.alike hh5, l1, l2, hp⟩)
  obtain ⟨e8, z8⟩ := E8
  obtain ⟨rfl, N, n1, n2, n3, n4, n5, n6⟩ := NewArr.mv _ T5 s _ _ hh5.symm (Vm.Alike.refl _) rfl e8
  rw [hh5] at z8
  have hB1 := hB.keep X8.warmed.alike (n6 _ _ hB.1)
  have hne : s.heap.size ≠ a := (Nat.ne_of_lt (Array.getElem?_eq_some_iff.mp hB.1).1).symm
  have c9 : Steps p.tables e below (s₁.setTop (entryFrame m #[.ref a, .ref b, .int (Int32.ofNat o), .int (Int32.ofNat len), .null] 6)) (T8.setTop (mkF m 39 #[.val (.ref a), .val (.ref b), .val (.int (Int32.ofNat o)), .val (.int (Int32.ofNat len)), .val .null, .unset] [.ref s.heap.size])) := g8
  have c10 : Steps p.tables e below (s₁.setTop (entryFrame m #[.ref a, .ref b, .int (Int32.ofNat o), .int (Int32.ofNat len), .null] 6)) (T8.setTop (mkF m 45 #[.val (.ref a), .val (.ref b), .val (.int (Int32.ofNat o)), .val (.int (Int32.ofNat len)), .val .null, .val (.ref s.heap.size)] [.int (Int32.ofNat N.slots.size), .ref s.heap.size, .ref a])) := by
    have hc : Steps p.tables e below (s₁.setTop (entryFrame m #[.ref a, .ref b, .int (Int32.ofNat o), .int (Int32.ofNat len), .null] 6)) (T8.setTop (mkF m 45 #[.val (.ref a), .val (.ref b), .val (.int (Int32.ofNat o)), .val (.int (Int32.ofNat len)), .val .null, .val (.ref s.heap.size)] [.int (Int32.ofNat len), .ref s.heap.size, .ref a])) := c9.trans (by
      refine XS.astore X8.here hexec rfl (hb hbytes d39) rfl rfl rfl ?_
      refine XS.aloadN X8.here hexec rfl (hb hbytes d41) rfl rfl ?_
      refine XS.aload X8.here hexec rfl (hb hbytes d42) rfl rfl ?_
      refine XS.iloadN X8.here hexec rfl (hb hbytes d44) rfl ?_
      exact Steps.refl _)
    rw [n4]; exact hc
  obtain ⟨v11, T11, X11, E11, g11⟩ := X8.callS hexec (CodL.law l s.heap.size N) hown (wks W (staticW "java/lang/String" 47 CodL.yN)) (wk W CodL.tab) (W := 1) (Nat.le_of_ble_eq_true rfl) (Nat.le_of_ble_eq_true rfl) (Nat.le_refl _) (by show 0 + len + 0 ≤ len; omega) (g := (mkF m 45 #[.val (.ref a), .val (.ref b), .val (.int (Int32.ofNat o)), .val (.int (Int32.ofNat len)), .val .null, .val (.ref s.heap.size)] [.int (Int32.ofNat N.slots.size), .ref s.heap.size, .ref a])) rfl (by rw [hml]; rfl) c10 (argsL := [.ref s.heap.size, .int (Int32.ofNat N.slots.size)]) (rest := [.ref a]) rfl rfl (by show 2 * 0 + (1 + 0) ≤ _; decide) (hb hbytes d45) (⟨rfl, n1⟩)
  obtain ⟨rfl, q11⟩ := E11
  have hB11 := hB1.mv (X8.warmed.alike.symm.trans X11.warmed.alike) q11
  have c12 : Steps p.tables e below (s₁.setTop (entryFrame m #[.ref a, .ref b, .int (Int32.ofNat o), .int (Int32.ofNat len), .null] 6)) (T11.setTop (mkF m 48 #[.val (.ref a), .val (.ref b), .val (.int (Int32.ofNat o)), .val (.int (Int32.ofNat len)), .val .null, .val (.ref s.heap.size)] [.int 0, .ref a])) := g11
  obtain ⟨T13, X13, p13, bl13, sl13, st13⟩ := X11.finit hexec hown (wk W (.fieldLink "java/lang/String" 15 "java/lang/String" "coder" "B")) (Or.inr ⟨_, (wk W (.laysFinal "java/lang/String" "java/lang/String" "coder" "B"))⟩) (Or.inl ⟨rfl, hnm⟩) f2 (Or.inl rfl) hB11 (t := .byte) (by decide +kernel) rfl (g := (mkF m 48 #[.val (.ref a), .val (.ref b), .val (.int (Int32.ofNat o)), .val (.int (Int32.ofNat len)), .val .null, .val (.ref s.heap.size)] [.int 0, .ref a])) rfl (rest := []) rfl (hb hbytes d48)
  have c14 : Steps p.tables e below (s₁.setTop (entryFrame m #[.ref a, .ref b, .int (Int32.ofNat o), .int (Int32.ofNat len), .null] 6)) (T13.setTop (mkF m 54 #[.val (.ref a), .val (.ref b), .val (.int (Int32.ofNat o)), .val (.int (Int32.ofNat len)), .val .null, .val (.ref s.heap.size)] [.ref s.heap.size, .ref a])) := (c12.trans (st13 _ (Steps.refl _))).trans (by
    refine XS.aloadN X13.here hexec rfl (hb hbytes d51) rfl rfl ?_
    refine XS.aload X13.here hexec rfl (hb hbytes d52) rfl rfl ?_
    exact Steps.refl _)
  obtain ⟨T15, X15, p15, bl15, sl15, st15⟩ := X13.finit hexec hown (wk W (.fieldLink "java/lang/String" 9 "java/lang/String" "value" "[B")) (Or.inr ⟨_, (wk W (.laysFinal "java/lang/String" "java/lang/String" "value" "[B"))⟩) (Or.inl ⟨rfl, hnm⟩) f1 (Or.inl rfl) bl13 (t := (.array .byte)) (by decide +kernel) rfl (g := (mkF m 54 #[.val (.ref a), .val (.ref b), .val (.int (Int32.ofNat o)), .val (.int (Int32.ofNat len)), .val .null, .val (.ref s.heap.size)] [.ref s.heap.size, .ref a])) rfl (rest := []) rfl (hb hbytes d54)
  have c16 : Steps p.tables e below (s₁.setTop (entryFrame m #[.ref a, .ref b, .int (Int32.ofNat o), .int (Int32.ofNat len), .null] 6)) (T15.setTop (mkF m 57 #[.val (.ref a), .val (.ref b), .val (.int (Int32.ofNat o)), .val (.int (Int32.ofNat len)), .val .null, .val (.ref s.heap.size)] [])) := c14.trans (st15 _ (Steps.refl _))
  have ap := apart (Or.inr ⟨_, (wk W (.laysFinal "java/lang/String" "java/lang/String" "value" "[B"))⟩) (Or.inr ⟨_, (wk W (.laysFinal "java/lang/String" "java/lang/String" "coder" "B"))⟩) f1 f2 (t₁ := .array .byte) (t₂ := .byte) (by decide +kernel) (by decide +kernel) (by decide)
  have al := X8.warmed.alike.symm.trans X15.warmed.alike
  have n7 : T11.heap[s.heap.size]? = some N := by rw [q11]; exact n1.1
  exact ⟨T15, none, _, _, _, X15, by simp, rfl, by omega, (fun _ => rfl), ⟨rfl, _, N, bl15, ((Same.refl D _).set _ (by simp)).set _ (by simp), sl15, (Cell.slots_setSlot_ne _ ap).trans sl13, n1.keep al (p15.other hne (p13.other hne n7)), n2, by rw [al.findClass]; exact n3, n4, n5, fun y c h1 h2 => p15.other h1 (p13.other h1 (by rw [q11]; exact n6 y c h2)), by rw [p15.2.2, p13.2.2, q11]; exact z8⟩, fun fs hl => c16.trans (X15.returnOut hexec hret (hb hbytes d57) hl)⟩
end New4
namespace New1
def yN : MethodName := ⟨"java/lang/String", "<init>", "([C)V"⟩
abbrev yB : ByteArray := jdk_42_method_3_code
theorem d0 : decode yB 0 = .ok (.aload_n 0, 1) := by decide +kernel
theorem d1 : decode yB 1 = .ok (.aload_n 1, 1) := by decide +kernel
theorem d2 : decode yB 2 = .ok (.iconst 0, 1) := by decide +kernel
theorem d3 : decode yB 3 = .ok (.aload_n 1, 1) := by decide +kernel
theorem d4 : decode yB 4 = .ok (.arraylength, 1) := by decide +kernel
theorem d5 : decode yB 5 = .ok (.aconst_null, 1) := by decide +kernel
theorem d6 : decode yB 6 = .ok (.invokespecial 27, 3) := by decide +kernel
theorem d9 : decode yB 9 = .ok (.return_, 1) := by decide +kernel
def site : List Cond := [New4.tab] ++ initW "java/lang/String" 27 New4.yN
def tab : Cond := tabOf yN yB 2 none site
def P (a : Addr) (D : Cell) (fV fC : Field) (b : Addr) (A : Cell) (z : Int32) (args : Array Value) (s : State) : Prop := args = #[.ref a, .ref b] ∧ Blank "java/lang/String" a D s ∧ Found "java/lang/String" "value" "[B" fV s ∧ Found "java/lang/String" "coder" "B" fC s ∧ Ch b A s ∧ StaticIs s "java/lang/String" "COMPACT_STRINGS" "Z" (.int z) ∧ ¬ z = 0 ∧ 0 < A.slots.size ∧ A.slots.size ≤ 536870912 ∧ ∀ i, i < A.slots.size → ¬ 255 < cv A i
def E (a : Addr) (D : Cell) (fV fC : Field) (A : Cell) (r : Option Value) (s u : State) : Prop := Got a D fV fC A 0 A.slots.size r s u
/-- new String(chars), not empty, no char above 255: a Latin-1 String of their low bytes -/
theorem law (l : Launch) (a : Addr) (D : Cell) (fV fC : Field) (b : Addr) (A : Cell) (z : Int32) : Law l yN 2 1 3 52 yB 2 none site (P a D fV fC b A z) (E a D fV fC A) [⟨a, fC.slot⟩, ⟨a, fV.slot⟩] 1 A.slots.size := by
  refine Law.of_walk (plainFor_of_name (by decide +kernel)) (by decide +kernel) (by decide +kernel) (by decide) (fun _ _ h => by rw [h.1]; rfl) (fun _ U U' hal hh h => ⟨h.1, h.2.1.mv hal hh, h.2.2.1.al hal, h.2.2.2.1.al hal, h.2.2.2.2.1.mv hal hh, h.2.2.2.2.2.1.there hal hh, h.2.2.2.2.2.2⟩) (fun r U U' V V' h1 hal h2 h => Got.mv r U U' V V' h1 hal h2 h) ?_
  intro p e s m args below meth c s₁ X0 hexec hbytes hml hret hlk hnm hown hh0 W hP
  obtain ⟨rfl, hB, f1, f2, hA, s1, hz, l0, l2, hp⟩ := hP
  have c1 : Steps p.tables e below (s₁.setTop (entryFrame m #[.ref a, .ref b] 2)) (s₁.setTop (mkF m 0 #[.val (.ref a), .val (.ref b)] [])) := entry rfl
  have c2 : Steps p.tables e below (s₁.setTop (entryFrame m #[.ref a, .ref b] 2)) (s₁.setTop (mkF m 6 #[.val (.ref a), .val (.ref b)] [.null, .int (Int32.ofNat A.slots.size), .int 0, .ref b, .ref a])) := c1.trans (by
    refine XS.aloadN X0.here hexec rfl (hb hbytes d0) rfl rfl ?_
    refine XS.aloadN X0.here hexec rfl (hb hbytes d1) rfl rfl ?_
    refine iconstV X0.here hexec rfl 0 (hb hbytes d2) (by decide) ?_
    refine XS.aloadN X0.here hexec rfl (hb hbytes d3) rfl rfl ?_
    refine X0.alen hexec (hA.1.mv X0.warmed.alike hh0) rfl rfl (hb hbytes d4) ?_
    refine XS.aconstNull X0.here hexec rfl (hb hbytes d5) ?_
    exact Steps.refl _)
  obtain ⟨v3, T3, X3, E3, g3⟩ := X0.callN hexec (New4.law l a D fV fC b A z 0 A.slots.size) rfl hown (wks W (initW "java/lang/String" 27 New4.yN)) (W New4.tab (by simp only [site, List.mem_cons, List.mem_append, true_or, or_true])) (W := 0) (Nat.le_of_ble_eq_true rfl) (Nat.le_of_ble_eq_true rfl) (Nat.le_refl _) (by show 0 + A.slots.size ≤ A.slots.size; omega) (g := (mkF m 6 #[.val (.ref a), .val (.ref b)] [.null, .int (Int32.ofNat A.slots.size), .int (Int32.ofNat 0), .ref b, .ref a])) rfl (by rw [hml]; rfl) c2 (argsL := [.ref b, .int (Int32.ofNat 0), .int (Int32.ofNat A.slots.size), .null]) (rest := []) rfl rfl (by show 2 * 0 + 0 ≤ _; decide) (hb hbytes d6) (⟨rfl, hB.mv X0.warmed.alike hh0, f1.al X0.warmed.alike, f2.al X0.warmed.alike, hA.mv X0.warmed.alike hh0, s1.there X0.warmed.alike hh0, hz, l0, by omega, l2, fun i hi => by rw [Nat.zero_add]; exact hp i hi⟩)
  have e0 := Got.mv _ s₁ s _ _ hh0.symm (Vm.Alike.refl _) rfl E3
  obtain rfl := e0.1
  have c4 : Steps p.tables e below (s₁.setTop (entryFrame m #[.ref a, .ref b] 2)) (T3.setTop (mkF m 9 #[.val (.ref a), .val (.ref b)] [])) := g3
  exact ⟨T3, none, _, _, _, X3, by simp, rfl, by omega, (fun _ => rfl), e0, fun fs hl => c4.trans (X3.returnOut hexec hret (hb hbytes d9) hl)⟩
theorem pays {l : Launch} {R : Room} {p : Program} {e : Env} {below : List Frame} {s : State} {sargs : Array Value} {len W : Nat} (a : Addr) (D : Cell) (fV fC : Field) (b : Addr) (A : Cell) (z : Int32) (htab : tab.before sargs s = true) (hfr : 4 ≤ R.frames) (hlo : W + 65 ≤ R.locals) :
    Back l R p e below s sargs yN len W (fun A₁ a₁ => A₁.cells + 1 ≤ R.cells ∧ A₁.slots + A.slots.size ≤ R.slots ∧ P a D fV fC b A z a₁ A₁.U) (fun A₁ _ v₁ B₁ => E a D fV fC A v₁ A₁.U B₁.U ∧ B₁.locs = A₁.locs ++ [⟨a, fC.slot⟩, ⟨a, fV.slot⟩] ∧ B₁.cells = A₁.cells + 1 ∧ B₁.slots = A₁.slots + A.slots.size) :=
  (law l a D fV fC b A z).pays htab hfr (by omega)
end New1
/-- the byte, read back as charAt reads it, is the char -/
theorem lo8_mask {x : Int32} (h0 : ¬ x < 0) (h1 : ¬ 255 < x) : lo8 x &&& 255 = x := by
  have t : ∀ k : Fin 256, lo8 (Int32.ofNat k.val) &&& 255 = Int32.ofNat k.val := by decide +kernel
  rw [Int32.lt_iff_toInt_lt] at h0 h1
  have e0 : (0 : Int32).toInt = 0 := rfl
  have e1 : (255 : Int32).toInt = 255 := rfl
  obtain ⟨k, hk⟩ : ∃ k : Nat, x.toInt = k := ⟨x.toInt.toNat, by omega⟩
  have hx : x = Int32.ofNat k := Int32.toInt_inj.mp (by rw [hk, Int32.toInt_ofNat_small (by omega)])
  rw [hx]
  exact t ⟨k, by omega⟩
end StrChars
namespace StrChars.Road
open Jvm Sem ClassFile Op Lib Jvm.Stand Jvm.Free Jvm.Free.XT
open Jvm.Lib.Cold (StaticIs)
abbrev ST : String := "java/lang/String"
/-- every table word that New1's law asks, flat -/
abbrev words : List Jvm.Cond := [.code New1.yN New1.yB 2 none, .initialized ST, .methodLink ST 27 New4.yN, .instanceMethod New4.yN,
  .code New4.yN New4.yB 6 none, .fieldLink ST 38 ST "COMPACT_STRINGS" "Z", .laysFinal ST ST "value" "[B", .fieldLink ST 9 ST "value" "[B", .laysFinal ST ST "coder" "B", .fieldLink ST 15 ST "coder" "B",
  .methodLink ST 1 Lib.objectInit, .instanceMethod Lib.objectInit, .code Lib.objectInit ⟨#[0xb1]⟩ 1 none, .methodLink ST 177 Cmp3.yN, .static Cmp3.yN, .methodLink ST 47 CodL.yN, .static CodL.yN,
  .code Cmp3.yN Cmp3.yB 6 (some (.array .byte)), .initialized U16, .arrayClass .byte, .methodLink U16 115 Cmp5.yN, .static Cmp5.yN, .code Cmp5.yN Cmp5.yB 7 (some .int), .code CodL.yN CodL.yB 2 (some .byte)]
theorem tab_of {a : Array Value} {s : State} (h : ∀ w ∈ words, w.before a s = true) : New1.tab.before a s = true := by
  have h5 : Cmp5.tab.before a s = true := unparts (wk h (.code Cmp5.yN Cmp5.yB 7 (some .int))) (wks h (.initialized Cmp5.yN.cls :: Cmp5.site))
  have hc : CodL.tab.before a s = true := unparts (wk h (.code CodL.yN CodL.yB 2 (some .byte))) (wks h (.initialized CodL.yN.cls :: CodL.site))
  have q5 : ∀ w ∈ Cmp5.tab :: words, w.before a s = true := fun w hw => (List.mem_cons.mp hw).elim (fun e => e ▸ h5) (h w)
  have h3 : Cmp3.tab.before a s = true := unparts (wk q5 (.code Cmp3.yN Cmp3.yB 6 (some (.array .byte)))) (wks q5 (.initialized Cmp3.yN.cls :: Cmp3.site))
  have q3 : ∀ w ∈ Cmp3.tab :: CodL.tab :: words, w.before a s = true := fun w hw => (List.mem_cons.mp hw).elim (fun e => e ▸ h3) fun hw => (List.mem_cons.mp hw).elim (fun e => e ▸ hc) (h w)
  have h4 : New4.tab.before a s = true := unparts (wk q3 (.code New4.yN New4.yB 6 none)) (wks q3 (.initialized New4.yN.cls :: New4.site))
  have q4 : ∀ w ∈ New4.tab :: words, w.before a s = true := fun w hw => (List.mem_cons.mp hw).elim (fun e => e ▸ h4) (h w)
  exact unparts (wk q4 (.code New1.yN New1.yB 2 none)) (wks q4 (.initialized New1.yN.cls :: New1.site))
/-- the words ride from the start Z to the walk's own state -/
theorem moved {Z s : State} {a0 args : Array Value} (hZ : Z.Warmed39 s.vm) (hw : ∀ d ∈ words, d.before a0 Z = true) : ∀ d ∈ words, d.before args s = true := fun d hd => by
  have q := hw d hd
  have t : ∀ d ∈ words, d = .arrayClass .byte ∨ (d.onTables && d.keepsFace) = true := by decide +kernel
  rcases t d hd with rfl | t
  · exact RoadKit.mvA hZ q
  · exact RoadKit.mv hZ q t
/-- WHAT COMES BACK, over the tables of the start Z: h the heap at the call, h' behind it -/
def Q (Z : State) (x : Addr) (A : Cell) (h : Heap) (v : Option Value) (h' : Heap) (L : List Loc) : Prop := v = none ∧ (∀ y ∈ L, y.base = x) ∧ RoadKit.Keep h h' [x] ∧ h'.size = h.size + 1 ∧ RoadKit.Exa Z h' x ST ∧ RoadKit.Fld Z h' x ST "value" "[B" (.ref h.size) ∧ RoadKit.Fld Z h' x ST "coder" "B" (.int 0) ∧
  (∃ V : Cell, RoadKit.Arr Z h' h.size V .byte ∧ V.vm = .none ∧ Z.vm.findClass "[B" = some V.cls ∧ V.slots.size = A.slots.size ∧ ∀ j, j < A.slots.size → V.slots[j]? = some (.int (lo8 (cv A j)))) ∧
  ∀ (O n d : String) (w : Value), RoadKit.Fld Z h x O n d w → RoadKit.slotOf Z O n d ≠ RoadKit.slotOf Z ST "value" "[B" → RoadKit.slotOf Z O n d ≠ RoadKit.slotOf Z ST "coder" "B" → RoadKit.Fld Z h' x O n d w
/-- **new String(chars) AT A CALL, IN THE ROAD'S FORM**: for specialBack behind newO: x the fresh String, b the char[] with the cell A -/
theorem back {p : Program} {l : Launch} {e : Env} {R : Room} {s : State} {args : Array Value} {below : List Frame} {len W : Nat} {Z : State} {a0 : Array Value} {h : Heap} (hZ : Z.Warmed39 s.vm) (hw : ∀ d ∈ words, d.before a0 Z = true) {kI : Nat} (wi : (Jvm.Cond.instantiable ST kI).before a0 Z = true)
    {x b : Addr} {A : Cell} {z : Int32} {v0 c0 : Value} (E : RoadKit.Exa Z h x ST) (V : RoadKit.Fld Z h x ST "value" "[B" v0) (C : RoadKit.Fld Z h x ST "coder" "B" c0) (K : RoadKit.Arr Z h b A .char) (hty : Typed .char A) (S : RoadKit.Sta Z h ST "COMPACT_STRINGS" "Z" (.int z)) (hz : ¬ z = 0)
    (l0 : 0 < A.slots.size) (l2 : A.slots.size ≤ 536870912) (hp : ∀ i, i < A.slots.size → ¬ 255 < cv A i) (hfr : 4 ≤ R.frames) (hlo : W + 65 ≤ R.locals) :
    Back l R p e below s args New1.yN len W (fun P a => a = #[.ref x, .ref b] ∧ P.U.heap = h ∧ P.cells + 1 ≤ R.cells ∧ P.slots + A.slots.size ≤ R.slots)
      (fun P _ v B => ∃ L, Q Z x A h v B.U.heap L ∧ B.locs = P.locs ++ L ∧ B.cells = P.cells + 1 ∧ B.slots = P.slots + A.slots.size) := by
  intro m meth c P g ig mk a X hg hsize hdg hW hn hp'
  obtain ⟨rfl, rfl, r1, r2⟩ := hp'
  have al : Z.vm.Alike P.U.vm := hZ.alike.trans X.warmed.alike
  obtain ⟨D, cfV, kV, iV, fV, hD, gV, stV, knV, obV, asV, slV⟩ := id V
  obtain ⟨D', cfC, kC, iC, fC, hD', gC, stC, -, -, asC, slC⟩ := id C
  cases hD.symm.trans hD'
  obtain ⟨D2, kD, e1, e2, e3, e4, e5⟩ := id E
  cases hD.symm.trans e1
  obtain ⟨c2, k2, i1, i2, i3, -⟩ := Cond.instantiable_spec wi
  cases e2.symm.trans i1
  cases e3.symm.trans i2
  obtain ⟨kU, u1, u2⟩ := al.2.2 _ _ e3
  have hB : Blank ST x D P.U := ⟨hD, ⟨knV, fun q hq => by rw [hq] at obV; cases obV⟩, by rw [al.findClass]; exact e2, kU, u1, by rw [u2]; exact i3, by rw [u2]; exact e5 i3⟩
  have F1 : Found ST "value" "[B" fV P.U := ⟨SBG.found_only al ⟨cfV, kV, iV, gV⟩, stV⟩
  have F2 : Found ST "coder" "B" fC P.U := ⟨SBG.found_only al ⟨cfC, kC, iC, gC⟩, stC⟩
  have hA : Ch b A P.U := ⟨⟨K.1, State.isArrayOf_alike al K.2.1, K.2.2, by omega⟩, hty⟩
  have hS : StaticIs P.U ST "COMPACT_STRINGS" "Z" (.int z) := by
    obtain ⟨cfS, iS, kS, fS, st, cS, t1, t2, t3, t4, t5, t6, t7⟩ := S
    exact StaticIs.there (s := { Z with heap := P.U.heap }) ⟨cfS, iS, kS, fS, st, cS, t1, t2, t3, t4, t5, (fun q => by rw [q] at t6; cases t6), t7⟩ al rfl
  obtain ⟨v, B, X', ⟨⟨hv, E', V', q1, q2, q3, q4, q5, q6, q7, q8, q9, q10, q11⟩, hl, hc, hs⟩, st⟩ := New1.pays x D fV fC b A z (tab_of (moved hZ hw)) hfr hlo m meth c P g ig mk _ X hg hsize hdg hW hn ⟨r1, r2, rfl, hB, F1, F2, hA, hS, hz, l0, l2, hp⟩
  have al' : Z.vm.Alike B.U.vm := hZ.alike.trans X'.warmed.alike
  have hsz : E'.slots.size = D.slots.size := by
    obtain ⟨-, -, -, kB, w1, w2, w3⟩ := q1
    obtain ⟨kB', y1, y2⟩ := al'.2.2 _ _ e3
    rw [q2.2.1] at w1
    cases w1.symm.trans y1
    rw [w3, e5 i3, y2]
  refine ⟨v, B, X', ⟨_, ⟨hv, ?_, ⟨by omega, fun y cy hy hn' => q10 y cy (by simpa using hn') hy, fun y cy hy => ?_⟩, q11, ⟨E', _, q1.1, by rw [q2.2.1]; exact e2, by rw [q2.2.1]; exact e3, by rw [q2.1]; exact obV, fun _ => by rw [hsz]; exact e5 i3⟩,
    ⟨E', cfV, kV, iV, fV, q1.1, gV, stV, by rw [q2.1]; exact knV, by rw [q2.1]; exact obV, by rw [q2.2.1]; exact asV, q3⟩, ⟨E', cfC, kC, iC, fC, q1.1, gC, stC, by rw [q2.1]; exact knV, by rw [q2.1]; exact obV, by rw [q2.2.1]; exact asC, q4⟩,
    ⟨V', ⟨q5.1, State.isArrayOf_alike al'.symm q5.2.1, q5.2.2.1⟩, q6, by rw [← al'.findClass]; exact q7, q8, fun j hj => by have := q9 j hj; rwa [Nat.zero_add] at this⟩, fun O n d w F n1 n2 => ?_⟩, hl, hc, hs⟩, st⟩
  · intro y hy
    simp only [List.mem_cons, List.not_mem_nil, or_false] at hy
    rcases hy with rfl | rfl <;> rfl
  · by_cases q : y = x
    · subst q
      cases hD.symm.trans hy
      exact ⟨E', q1.1, q2.2.1, q2.1, hsz⟩
    · exact ⟨cy, q10 y cy q hy, rfl, rfl, rfl⟩
  · obtain ⟨D3, cf, k, i, f, g1, g2, g3, g4, g5, g6, g7⟩ := F
    cases hD.symm.trans g1
    simp only [RoadKit.slotOf, g2, gV, gC, Option.map_some, Option.getD_some] at n1 n2
    exact ⟨E', cf, k, i, f, q1.1, g2, g3, by rw [q2.1]; exact g4, by rw [q2.1]; exact g5, by rw [q2.2.1]; exact g6, by rw [q2.2.2 f.slot (by simp [n1, n2])]; exact g7⟩
end StrChars.Road
namespace StrChars.Road
open Jvm Sem ClassFile Op Lib Jvm.Stand Jvm.Free Jvm.Free.XT
/-- WHAT COMES BACK, the byte[] as a list of values -/
def QA (Z : State) (x : Addr) (zn : Int32) (cs : List Int32) (h : Heap) (v : Option Value) (h' : Heap) (L : List Loc) : Prop := v = none ∧ (∀ y ∈ L, y.base = x) ∧ RoadKit.Keep h h' [x] ∧ h'.size = h.size + 1 ∧ RoadKit.Exa Z h' x ST ∧ RoadKit.Fld Z h' x ST "value" "[B" (.ref h.size) ∧ RoadKit.Fld Z h' x ST "coder" "B" (.int 0) ∧
  (∃ kb, Z.vm.findClass "[B" = some kb ∧ RoadKit.Arv Z h' h.size kb .byte zn (cs.map fun c => .int (lo8 c)) (.int 0)) ∧
  ∀ (O n d : String) (w : Value), RoadKit.Fld Z h x O n d w → RoadKit.slotOf Z O n d ≠ RoadKit.slotOf Z ST "value" "[B" → RoadKit.slotOf Z O n d ≠ RoadKit.slotOf Z ST "coder" "B" → RoadKit.Fld Z h' x O n d w
/-- **new String(chars) AT A CALL, THE ARRAYS AS LISTS**: the char[] at b holds cs, not empty, no char above 255 -/
theorem backArv {p : Program} {l : Launch} {e : Env} {R : Room} {s : State} {args : Array Value} {below : List Frame} {len W : Nat} {Z : State} {a0 : Array Value} {h : Heap} (hZ : Z.Warmed39 s.vm) (hw : ∀ d ∈ words, d.before a0 Z = true) {kI : Nat} (wi : (Jvm.Cond.instantiable ST kI).before a0 Z = true)
    {x b : Addr} {k : ClassId} {zn z : Int32} {cs : List Int32} {dv v0 c0 : Value} (E : RoadKit.Exa Z h x ST) (V : RoadKit.Fld Z h x ST "value" "[B" v0) (C : RoadKit.Fld Z h x ST "coder" "B" c0) (K : RoadKit.Arv Z h b k .char zn (cs.map Value.int) dv) (S : RoadKit.Sta Z h ST "COMPACT_STRINGS" "Z" (.int z)) (hz : ¬ z = 0)
    (hlen : zn.toNatClampNeg = cs.length) (h0 : 0 < cs.length) (hbig : cs.length ≤ 536870912) (hall : ∀ c ∈ cs, ¬ 255 < c) (hfr : 4 ≤ R.frames) (hlo : W + 65 ≤ R.locals) :
    Back l R p e below s args New1.yN len W (fun P a => a = #[.ref x, .ref b] ∧ P.U.heap = h ∧ P.cells + 1 ≤ R.cells ∧ P.slots + cs.length ≤ R.slots)
      (fun P _ v B => ∃ L, QA Z x zn cs h v B.U.heap L ∧ B.locs = P.locs ++ L ∧ B.cells = P.cells + 1 ∧ B.slots = P.slots + cs.length) := by
  obtain ⟨A, K1, K2, K3, K4, K5, K6⟩ := K
  have e : A.slots.size = cs.length := K3.trans hlen
  have hat : ∀ (i : Nat) (hi : i < cs.length), A.slots[i]? = some (.int cs[i]) := fun i hi => by rw [K5 i (by omega)]; simp [List.getD_eq_getElem?_getD, hi]
  have hcv : ∀ (i : Nat) (hi : i < cs.length), cv A i = cs[i] := fun i hi => by unfold cv; rw [hat i hi]
  have hty : Typed .char A := fun i v hv => by
    have hi : i < A.slots.size := (Array.getElem?_eq_some_iff.mp hv).1
    have q := K5 i hi
    rw [hv] at q
    rw [Option.some.inj q]
    exact K6 i hi
  refine Back.mono (back hZ hw wi E V C K1 hty S hz (by omega) (by omega) (fun i hi => by rw [hcv i (by omega)]; exact hall _ (List.getElem_mem _)) hfr hlo) (fun P a hp => ⟨hp.1, hp.2.1, hp.2.2.1, by rw [e]; exact hp.2.2.2⟩) (fun P a v B hp hq => ?_)
  obtain ⟨L, ⟨q1, q2, q3, q4, q5, q6, q7, ⟨V', v1, v2, v3, v4, v5⟩, q9⟩, hl, hc, hs⟩ := hq
  refine ⟨L, ⟨q1, q2, q3, q4, q5, q6, q7, ⟨V'.cls, v3, V', v1, rfl, by rw [v4, e, hlen], K4, fun i hi => ?_, fun i hi => ?_⟩, q9⟩, hl, hc, by rw [hs, e]⟩
  · have hi' : i < cs.length := by omega
    rw [v5 i (by omega), hcv i hi']; simp [List.getD_eq_getElem?_getD, hi']
  · have hi' : i < cs.length := by omega
    simp only [List.getD_eq_getElem?_getD, List.getElem?_map, List.getElem?_eq_getElem hi', Option.map_some, Option.getD_some]
    exact fits_lo8 _
end StrChars.Road
namespace StrChars.Road
open Jvm Sem ClassFile Op Lib Jvm.Stand Jvm.Free Jvm.Free.XT
/-- WHAT COMES BACK, in the writer's own shape -/
def QV (Z : State) (x : Addr) (N : Int32) (bs : List Int32) (h : Heap) (n0 : Nat) (v : Option Value) (h' : Heap) (L : List Loc) : Prop := v = none ∧ RoadKit.Fr n0 L ∧ RoadKit.Keep h h' [x] ∧ RoadKit.Exa Z h' x ST ∧ RoadKit.Fld Z h' x ST "coder" "B" (.int 0) ∧
  ∃ (t : Addr) (kb : ClassId), n0 ≤ t ∧ h.size ≤ t ∧ ¬ t = x ∧ RoadKit.Fld Z h' x ST "value" "[B" (.ref t) ∧ RoadKit.Arv Z h' t kb .byte N (bs.map Value.int) (.int 0)
/-- **new String(chars) AT A CALL, FOR THE WRITER**: a char[] of n known ints, each 0 to 255 -/
theorem backV {p : Program} {l : Launch} {e : Env} {R : Room} {s : State} {args : Array Value} {below : List Frame} {len W : Nat} {Z : State} {a0 : Array Value} {h : Heap} (hZ : Z.Warmed39 s.vm) (hw : ∀ d ∈ words, d.before a0 Z = true) {kI : Nat} (wi : (Jvm.Cond.instantiable ST kI).before a0 Z = true)
    {x b : Addr} {kC : ClassId} {cs bs : List Int32} {d v0 c0 : Value} {z N : Int32} {n n0 : Nat} (hx0 : n0 ≤ x) (hh0 : n0 ≤ h.size) (E : RoadKit.Exa Z h x ST) (V : RoadKit.Fld Z h x ST "value" "[B" v0) (C : RoadKit.Fld Z h x ST "coder" "B" c0) (K : RoadKit.Arv Z h b kC .char N (cs.map Value.int) d) (S : RoadKit.Sta Z h ST "COMPACT_STRINGS" "Z" (.int z)) (hz : ¬ z = 0)
    (hn : cs.length = n) (hN : N = Int32.ofNat n) (l0 : 0 < n) (l2 : n ≤ 4000) (hp : ∀ c ∈ cs, ¬ c < 0 ∧ ¬ (255 : Int32) < c) (hb : bs = cs.map (fun c => c.toInt8.toInt32)) (hfr : 4 ≤ R.frames) (hlo : W + 65 ≤ R.locals) :
    Back l R p e below s args (⟨"java/lang/String", "<init>", "([C)V"⟩ : MethodName) len W (fun P a => a = #[.ref x, .ref b] ∧ P.U.heap = h ∧ P.cells + 1 ≤ R.cells ∧ P.slots + n ≤ R.slots)
      (fun P _ v B => ∃ L, QV Z x N bs h n0 v B.U.heap L ∧ B.locs = P.locs ++ L ∧ B.cells = P.cells + 1 ∧ B.slots = P.slots + n) := by
  subst hn hN hb
  refine Back.mono (backArv hZ hw wi E V C K S hz (n32 (by omega)) l0 (by omega) (fun c hc => (hp c hc).2) hfr hlo) (fun P a hp => hp) (fun P a v B hp hq => ?_)
  obtain ⟨L, ⟨q1, q2, q3, q4, q5, q6, q7, ⟨kb, v1, v2⟩, q9⟩, hl, hc, hs⟩ := hq
  exact ⟨L, ⟨q1, fun y hy => by rw [q2 y hy]; exact hx0, q3, q5, q7, h.size, kb, hh0, Nat.le_refl _, Nat.ne_of_gt E.lt, q6, by rw [List.map_map]; exact v2⟩, hl, hc, hs⟩
end StrChars.Road
namespace StrChars
open Jvm Sem ClassFile Op Lib Jvm.Stand Jvm.Free.XT Jvm.Free.ALB Jvm.Free.JM Jvm.Free
open Jvm.Lib.Cold (StaticIs)
def hi8 (x : Int32) : Int32 := lo8 (x >>> ((8 : Int32) &&& 31))
/-- what StringUTF16.getChar makes of two bytes -/
def pairCh (u v : Int32) : Int32 := (((u &&& 255) <<< ((0 : Int32) &&& 31)) ||| ((v &&& 255) <<< ((8 : Int32) &&& 31))).toUInt32.toUInt16.toUInt32.toInt32
theorem lo8_and (x : Int32) : (lo8 x &&& 255).toBitVec.toNat = x.toBitVec.toNat % 256 := by
  have h : (lo8 x).toBitVec = (x.toBitVec.signExtend 8).signExtend 32 := by rw [lo8, Int8.toBitVec_toInt32, Int32.toBitVec_toInt8]
  rw [Int32.toBitVec_and, BitVec.toNat_and, h]
  have e : ((x.toBitVec.signExtend 8).signExtend 32).toNat % 256 = x.toBitVec.toNat % 256 := by
    rw [BitVec.toNat_signExtend]
    have hlt := x.toBitVec.isLt
    simp only [BitVec.toNat_setWidth, BitVec.toNat_signExtend]
    split <;> split <;> omega
  rw [← e]
  exact Nat.and_two_pow_sub_one_eq_mod _ 8
theorem pair_says {c : Int32} (h0 : ¬ c < 0) (h1 : ¬ 65535 < c) : pairCh (lo8 c) (hi8 c) = c := by
  rw [Int32.lt_iff_toInt_lt] at h0 h1
  have e0 : (0 : Int32).toInt = 0 := rfl
  have e1 : (65535 : Int32).toInt = 65535 := rfl
  have hc : c.toInt = c.toBitVec.toNat := by
    have := c.toBitVec.isLt
    have e : c.toInt = c.toBitVec.toInt := rfl
    rw [e] at h0 h1
    rw [e]
    rw [BitVec.toInt_eq_toNat_cond] at h0 h1 ⊢
    split at h0 <;> split <;> omega
  have hn : c.toBitVec.toNat < 65536 := by omega
  have a1 := lo8_and c
  have a2 : (hi8 c &&& 255).toBitVec.toNat = c.toBitVec.toNat / 256 := by
    rw [hi8, lo8_and]
    have e : ((8 : Int32) &&& 31) = 8 := by decide
    rw [e, Int32.toBitVec_shiftRight]
    have e2 : ((8 : Int32).toBitVec.smod 32) = 8#32 := by decide
    rw [e2, BitVec.sshiftRight_eq', BitVec.toNat_sshiftRight_of_msb_false (by rw [BitVec.msb_eq_false_iff_two_mul_lt]; omega)]
    show c.toBitVec.toNat >>> 8 % 256 = _
    rw [Nat.shiftRight_eq_div_pow]
    omega
  unfold pairCh
  apply Int32.toBitVec_inj.mp
  apply BitVec.eq_of_toNat_eq
  have f0 : ((0 : Int32) &&& 31) = 0 := by decide
  have f8 : ((8 : Int32) &&& 31) = 8 := by decide
  rw [f0, f8]
  have g : (((lo8 c &&& 255) <<< (0 : Int32)) ||| ((hi8 c &&& 255) <<< (8 : Int32))).toBitVec.toNat = c.toBitVec.toNat := by
    rw [Int32.toBitVec_or, Int32.toBitVec_shiftLeft, Int32.toBitVec_shiftLeft]
    have s0 : ((0 : Int32).toBitVec.smod 32) = 0#32 := by decide
    have s8 : ((8 : Int32).toBitVec.smod 32) = 8#32 := by decide
    rw [s0, s8, BitVec.toNat_or]
    simp only [BitVec.shiftLeft_eq', BitVec.toNat_shiftLeft, a1, a2]
    show (c.toBitVec.toNat % 256) <<< 0 % 2 ^ 32 ||| (c.toBitVec.toNat / 256) <<< 8 % 2 ^ 32 = _
    rw [Nat.shiftLeft_zero, Nat.mod_eq_of_lt (show c.toBitVec.toNat % 256 < 2 ^ 32 by omega), Nat.mod_eq_of_lt (show (c.toBitVec.toNat / 256) <<< 8 < 2 ^ 32 by rw [Nat.shiftLeft_eq]; omega), Nat.or_comm, ← Nat.shiftLeft_add_eq_or_of_lt (by omega), Nat.shiftLeft_eq]
    omega
  show BitVec.toNat (((((lo8 c &&& 255) <<< (0 : Int32)) ||| ((hi8 c &&& 255) <<< (8 : Int32))).toBitVec.setWidth 16).setWidth 32) = _
  rw [BitVec.toNat_setWidth, BitVec.toNat_setWidth, g]
  omega
end StrChars
namespace StrChars
open Jvm Sem ClassFile Op Lib Jvm.Stand Jvm.Free.XT Jvm.Free.ALB Jvm.Free.JM Jvm.Free
open Jvm.Lib.Cold (StaticIs)
/-- the array's cell V codes the n chars f 0 .. f (n - 1) by the coder cd, as the JDK does: coder 1 just where some char is above 255 -/
def Cod (cd : Int32) (n : Nat) (f : Nat → Int32) (V : Cell) : Prop := (cd = 0 ∧ V.slots.size = n ∧ ∀ j, j < n → V.slots[j]? = some (.int (lo8 (f j))) ∧ ¬ 255 < f j) ∨ (cd = 1 ∧ V.slots.size = 2 * n ∧ (∀ j, j < n → V.slots[2 * j]? = some (.int (lo8 (f j))) ∧ V.slots[2 * j + 1]? = some (.int (hi8 (f j)))) ∧ ∃ j, j < n ∧ 255 < f j)
/-- **x is a String of the n chars f 0 .. f (n - 1)**, Latin-1 or UTF-16; its array at t has the cell V -/
def Txt (x t : Addr) (V : Cell) (cd : Int32) (n : Nat) (f : Nat → Int32) (U : State) : Prop := Exact "java/lang/String" x U ∧ Has x "java/lang/String" "value" "[B" (.ref t) U ∧ Has x "java/lang/String" "coder" "B" (.int cd) U ∧ XT.Arr .byte t V U ∧ Cod cd n f V ∧ ∀ j, j < n → ¬ f j < 0 ∧ ¬ 65535 < f j
theorem Txt.mv {x t : Addr} {V : Cell} {cd : Int32} {n : Nat} {f : Nat → Int32} {U U' : State} (h : Txt x t V cd n f U) (hal : U.vm.Alike U'.vm) (hh : U'.heap = U.heap) : Txt x t V cd n f U' := ⟨h.1.mv hal hh, h.2.1.mv hal hh, h.2.2.1.mv hal hh, h.2.2.2.1.mv hal hh, h.2.2.2.2⟩
end StrChars
namespace StrChars.Road
open Jvm Sem ClassFile Op Lib Jvm.Stand Jvm.Free Jvm.Free.XT
open Jvm.Lib.Cold (StaticIs)
theorem consq {a : Array Value} {s : State} {c : Jvm.Cond} {L : List Jvm.Cond} (h0 : c.before a s = true) (h : ∀ w ∈ L, w.before a s = true) : ∀ w ∈ c :: L, w.before a s = true := fun w hw => (List.mem_cons.mp hw).elim (fun e => e ▸ h0) (h w)
/-- the bytes of the chars cs, low before high -/
def wideBytes : List Int32 → List Value
  | [] => []
  | c :: cs => .int (lo8 c) :: .int (hi8 c) :: wideBytes cs
theorem wide_lo (d : Value) : ∀ (cs : List Int32) (j : Nat), j < cs.length → (wideBytes cs).getD (2 * j) d = .int (lo8 (cs.getD j 0))
  | [], j, h => absurd h (Nat.not_lt_zero j)
  | c :: cs, 0, _ => rfl
  | c :: cs, j + 1, h => by
    have q := wide_lo d cs j (by simpa using h)
    rw [show 2 * (j + 1) = 2 * j + 1 + 1 from by omega]
    simpa [wideBytes] using q
theorem wide_hi (d : Value) : ∀ (cs : List Int32) (j : Nat), j < cs.length → (wideBytes cs).getD (2 * j + 1) d = .int (hi8 (cs.getD j 0))
  | [], j, h => absurd h (Nat.not_lt_zero j)
  | c :: cs, 0, _ => rfl
  | c :: cs, j + 1, h => by
    have q := wide_hi d cs j (by simpa using h)
    rw [show 2 * (j + 1) + 1 = 2 * j + 1 + 1 + 1 from by omega]
    simpa [wideBytes] using q
theorem low_at (d : Value) (cs : List Int32) (j : Nat) (h : j < cs.length) : (cs.map fun c => Value.int (lo8 c)).getD j d = .int (lo8 (cs.getD j 0)) := by
  simp [List.getD_eq_getElem?_getD, h]
/-- an array of N2 bytes vs codes the chars cs by the coder cd -/
def CodA (cs : List Int32) (cd N2 : Int32) (vs : List Value) : Prop := (cd = 0 ∧ N2 = Int32.ofNat cs.length ∧ vs = (cs.map fun c => Value.int (lo8 c)) ∧ ∀ c ∈ cs, ¬ 255 < c) ∨ (cd = 1 ∧ N2 = Int32.ofNat (2 * cs.length) ∧ vs = wideBytes cs ∧ ∃ c ∈ cs, 255 < c)
theorem CodA.cod {cs : List Int32} {cd N2 : Int32} {vs : List Value} {V : Cell} (h : CodA cs cd N2 vs) (hn : 2 * cs.length < 2 ^ 31) (hs : V.slots.size = N2.toNatClampNeg) (hv : RoadKit.Has V vs (.int 0)) : Cod cd cs.length (fun j => cs.getD j 0) V := by
  rcases h with ⟨rfl, rfl, rfl, h⟩ | ⟨rfl, rfl, rfl, c, hc, hw⟩
  · rw [n32 (by omega)] at hs
    exact Or.inl ⟨rfl, hs, fun j hj => ⟨by rw [hv j (by omega), low_at _ _ _ hj], by
      have e : cs.getD j 0 = cs[j] := by simp [List.getD_eq_getElem?_getD, hj]
      show ¬ 255 < cs.getD j 0
      rw [e]; exact h _ (List.getElem_mem _)⟩⟩
  · rw [n32 (by omega)] at hs
    obtain ⟨j, hj, rfl⟩ := List.getElem_of_mem hc
    exact Or.inr ⟨rfl, hs, fun j hj => ⟨by rw [hv _ (by omega), wide_lo _ _ _ hj], by rw [hv _ (by omega), wide_hi _ _ _ hj]⟩, j, hj, by
      have e : cs.getD j 0 = cs[j] := by simp [List.getD_eq_getElem?_getD, hj]
      show 255 < cs.getD j 0
      rw [e]; exact hw⟩
/-- an object of exactly java/lang/String, its two fields found: as the laws ask it -/
theorem strObj {Z U : State} {a0 : Array Value} {kI : Nat} (wi : (Jvm.Cond.instantiable ST kI).before a0 Z = true) (al : Z.vm.Alike U.vm) {x : Addr} {v0 c0 : Value} (E : RoadKit.Exa Z U.heap x ST) (V : RoadKit.Fld Z U.heap x ST "value" "[B" v0) (C : RoadKit.Fld Z U.heap x ST "coder" "B" c0) :
    ∃ (D : Cell) (fV fC : Field), Blank ST x D U ∧ Found ST "value" "[B" fV U ∧ Found ST "coder" "B" fC U ∧ D.slots[fV.slot]? = some v0 ∧ D.slots[fC.slot]? = some c0 ∧ RoadKit.slotOf Z ST "value" "[B" = fV.slot ∧ RoadKit.slotOf Z ST "coder" "B" = fC.slot := by
  obtain ⟨D, cfV, kV, iV, fV, hD, gV, stV, knV, obV, asV, slV⟩ := V
  obtain ⟨D', cfC, kC, iC, fC, hD', gC, stC, -, -, asC, slC⟩ := C
  cases hD.symm.trans hD'
  obtain ⟨D2, kD, e1, e2, e3, e4, e5⟩ := E
  cases hD.symm.trans e1
  obtain ⟨c2, k2, i1, i2, i3, -⟩ := Cond.instantiable_spec wi
  cases e2.symm.trans i1
  cases e3.symm.trans i2
  obtain ⟨kU, u1, u2⟩ := al.2.2 _ _ e3
  exact ⟨D, fV, fC, ⟨hD, ⟨knV, fun q hq => by rw [hq] at obV; cases obV⟩, by rw [al.findClass]; exact e2, kU, u1, by rw [u2]; exact i3, by rw [u2]; exact e5 i3⟩, ⟨SBG.found_only al ⟨cfV, kV, iV, gV⟩, stV⟩, ⟨SBG.found_only al ⟨cfC, kC, iC, gC⟩, stC⟩, slV, slC, by simp [RoadKit.slotOf, gV], by simp [RoadKit.slotOf, gC]⟩
theorem sta_is {Z U : State} (al : Z.vm.Alike U.vm) {C n d : String} {v : Value} (S : RoadKit.Sta Z U.heap C n d v) : StaticIs U C n d v := by
  obtain ⟨cfS, iS, kS, fS, st, cS, t1, t2, t3, t4, t5, t6, t7⟩ := S
  exact StaticIs.there (s := { Z with heap := U.heap }) ⟨cfS, iS, kS, fS, st, cS, t1, t2, t3, t4, t5, (fun q => by rw [q] at t6; cases t6), t7⟩ al rfl
end StrChars.Road
namespace StrChars
open Jvm Sem ClassFile Op Lib Jvm.Stand Jvm.Free.XT Jvm.Free.ALB Jvm.Free.JM Jvm.Free
open Jvm.Lib.Cold (StaticIs)
/-- what place i of a byte[]'s cell holds -/
def yv (A : Cell) (i : Nat) : Int32 := match A.slots[i]? with | some (.int x) => x | _ => 0
theorem yv_get {a : Addr} {A : Cell} {U : State} (h : XT.Arr .byte a A U) (ht : Typed .byte A) {i : Nat} (hi : i < A.slots.size) : A.slots[i]? = some (.int (yv A i)) := by
  have e := Array.getElem?_eq_getElem hi
  have f := ht i _ e
  unfold yv; rw [e]
  generalize A.slots[i] = v at f
  cases v <;> simp [fits] at f ⊢
/-- the two arrays are equal, place for place -/
def EqC (A B : Cell) : Prop := A.slots.size = B.slots.size ∧ ∀ i, i < A.slots.size → yv A i = yv B i
/-- a boolean that says whether p -/
def Says01 (q : Prop) (r : Option Value) (s u : State) : Prop := ∃ v : Int32, r = some (.int v) ∧ u.heap = s.heap ∧ ((v = 1 ∧ q) ∨ (v = 0 ∧ ¬ q))
theorem Says01.mv {q : Prop} : ∀ r (U U' V V' : State), U'.heap = U.heap → V.vm.Alike V'.vm → V'.heap = V.heap → Says01 q r U V → Says01 q r U' V' :=
  fun r U U' V V' h1 _ h2 ⟨v, a, b, c⟩ => ⟨v, a, by rw [h1, h2]; exact b, c⟩
namespace LEq
def yN : MethodName := ⟨"java/lang/StringLatin1", "equals", "([B[B)Z"⟩
abbrev yB : ByteArray := jdk_43_method_13_code
theorem d0 : decode yB 0 = .ok (.aload_n 0, 1) := by decide +kernel
theorem d1 : decode yB 1 = .ok (.arraylength, 1) := by decide +kernel
theorem d2 : decode yB 2 = .ok (.aload_n 1, 1) := by decide +kernel
theorem d3 : decode yB 3 = .ok (.arraylength, 1) := by decide +kernel
theorem d4 : decode yB 4 = .ok (.if_icmp (.ne) 30, 3) := by decide +kernel
theorem d7 : decode yB 7 = .ok (.iconst 0, 1) := by decide +kernel
theorem d8 : decode yB 8 = .ok (.istore_n 2, 1) := by decide +kernel
theorem d9 : decode yB 9 = .ok (.iload_n 2, 1) := by decide +kernel
theorem d10 : decode yB 10 = .ok (.aload_n 0, 1) := by decide +kernel
theorem d11 : decode yB 11 = .ok (.arraylength, 1) := by decide +kernel
theorem d12 : decode yB 12 = .ok (.if_icmp (.ge) 20, 3) := by decide +kernel
theorem d15 : decode yB 15 = .ok (.aload_n 0, 1) := by decide +kernel
theorem d16 : decode yB 16 = .ok (.iload_n 2, 1) := by decide +kernel
theorem d17 : decode yB 17 = .ok (.baload, 1) := by decide +kernel
theorem d18 : decode yB 18 = .ok (.aload_n 1, 1) := by decide +kernel
theorem d19 : decode yB 19 = .ok (.iload_n 2, 1) := by decide +kernel
theorem d20 : decode yB 20 = .ok (.baload, 1) := by decide +kernel
theorem d21 : decode yB 21 = .ok (.if_icmp (.eq) 5, 3) := by decide +kernel
theorem d24 : decode yB 24 = .ok (.iconst 0, 1) := by decide +kernel
theorem d25 : decode yB 25 = .ok (.ireturn, 1) := by decide +kernel
theorem d26 : decode yB 26 = .ok (.iinc 2 1, 3) := by decide +kernel
theorem d29 : decode yB 29 = .ok (.goto (-20), 3) := by decide +kernel
theorem d32 : decode yB 32 = .ok (.iconst 1, 1) := by decide +kernel
theorem d33 : decode yB 33 = .ok (.ireturn, 1) := by decide +kernel
theorem d34 : decode yB 34 = .ok (.iconst 0, 1) := by decide +kernel
theorem d35 : decode yB 35 = .ok (.ireturn, 1) := by decide +kernel
def site : List Cond := []
def tab : Cond := tabOf yN yB 3 (some .boolean) site
def P (a : Addr) (A : Cell) (b : Addr) (B : Cell) (args : Array Value) (s : State) : Prop := args = #[.ref a, .ref b] ∧ XT.Arr .byte a A s ∧ Typed .byte A ∧ XT.Arr .byte b B s ∧ Typed .byte B
/-- whether two byte[] are equal, place for place -/
theorem law (l : Launch) (a : Addr) (A : Cell) (b : Addr) (B : Cell) : Law l yN 2 2 0 0 yB 3 (some .boolean) site (P a A b B) (Says01 (EqC A B)) [] 0 0 := by
  refine Law.of_walk (plainFor_of_name (by decide +kernel)) (by decide +kernel) (by decide +kernel) (by decide) (fun _ _ h => by rw [h.1]; rfl) (fun _ U U' hal hh h => ⟨h.1, h.2.1.mv hal hh, h.2.2.1, h.2.2.2.1.mv hal hh, h.2.2.2.2⟩) (fun r U U' V V' h1 hal h2 h => Says01.mv r U U' V V' h1 hal h2 h) ?_
  intro p e s m args below meth c s₁ X0 hexec hbytes hml hret hlk hnm hown hh0 W hP
  obtain ⟨rfl, hA, tA, hB, tB⟩ := hP
  have a31 := hA.2.2.2
  have b31 := hB.2.2.2
  have hA0 := hA.mv X0.warmed.alike hh0
  have hB0 := hB.mv X0.warmed.alike hh0
  have c1 : Steps p.tables e below (s₁.setTop (entryFrame m #[.ref a, .ref b] 3)) (s₁.setTop (mkF m 0 #[.val (.ref a), .val (.ref b), .unset] [])) := entry rfl
  have c2 : Steps p.tables e below (s₁.setTop (entryFrame m #[.ref a, .ref b] 3)) (s₁.setTop (mkF m 4 #[.val (.ref a), .val (.ref b), .unset] [.int (Int32.ofNat B.slots.size), .int (Int32.ofNat A.slots.size)])) := c1.trans (by
    refine XS.aloadN X0.here hexec rfl (hb hbytes d0) rfl rfl ?_
    refine X0.alen hexec hA0 rfl rfl (hb hbytes d1) ?_
    refine XS.aloadN X0.here hexec rfl (hb hbytes d2) rfl rfl ?_
    refine X0.alen hexec hB0 rfl rfl (hb hbytes d3) ?_
    exact Steps.refl _)
  by_cases hs : A.slots.size = B.slots.size
  · have c3 : Steps p.tables e below (s₁.setTop (entryFrame m #[.ref a, .ref b] 3)) (s₁.setTop (mkF m 9 #[.val (.ref a), .val (.ref b), .val (.int 0)] [])) := c2.trans (by
      refine XS.icmpNo X0.here hexec rfl (hb hbytes d4) rfl (ii_ne_f (by rw [hs])) ?_
      refine iconstV X0.here hexec rfl 0 (hb hbytes d7) (by decide) ?_
      refine XS.istoreN X0.here hexec rfl (hb hbytes d8) rfl rfl ?_
      exact Steps.refl _)
    have loop : ∀ (r i : Nat), i + r = A.slots.size → (∀ j, j < i → yv A j = yv B j) → Steps p.tables e below (s₁.setTop (entryFrame m #[.ref a, .ref b] 3)) (s₁.setTop (mkF m 9 #[.val (.ref a), .val (.ref b), .val (.int (Int32.ofNat i))] [])) → ∃ (pc : Nat) (Ls : Array Slot) (v : Int32), (pc = 25 ∨ pc = 33) ∧ ((v = 1 ∧ EqC A B) ∨ (v = 0 ∧ ¬ EqC A B)) ∧ Steps p.tables e below (s₁.setTop (entryFrame m #[.ref a, .ref b] 3)) (s₁.setTop (mkF m pc Ls [.int v])) := by
      intro r
      induction r with
      | zero =>
        intro i hi he cl
        exact ⟨33, _, 1, Or.inr rfl, Or.inl ⟨rfl, hs, fun j hj => he j (by omega)⟩, cl.trans (by
          refine XS.iloadN X0.here hexec rfl (hb hbytes d9) rfl ?_
          refine XS.aloadN X0.here hexec rfl (hb hbytes d10) rfl rfl ?_
          refine X0.alen hexec hA0 rfl rfl (hb hbytes d11) ?_
          refine XS.icmpYes X0.here hexec rfl (pc0 := 12) rfl (hb hbytes d12) rfl (ii_ge_t (nlt32 (by omega) (by omega))) (by decide) rfl ?_
          refine iconstV X0.here hexec rfl 1 (hb hbytes d32) (by decide) ?_
          exact Steps.refl _)⟩
      | succ r ih =>
        intro i hi he cl
        have c4 : Steps p.tables e below (s₁.setTop (entryFrame m #[.ref a, .ref b] 3)) (s₁.setTop (mkF m 21 #[.val (.ref a), .val (.ref b), .val (.int (Int32.ofNat i))] [.int (yv B i), .int (yv A i)])) := cl.trans (by
          refine XS.iloadN X0.here hexec rfl (hb hbytes d9) rfl ?_
          refine XS.aloadN X0.here hexec rfl (hb hbytes d10) rfl rfl ?_
          refine X0.alen hexec hA0 rfl rfl (hb hbytes d11) ?_
          refine XS.icmpNo X0.here hexec rfl (hb hbytes d12) rfl (ii_ge_f (lt32 (by omega) (by omega))) ?_
          refine XS.aloadN X0.here hexec rfl (hb hbytes d15) rfl rfl ?_
          refine XS.iloadN X0.here hexec rfl (hb hbytes d16) rfl ?_
          refine X0.aget hexec hA0 rfl (yv_get hA tA (i := i) (by omega)) rfl rfl (hb hbytes d17) ?_
          refine XS.aloadN X0.here hexec rfl (hb hbytes d18) rfl rfl ?_
          refine XS.iloadN X0.here hexec rfl (hb hbytes d19) rfl ?_
          refine X0.aget hexec hB0 rfl (yv_get hB tB (i := i) (by omega)) rfl rfl (hb hbytes d20) ?_
          exact Steps.refl _)
        by_cases hv : yv A i = yv B i
        · have c5 : Steps p.tables e below (s₁.setTop (entryFrame m #[.ref a, .ref b] 3)) (s₁.setTop (mkF m 9 #[.val (.ref a), .val (.ref b), .val (.int (Int32.ofNat i + 1))] [])) := c4.trans (by
            refine XS.icmpYes X0.here hexec rfl (pc0 := 21) rfl (hb hbytes d21) rfl (ii_eq_t hv) (by decide) rfl ?_
            refine iincV X0.here hexec rfl 1 (hb hbytes d26) (by decide) rfl rfl ?_
            refine XS.goto X0.here hexec rfl (pc0 := 29) rfl (hb hbytes d29) (by decide) rfl ?_
            exact Steps.refl _)
          rw [succ32] at c5
          exact ih (i + 1) (by omega) (fun j hj => by
            by_cases e : j = i
            · rw [e]; exact hv
            · exact he j (by omega)) c5
        · exact ⟨25, _, 0, Or.inl rfl, Or.inr ⟨rfl, fun q => hv (q.2 i (by omega))⟩, c4.trans (by
            refine XS.icmpNo X0.here hexec rfl (hb hbytes d21) rfl (ii_eq_f hv) ?_
            refine iconstV X0.here hexec rfl 0 (hb hbytes d24) (by decide) ?_
            exact Steps.refl _)⟩
    obtain ⟨pc, Ls, v, hpc, hv, cz⟩ := loop A.slots.size 0 (by omega) (fun j hj => absurd hj (Nat.not_lt_zero j)) c3
    have nv : narrow .boolean (.int v) = .int v := by rcases hv with ⟨rfl, -⟩ | ⟨rfl, -⟩ <;> rfl
    rcases hpc with rfl | rfl
    · exact ⟨s₁, some (.int v), _, _, _, X0, rfl, rfl, rfl, (fun h => by cases h), ⟨v, rfl, hh0, hv⟩, fun fs hl => cz.trans (X0.ireturnOut hexec hret nv (Or.inr (Or.inl rfl)) (hb hbytes d25) hl)⟩
    · exact ⟨s₁, some (.int v), _, _, _, X0, rfl, rfl, rfl, (fun h => by cases h), ⟨v, rfl, hh0, hv⟩, fun fs hl => cz.trans (X0.ireturnOut hexec hret nv (Or.inr (Or.inl rfl)) (hb hbytes d33) hl)⟩
  · have c3 : Steps p.tables e below (s₁.setTop (entryFrame m #[.ref a, .ref b] 3)) (s₁.setTop (mkF m 35 #[.val (.ref a), .val (.ref b), .unset] [.int 0])) := c2.trans (by
      refine XS.icmpYes X0.here hexec rfl (pc0 := 4) rfl (hb hbytes d4) rfl (ii_ne_t (ne32 a31 b31 hs)) (by decide) rfl ?_
      refine iconstV X0.here hexec rfl 0 (hb hbytes d34) (by decide) ?_
      exact Steps.refl _)
    exact ⟨s₁, some (.int 0), _, _, _, X0, rfl, rfl, rfl, (fun h => by cases h), ⟨0, rfl, hh0, Or.inr ⟨rfl, fun q => hs q.1⟩⟩, fun fs hl => c3.trans (X0.ireturnOut hexec hret rfl (Or.inr (Or.inl rfl)) (hb hbytes d35) hl)⟩
end LEq
theorem Cod.ty {cd : Int32} {n : Nat} {f : Nat → Int32} {V : Cell} (h : Cod cd n f V) : Typed .byte V := fun i v hv => by
  have hi : i < V.slots.size := (Array.getElem?_eq_some_iff.mp hv).1
  rcases h with ⟨-, k1, k2⟩ | ⟨-, k1, k2, -⟩
  · rw [(k2 i (by omega)).1] at hv; cases hv; exact fits_lo8 _
  · rcases Nat.mod_two_eq_zero_or_one i with e | e
    · obtain ⟨j, rfl⟩ : ∃ j, i = 2 * j := ⟨i / 2, by omega⟩
      rw [(k2 j (by omega)).1] at hv; cases hv; exact fits_lo8 _
    · obtain ⟨j, rfl⟩ : ∃ j, i = 2 * j + 1 := ⟨i / 2, by omega⟩
      rw [(k2 j (by omega)).2] at hv; cases hv; exact fits_lo8 _
/-- the same text -/
def SameT (n : Nat) (f : Nat → Int32) (k : Nat) (g : Nat → Int32) : Prop := n = k ∧ ∀ j, j < n → f j = g j
theorem lo8_inj {x y : Int32} (h0 : ¬ x < 0) (h1 : ¬ 255 < x) (k0 : ¬ y < 0) (k1 : ¬ 255 < y) (h : lo8 x = lo8 y) : x = y := by
  rw [← lo8_mask h0 h1, ← lo8_mask k0 k1, h]
/-- arrays coded by one coder are equal just where the texts are -/
theorem Cod.eqv {cd : Int32} {n k : Nat} {f g : Nat → Int32} {V V' : Cell} (h : Cod cd n f V) (h' : Cod cd k g V') (hf : ∀ j, j < n → ¬ f j < 0 ∧ ¬ 65535 < f j) (hg : ∀ j, j < k → ¬ g j < 0 ∧ ¬ 65535 < g j) : EqC V V' ↔ SameT n f k g := by
  have yvv : ∀ {W : Cell} {i : Nat} {x : Int32}, W.slots[i]? = some (.int x) → yv W i = x := fun q => by unfold yv; rw [q]
  rcases h with ⟨rfl, k1, k2⟩ | ⟨rfl, k1, k2, -⟩
  · rcases h' with ⟨-, m1, m2⟩ | ⟨e, -⟩
    · constructor
      · rintro ⟨e1, e2⟩
        refine ⟨by omega, fun j hj => ?_⟩
        have q := e2 j (by omega)
        rw [yvv (k2 j hj).1, yvv (m2 j (by omega)).1] at q
        exact lo8_inj (hf j hj).1 (k2 j hj).2 (hg j (by omega)).1 (m2 j (by omega)).2 q
      · rintro ⟨rfl, e2⟩
        refine ⟨by omega, fun j hj => ?_⟩
        rw [yvv (k2 j (by omega)).1, yvv (m2 j (by omega)).1, e2 j (by omega)]
    · exact absurd e (by decide)
  · rcases h' with ⟨e, -⟩ | ⟨-, m1, m2, -⟩
    · exact absurd e (by decide)
    · constructor
      · rintro ⟨e1, e2⟩
        refine ⟨by omega, fun j hj => ?_⟩
        have q1 := e2 (2 * j) (by omega)
        have q2 := e2 (2 * j + 1) (by omega)
        rw [yvv (k2 j hj).1, yvv (m2 j (by omega)).1] at q1
        rw [yvv (k2 j hj).2, yvv (m2 j (by omega)).2] at q2
        rw [← pair_says (hf j hj).1 (hf j hj).2, ← pair_says (hg j (by omega)).1 (hg j (by omega)).2, q1, q2]
      · rintro ⟨rfl, e2⟩
        refine ⟨by omega, fun i hi => ?_⟩
        rcases Nat.mod_two_eq_zero_or_one i with e | e
        · obtain ⟨j, rfl⟩ : ∃ j, i = 2 * j := ⟨i / 2, by omega⟩
          rw [yvv (k2 j (by omega)).1, yvv (m2 j (by omega)).1, e2 j (by omega)]
        · obtain ⟨j, rfl⟩ : ∃ j, i = 2 * j + 1 := ⟨i / 2, by omega⟩
          rw [yvv (k2 j (by omega)).2, yvv (m2 j (by omega)).2, e2 j (by omega)]
/-- two codings differ: so do the texts -/
theorem Cod.dif {cd cd' : Int32} {n k : Nat} {f g : Nat → Int32} {V V' : Cell} (h : Cod cd n f V) (h' : Cod cd' k g V') (hne : ¬ cd = cd') : ¬ SameT n f k g := by
  rintro ⟨rfl, e⟩
  rcases h with ⟨rfl, -, k2⟩ | ⟨rfl, -, -, j, hj, hw⟩
  · rcases h' with ⟨rfl, -⟩ | ⟨-, -, -, j, hj, hw⟩
    · exact hne rfl
    · exact (k2 j hj).2 (by rw [e j hj]; exact hw)
  · rcases h' with ⟨-, -, m2⟩ | ⟨rfl, -⟩
    · exact (m2 j hj).2 (by rw [← e j hj]; exact hw)
    · exact hne rfl
/-- an object of exactly C is an instance of C -/
theorem cinst {p : Program} {l : Launch} {e : Env} {R : Room} {s : State} {m : MethodId} {args : Array Value} {below : List Frame} {meth : Method} {c : Code} {T : State} {locs : List Loc} {cells slots : Nat} (X : Stand p l e R s m args below meth c T locs cells slots) (hexec : p.tables.exec = Jvm.exec) {own C : String} {index : Nat} (hown : s.vm.findClass own = some m.cls) (hlink : (Cond.classLink own index C).before args s = true) {a : Addr} (hE : Exact C a T)
    {g : JFrame} (hg : g.method = m) {rest : List Value} (hstack : g.stack = .ref a :: rest) (hdg : decode c.code g.pc = .ok (.instanceof index, 3)) :
    ∃ T', Stand p l e R s m args below meth c T' locs cells slots ∧ T'.heap = T.heap ∧ ∀ target, Steps p.tables e below (T'.setTop { g with pc := g.pc + 3, stack := .int 1 :: rest }) target → Steps p.tables e below (T.setTop g) target := by
  obtain ⟨cB, h1, D, h2, h3, h4⟩ := hE
  have h1' : s.vm.findClass C = some cB := by rw [← X.warmed.alike.findClass]; exact h1
  obtain ⟨vm', X', st⟩ := X.instanceofYes hexec hown hlink h2 h4 h1' (by rw [h3]; exact Jvm.Free.SB.assignable_self _ _) hg hstack hdg
  exact ⟨_, X', rfl, st⟩
theorem cself {p : Program} {l : Launch} {e : Env} {R : Room} {s : State} {m : MethodId} {args : Array Value} {below : List Frame} {meth : Method} {c : Code} {T : State} {locs : List Loc} {cells slots : Nat} (X : Stand p l e R s m args below meth c T locs cells slots) (hexec : p.tables.exec = Jvm.exec) {own C : String} {index : Nat} (hown : s.vm.findClass own = some m.cls) (hlink : (Cond.classLink own index C).before args s = true) {a : Addr} (hE : Exact C a T)
    {g : JFrame} (hg : g.method = m) {rest : List Value} (hstack : g.stack = .ref a :: rest) (hdg : decode c.code g.pc = .ok (.checkcast index, 3)) :
    ∃ T', Stand p l e R s m args below meth c T' locs cells slots ∧ T'.heap = T.heap ∧ ∀ target, Steps p.tables e below (T'.setTop { g with pc := g.pc + 3, stack := .ref a :: rest }) target → Steps p.tables e below (T.setTop g) target := by
  obtain ⟨cB, h1, D, h2, h3, h4⟩ := hE
  have h1' : s.vm.findClass C = some cB := by rw [← X.warmed.alike.findClass]; exact h1
  obtain ⟨vm', X', st⟩ := X.checkcastYes hexec hown hlink h2 h4 h1' (by rw [h3]; exact Jvm.Free.SB.assignable_self _ _) hg hstack hdg
  exact ⟨_, X', rfl, fun t h => st t (by rw [← hstack] at h; exact h)⟩
namespace SEq
def yN : MethodName := ⟨"java/lang/String", "equals", "(Ljava/lang/Object;)Z"⟩
abbrev yB : ByteArray := jdk_42_method_66_code
theorem d0 : decode yB 0 = .ok (.aload_n 0, 1) := by decide +kernel
theorem d1 : decode yB 1 = .ok (.aload_n 1, 1) := by decide +kernel
theorem d2 : decode yB 2 = .ok (.if_acmp (.ne) 5, 3) := by decide +kernel
theorem d5 : decode yB 5 = .ok (.iconst 1, 1) := by decide +kernel
theorem d6 : decode yB 6 = .ok (.ireturn, 1) := by decide +kernel
theorem d7 : decode yB 7 = .ok (.aload_n 1, 1) := by decide +kernel
theorem d8 : decode yB 8 = .ok (.instanceof 10, 3) := by decide +kernel
theorem d11 : decode yB 11 = .ok (.ifCond (.eq) 43, 3) := by decide +kernel
theorem d14 : decode yB 14 = .ok (.aload_n 1, 1) := by decide +kernel
theorem d15 : decode yB 15 = .ok (.checkcast 10, 3) := by decide +kernel
theorem d18 : decode yB 18 = .ok (.astore_n 2, 1) := by decide +kernel
theorem d19 : decode yB 19 = .ok (.getstatic 38, 3) := by decide +kernel
theorem d22 : decode yB 22 = .ok (.ifCond (.eq) 14, 3) := by decide +kernel
theorem d25 : decode yB 25 = .ok (.aload_n 0, 1) := by decide +kernel
theorem d26 : decode yB 26 = .ok (.getfield 15, 3) := by decide +kernel
theorem d29 : decode yB 29 = .ok (.aload_n 2, 1) := by decide +kernel
theorem d30 : decode yB 30 = .ok (.getfield 15, 3) := by decide +kernel
theorem d33 : decode yB 33 = .ok (.if_icmp (.ne) 21, 3) := by decide +kernel
theorem d36 : decode yB 36 = .ok (.aload_n 0, 1) := by decide +kernel
theorem d37 : decode yB 37 = .ok (.getfield 9, 3) := by decide +kernel
theorem d40 : decode yB 40 = .ok (.aload_n 2, 1) := by decide +kernel
theorem d41 : decode yB 41 = .ok (.getfield 9, 3) := by decide +kernel
theorem d44 : decode yB 44 = .ok (.invokestatic 541, 3) := by decide +kernel
theorem d47 : decode yB 47 = .ok (.ifCond (.eq) 7, 3) := by decide +kernel
theorem d50 : decode yB 50 = .ok (.iconst 1, 1) := by decide +kernel
theorem d51 : decode yB 51 = .ok (.goto 4, 3) := by decide +kernel
theorem d54 : decode yB 54 = .ok (.iconst 0, 1) := by decide +kernel
theorem d55 : decode yB 55 = .ok (.ireturn, 1) := by decide +kernel
def site : List Cond := [.classLink "java/lang/String" 10 "java/lang/String", .fieldLink "java/lang/String" 38 "java/lang/String" "COMPACT_STRINGS" "Z", .fieldLink "java/lang/String" 15 "java/lang/String" "coder" "B", .fieldLink "java/lang/String" 9 "java/lang/String" "value" "[B", LEq.tab] ++ staticW "java/lang/String" 541 LEq.yN
def tab : Cond := tabOf yN yB 3 (some .boolean) site
def P (x t : Addr) (V : Cell) (cd : Int32) (n : Nat) (f : Nat → Int32) (y t' : Addr) (V' : Cell) (cd' : Int32) (k : Nat) (g : Nat → Int32) (z : Int32) (args : Array Value) (s : State) : Prop := args = #[.ref x, .ref y] ∧ Txt x t V cd n f s ∧ Txt y t' V' cd' k g s ∧ StaticIs s "java/lang/String" "COMPACT_STRINGS" "Z" (.int z) ∧ ¬ z = 0
/-- equals(Object) of two Strings: whether the texts are the same -/
theorem law (l : Launch) (x t : Addr) (V : Cell) (cd : Int32) (n : Nat) (f : Nat → Int32) (y t' : Addr) (V' : Cell) (cd' : Int32) (k : Nat) (g : Nat → Int32) (z : Int32) : Law l yN 2 1 1 14 yB 3 (some .boolean) site (P x t V cd n f y t' V' cd' k g z) (Says01 (SameT n f k g)) [] 0 0 := by
  refine Law.of_walk (plainFor_of_name (by decide +kernel)) (by decide +kernel) (by decide +kernel) (by decide) (fun _ _ h => by rw [h.1]; rfl) (fun _ U U' hal hh h => ⟨h.1, h.2.1.mv hal hh, h.2.2.1.mv hal hh, h.2.2.2.1.there hal hh, h.2.2.2.2⟩) (fun r U U' V V' h1 hal h2 h => Says01.mv r U U' V V' h1 hal h2 h) ?_
  intro p e s m args below meth c s₁ X0 hexec hbytes hml hret hlk hnm hown hh0 W hP
  obtain ⟨rfl, hx, hy, s1, hz⟩ := hP
  have c1 : Steps p.tables e below (s₁.setTop (entryFrame m #[.ref x, .ref y] 3)) (s₁.setTop (mkF m 2 #[.val (.ref x), .val (.ref y), .unset] [.ref y, .ref x])) := Steps.trans (entry rfl) (by
    show Steps p.tables e below (s₁.setTop (mkF m 0 #[.val (.ref x), .val (.ref y), .unset] [])) _
    refine XS.aloadN X0.here hexec rfl (hb hbytes d0) rfl rfl ?_
    refine XS.aloadN X0.here hexec rfl (hb hbytes d1) rfl rfl ?_
    exact Steps.refl _)
  by_cases hxy : x = y
  · have c2 : Steps p.tables e below (s₁.setTop (entryFrame m #[.ref x, .ref y] 3)) (s₁.setTop (mkF m 6 #[.val (.ref x), .val (.ref y), .unset] [.int 1])) := c1.trans (by
      refine acmpNo X0.here hexec rfl (hb hbytes d2) rfl rfl rfl (by simp [acmp, hxy]) ?_
      refine iconstV X0.here hexec rfl 1 (hb hbytes d5) (by decide) ?_
      exact Steps.refl _)
    subst hxy
    have ec : cd = cd' := by
      obtain ⟨D, fd, a1, a2, a3⟩ := hx.2.2.1
      obtain ⟨D', fd', b1, b2, b3⟩ := hy.2.2.1
      cases a1.symm.trans b1
      obtain ⟨q1, q2, q3, q4⟩ := a2.1
      obtain ⟨r1, r2, r3, r4⟩ := b2.1
      cases q4.symm.trans r4
      cases a3.symm.trans b3; rfl
    have et : t = t' := by
      obtain ⟨D, fd, a1, a2, a3⟩ := hx.2.1
      obtain ⟨D', fd', b1, b2, b3⟩ := hy.2.1
      cases a1.symm.trans b1
      obtain ⟨q1, q2, q3, q4⟩ := a2.1
      obtain ⟨r1, r2, r3, r4⟩ := b2.1
      cases q4.symm.trans r4
      cases a3.symm.trans b3; rfl
    subst ec et
    have ev : V = V' := by cases hx.2.2.2.1.1.symm.trans hy.2.2.2.1.1; rfl
    subst ev
    have hs : SameT n f k g := (Cod.eqv hx.2.2.2.2.1 hy.2.2.2.2.1 hx.2.2.2.2.2 hy.2.2.2.2.2).mp ⟨rfl, fun _ _ => rfl⟩
    exact ⟨s₁, some (.int 1), _, _, _, X0, rfl, rfl, rfl, (fun h => by cases h), ⟨1, rfl, hh0, Or.inl ⟨rfl, hs⟩⟩, fun fs hl => c2.trans (X0.ireturnOut hexec hret rfl (Or.inr (Or.inl rfl)) (hb hbytes d6) hl)⟩
  · have c2 : Steps p.tables e below (s₁.setTop (entryFrame m #[.ref x, .ref y] 3)) (s₁.setTop (mkF m 8 #[.val (.ref x), .val (.ref y), .unset] [.ref y])) := c1.trans (by
      refine acmpYes X0.here hexec rfl (pc0 := 2) rfl (hb hbytes d2) rfl rfl rfl (by simp [acmp, hxy]) (by decide) rfl ?_
      refine XS.aloadN X0.here hexec rfl (hb hbytes d7) rfl rfl ?_
      exact Steps.refl _)
    obtain ⟨T3, X3, q3, st3⟩ := cinst X0 hexec hown (wk W (.classLink "java/lang/String" 10 "java/lang/String")) (hy.mv X0.warmed.alike hh0).1 (g := (mkF m 8 #[.val (.ref x), .val (.ref y), .unset] [.ref y])) rfl (rest := []) rfl (hb hbytes d8)
    have hh3 := q3.trans hh0
    have c4 : Steps p.tables e below (s₁.setTop (entryFrame m #[.ref x, .ref y] 3)) (T3.setTop (mkF m 15 #[.val (.ref x), .val (.ref y), .unset] [.ref y])) := (c2.trans (st3 _ (Steps.refl _))).trans (by
      refine XS.ifNo X3.here hexec rfl (hb hbytes d11) rfl (i0_eq_f (by decide)) ?_
      refine XS.aloadN X3.here hexec rfl (hb hbytes d14) rfl rfl ?_
      exact Steps.refl _)
    obtain ⟨T5, X5, q5, st5⟩ := cself X3 hexec hown (wk W (.classLink "java/lang/String" 10 "java/lang/String")) (hy.mv X3.warmed.alike hh3).1 (g := (mkF m 15 #[.val (.ref x), .val (.ref y), .unset] [.ref y])) rfl (rest := []) rfl (hb hbytes d15)
    have hh5 := q5.trans hh3
    have c6 : Steps p.tables e below (s₁.setTop (entryFrame m #[.ref x, .ref y] 3)) (T5.setTop (mkF m 19 #[.val (.ref x), .val (.ref y), .val (.ref y)] [])) := (c4.trans (st5 _ (Steps.refl _))).trans (by
      refine XS.astoreN X5.here hexec rfl (hb hbytes d18) rfl rfl rfl ?_
      exact Steps.refl _)
    obtain ⟨T7, X7, q7, st7⟩ := X5.sget hexec hown (wk W (.fieldLink "java/lang/String" 38 "java/lang/String" "COMPACT_STRINGS" "Z")) s1 (fun _ _ h => by rw [hh5]; exact h) (g := (mkF m 19 #[.val (.ref x), .val (.ref y), .val (.ref y)] [])) rfl (hb hbytes d19)
    have hh7 := q7.trans hh5
    have c8 : Steps p.tables e below (s₁.setTop (entryFrame m #[.ref x, .ref y] 3)) (T7.setTop (mkF m 26 #[.val (.ref x), .val (.ref y), .val (.ref y)] [.ref x])) := (c6.trans (st7 _ (Steps.refl _))).trans (by
      refine XS.ifNo X7.here hexec rfl (hb hbytes d22) rfl (i0_eq_f hz) ?_
      refine XS.aloadN X7.here hexec rfl (hb hbytes d25) rfl rfl ?_
      exact Steps.refl _)
    obtain ⟨T9, X9, q9, st9⟩ := X7.hget hexec hown (wk W (.fieldLink "java/lang/String" 15 "java/lang/String" "coder" "B")) (hx.mv X7.warmed.alike hh7).2.2.1 (g := (mkF m 26 #[.val (.ref x), .val (.ref y), .val (.ref y)] [.ref x])) rfl (rest := []) rfl (hb hbytes d26)
    have hh9 := q9.trans hh7
    have c10 : Steps p.tables e below (s₁.setTop (entryFrame m #[.ref x, .ref y] 3)) (T9.setTop (mkF m 30 #[.val (.ref x), .val (.ref y), .val (.ref y)] [.ref y, .int cd])) := (c8.trans (st9 _ (Steps.refl _))).trans (by
      refine XS.aloadN X9.here hexec rfl (hb hbytes d29) rfl rfl ?_
      exact Steps.refl _)
    obtain ⟨T11, X11, q11, st11⟩ := X9.hget hexec hown (wk W (.fieldLink "java/lang/String" 15 "java/lang/String" "coder" "B")) (hy.mv X9.warmed.alike hh9).2.2.1 (g := (mkF m 30 #[.val (.ref x), .val (.ref y), .val (.ref y)] [.ref y, .int cd])) rfl (rest := [.int cd]) rfl (hb hbytes d30)
    have hh11 := q11.trans hh9
    have c12 : Steps p.tables e below (s₁.setTop (entryFrame m #[.ref x, .ref y] 3)) (T11.setTop (mkF m 33 #[.val (.ref x), .val (.ref y), .val (.ref y)] [.int cd', .int cd])) := c10.trans (st11 _ (Steps.refl _))
    by_cases hcd : cd = cd'
    · subst hcd
      have c13 : Steps p.tables e below (s₁.setTop (entryFrame m #[.ref x, .ref y] 3)) (T11.setTop (mkF m 37 #[.val (.ref x), .val (.ref y), .val (.ref y)] [.ref x])) := c12.trans (by
        refine XS.icmpNo X11.here hexec rfl (hb hbytes d33) rfl (ii_ne_f rfl) ?_
        refine XS.aloadN X11.here hexec rfl (hb hbytes d36) rfl rfl ?_
        exact Steps.refl _)
      obtain ⟨T14, X14, q14, st14⟩ := X11.hget hexec hown (wk W (.fieldLink "java/lang/String" 9 "java/lang/String" "value" "[B")) (hx.mv X11.warmed.alike hh11).2.1 (g := (mkF m 37 #[.val (.ref x), .val (.ref y), .val (.ref y)] [.ref x])) rfl (rest := []) rfl (hb hbytes d37)
      have hh14 := q14.trans hh11
      have c15 : Steps p.tables e below (s₁.setTop (entryFrame m #[.ref x, .ref y] 3)) (T14.setTop (mkF m 41 #[.val (.ref x), .val (.ref y), .val (.ref y)] [.ref y, .ref t])) := (c13.trans (st14 _ (Steps.refl _))).trans (by
        refine XS.aloadN X14.here hexec rfl (hb hbytes d40) rfl rfl ?_
        exact Steps.refl _)
      obtain ⟨T16, X16, q16, st16⟩ := X14.hget hexec hown (wk W (.fieldLink "java/lang/String" 9 "java/lang/String" "value" "[B")) (hy.mv X14.warmed.alike hh14).2.1 (g := (mkF m 41 #[.val (.ref x), .val (.ref y), .val (.ref y)] [.ref y, .ref t])) rfl (rest := [.ref t]) rfl (hb hbytes d41)
      have hh16 := q16.trans hh14
      have c17 : Steps p.tables e below (s₁.setTop (entryFrame m #[.ref x, .ref y] 3)) (T16.setTop (mkF m 44 #[.val (.ref x), .val (.ref y), .val (.ref y)] [.ref t', .ref t])) := c15.trans (st16 _ (Steps.refl _))
      obtain ⟨v18, T18, X18, E18, g18⟩ := X16.callS hexec (LEq.law l t V t' V') hown (wks W (staticW "java/lang/String" 541 LEq.yN)) (wk W LEq.tab) (W := 0) (Nat.le_of_ble_eq_true rfl) (Nat.le_of_ble_eq_true rfl) (Nat.le_refl _) (Nat.le_refl _) (g := (mkF m 44 #[.val (.ref x), .val (.ref y), .val (.ref y)] [.ref t', .ref t])) rfl (by rw [hml]; rfl) c17 (argsL := [.ref t, .ref t']) (rest := []) rfl rfl (by show 2 * 0 + 0 ≤ _; decide) (hb hbytes d44) (⟨rfl, hx.2.2.2.1.mv X16.warmed.alike hh16, hx.2.2.2.2.1.ty, hy.2.2.2.1.mv X16.warmed.alike hh16, hy.2.2.2.2.1.ty⟩)
      obtain ⟨v, rfl, q18, hv⟩ := E18
      have iff := Cod.eqv hx.2.2.2.2.1 hy.2.2.2.2.1 hx.2.2.2.2.2 hy.2.2.2.2.2
      rcases hv with ⟨rfl, he⟩ | ⟨rfl, he⟩
      · have c19 : Steps p.tables e below (s₁.setTop (entryFrame m #[.ref x, .ref y] 3)) (T18.setTop (mkF m 55 #[.val (.ref x), .val (.ref y), .val (.ref y)] [.int 1])) := Steps.trans g18 (by
          refine XS.ifNo X18.here hexec rfl (hb hbytes d47) rfl (i0_eq_f (by decide)) ?_
          refine iconstV X18.here hexec rfl 1 (hb hbytes d50) (by decide) ?_
          refine XS.goto X18.here hexec rfl (pc0 := 51) rfl (hb hbytes d51) (by decide) rfl ?_
          exact Steps.refl _)
        exact ⟨T18, some (.int 1), _, _, _, X18, rfl, rfl, rfl, (fun h => by cases h), ⟨1, rfl, q18.trans hh16, Or.inl ⟨rfl, iff.mp he⟩⟩, fun fs hl => c19.trans (X18.ireturnOut hexec hret rfl (Or.inr (Or.inl rfl)) (hb hbytes d55) hl)⟩
      · have c19 : Steps p.tables e below (s₁.setTop (entryFrame m #[.ref x, .ref y] 3)) (T18.setTop (mkF m 55 #[.val (.ref x), .val (.ref y), .val (.ref y)] [.int 0])) := Steps.trans g18 (by
          refine XS.ifYes X18.here hexec rfl (pc0 := 47) rfl (hb hbytes d47) rfl (i0_eq_t rfl) (by decide) rfl ?_
          refine iconstV X18.here hexec rfl 0 (hb hbytes d54) (by decide) ?_
          exact Steps.refl _)
        exact ⟨T18, some (.int 0), _, _, _, X18, rfl, rfl, rfl, (fun h => by cases h), ⟨0, rfl, q18.trans hh16, Or.inr ⟨rfl, fun q => he (iff.mpr q)⟩⟩, fun fs hl => c19.trans (X18.ireturnOut hexec hret rfl (Or.inr (Or.inl rfl)) (hb hbytes d55) hl)⟩
    · have c13 : Steps p.tables e below (s₁.setTop (entryFrame m #[.ref x, .ref y] 3)) (T11.setTop (mkF m 55 #[.val (.ref x), .val (.ref y), .val (.ref y)] [.int 0])) := c12.trans (by
        refine XS.icmpYes X11.here hexec rfl (pc0 := 33) rfl (hb hbytes d33) rfl (ii_ne_t hcd) (by decide) rfl ?_
        refine iconstV X11.here hexec rfl 0 (hb hbytes d54) (by decide) ?_
        exact Steps.refl _)
      exact ⟨T11, some (.int 0), _, _, _, X11, rfl, rfl, rfl, (fun h => by cases h), ⟨0, rfl, hh11, Or.inr ⟨rfl, Cod.dif hx.2.2.2.2.1 hy.2.2.2.2.1 hcd⟩⟩, fun fs hl => c13.trans (X11.ireturnOut hexec hret rfl (Or.inr (Or.inl rfl)) (hb hbytes d55) hl)⟩
theorem pays {l : Launch} {R : Room} {p : Program} {e : Env} {below : List Frame} {s : State} {sargs : Array Value} {len W : Nat} (x t : Addr) (V : Cell) (cd : Int32) (n : Nat) (f : Nat → Int32) (y t' : Addr) (V' : Cell) (cd' : Int32) (k : Nat) (g : Nat → Int32) (z : Int32) (htab : tab.before sargs s = true) (hfr : 2 ≤ R.frames) (hlo : W + 28 ≤ R.locals) :
    Back l R p e below s sargs yN len W (fun A₁ a₁ => A₁.cells + 0 ≤ R.cells ∧ A₁.slots + 0 ≤ R.slots ∧ P x t V cd n f y t' V' cd' k g z a₁ A₁.U) (fun A₁ _ v₁ B₁ => Says01 (SameT n f k g) v₁ A₁.U B₁.U ∧ B₁.locs = A₁.locs ++ [] ∧ B₁.cells = A₁.cells + 0 ∧ B₁.slots = A₁.slots + 0) :=
  (law l x t V cd n f y t' V' cd' k g z).pays htab hfr (by omega)
end SEq
end StrChars
namespace StrChars.Road
open Jvm Sem ClassFile Op Lib Jvm.Stand Jvm.Free Jvm.Free.XT
open Jvm.Lib.Cold (StaticIs)
/-- the words of String.equals(Object) -/
abbrev wordsEq : List Jvm.Cond := [.code SEq.yN SEq.yB 3 (some .boolean), .initialized ST, .classLink ST 10 ST, .fieldLink ST 38 ST "COMPACT_STRINGS" "Z", .fieldLink ST 15 ST "coder" "B", .fieldLink ST 9 ST "value" "[B", .methodLink ST 541 LEq.yN, .static LEq.yN, .code LEq.yN LEq.yB 3 (some .boolean), .initialized "java/lang/StringLatin1"]
theorem tabEq_of {a : Array Value} {s : State} (h : ∀ w ∈ wordsEq, w.before a s = true) : SEq.tab.before a s = true := by
  have hl : LEq.tab.before a s = true := unparts (wk h (.code LEq.yN LEq.yB 3 (some .boolean))) (wks h (.initialized LEq.yN.cls :: LEq.site))
  have q := consq hl h
  exact unparts (wk q (.code SEq.yN SEq.yB 3 (some .boolean))) (wks q (.initialized SEq.yN.cls :: SEq.site))
theorem movedEq {Z s : State} {a0 args : Array Value} (hZ : Z.Warmed39 s.vm) (hw : ∀ d ∈ wordsEq, d.before a0 Z = true) : ∀ d ∈ wordsEq, d.before args s = true := fun d hd => by
  have t : ∀ d ∈ wordsEq, (d.onTables && d.keepsFace) = true := by decide +kernel
  exact RoadKit.mv hZ (hw d hd) (t d hd)
/-- the road's facts of a String, as the laws ask it -/
theorem txt_of {Z U : State} {a0 : Array Value} {kI : Nat} (wi : (Jvm.Cond.instantiable ST kI).before a0 Z = true) (al : Z.vm.Alike U.vm) {x t : Addr} {kb : ClassId} {cs : List Int32} {cd N2 : Int32} {vs : List Value} (E : RoadKit.Exa Z U.heap x ST) (V : RoadKit.Fld Z U.heap x ST "value" "[B" (.ref t)) (C : RoadKit.Fld Z U.heap x ST "coder" "B" (.int cd)) (K : RoadKit.Arv Z U.heap t kb .byte N2 vs (.int 0)) (hc : CodA cs cd N2 vs) (hb : ∀ c ∈ cs, ¬ c < 0 ∧ ¬ (65535 : Int32) < c) (l2 : cs.length ≤ 4000) :
    ∃ A, Txt x t A cd cs.length (fun j => cs.getD j 0) U := by
  obtain ⟨A, K1, K2, K3, K4, K5, K6⟩ := K
  have hcod := hc.cod (by omega) K3 K5
  obtain ⟨D, fV, fC, hB, F1, F2, g1, g2, -, -⟩ := strObj wi al E V C
  exact ⟨A, ⟨_, hB.2.2.1, D, hB.1, rfl, by cases q : D.vm <;> first | rfl | exact absurd q (hB.2.1.2 _)⟩, Has.of hB F1 g1, Has.of hB F2 g2, ⟨K1.1, State.isArrayOf_alike al K1.2.1, K1.2.2, by rcases hcod with ⟨-, q, -⟩ | ⟨-, q, -⟩ <;> omega⟩, hcod, fun j hj => by
    have e : cs.getD j 0 = cs[j] := by simp [List.getD_eq_getElem?_getD, hj]
    show ¬ cs.getD j 0 < 0 ∧ ¬ 65535 < cs.getD j 0
    rw [e]; exact hb _ (List.getElem_mem _)⟩
theorem same_list (cs ds : List Int32) : SameT cs.length (fun j => cs.getD j 0) ds.length (fun j => ds.getD j 0) ↔ cs = ds := by
  constructor
  · rintro ⟨e, q⟩
    refine List.ext_getElem e fun j h1 h2 => ?_
    have := q j h1
    simpa [List.getD_eq_getElem?_getD, h1, h2] using this
  · rintro rfl
    exact ⟨rfl, fun _ _ => rfl⟩
/-- **equals(Object) OF TWO SUCH STRINGS**: 1 just where the chars are the same -/
theorem eqW {p : Program} {l : Launch} {e : Env} {R : Room} {s : State} {args : Array Value} {below : List Frame} {len W : Nat} {Z : State} {a0 : Array Value} {h : Heap} (hZ : Z.Warmed39 s.vm) (hw : ∀ d ∈ wordsEq, d.before a0 Z = true) {kI : Nat} (wi : (Jvm.Cond.instantiable ST kI).before a0 Z = true)
    {x t : Addr} {kb : ClassId} {cs : List Int32} {cd N2 : Int32} {vs : List Value} (E : RoadKit.Exa Z h x ST) (V : RoadKit.Fld Z h x ST "value" "[B" (.ref t)) (C : RoadKit.Fld Z h x ST "coder" "B" (.int cd)) (K : RoadKit.Arv Z h t kb .byte N2 vs (.int 0)) (hc : CodA cs cd N2 vs) (hb : ∀ c ∈ cs, ¬ c < 0 ∧ ¬ (65535 : Int32) < c) (l2 : cs.length ≤ 4000)
    {y t' : Addr} {kb' : ClassId} {ds : List Int32} {cd' N2' : Int32} {vs' : List Value} (E' : RoadKit.Exa Z h y ST) (V' : RoadKit.Fld Z h y ST "value" "[B" (.ref t')) (C' : RoadKit.Fld Z h y ST "coder" "B" (.int cd')) (K' : RoadKit.Arv Z h t' kb' .byte N2' vs' (.int 0)) (hc' : CodA ds cd' N2' vs') (hb' : ∀ c ∈ ds, ¬ c < 0 ∧ ¬ (65535 : Int32) < c) (l2' : ds.length ≤ 4000)
    {z : Int32} (S : RoadKit.Sta Z h ST "COMPACT_STRINGS" "Z" (.int z)) (hz : ¬ z = 0) (hfr : 2 ≤ R.frames) (hlo : W + 28 ≤ R.locals) :
    Back l R p e below s args (⟨"java/lang/String", "equals", "(Ljava/lang/Object;)Z"⟩ : MethodName) len W (fun P a => a = #[.ref x, .ref y] ∧ P.U.heap = h ∧ P.cells + 0 ≤ R.cells ∧ P.slots + 0 ≤ R.slots)
      (fun P _ v B => ∃ L, (((v = some (.int 1) ∧ cs = ds) ∨ (v = some (.int 0) ∧ ¬ cs = ds)) ∧ L = [] ∧ B.U.heap = h) ∧ B.locs = P.locs ++ L ∧ B.cells = P.cells + 0 ∧ B.slots = P.slots + 0) := by
  intro m meth c P g ig mk a X hg hsize hdg hW hn hp'
  obtain ⟨rfl, rfl, r1, r2⟩ := hp'
  have al : Z.vm.Alike P.U.vm := hZ.alike.trans X.warmed.alike
  obtain ⟨A, hx⟩ := txt_of wi al E V C K hc hb l2
  obtain ⟨A', hy⟩ := txt_of wi al E' V' C' K' hc' hb' l2'
  obtain ⟨v, B, X', ⟨⟨w, hv, hh, hq⟩, hl, hk, hs⟩, st⟩ := SEq.pays x t A cd cs.length (fun j => cs.getD j 0) y t' A' cd' ds.length (fun j => ds.getD j 0) z (tabEq_of (movedEq hZ hw)) hfr hlo m meth c P g ig mk _ X hg hsize hdg hW hn ⟨r1, r2, rfl, hx, hy, sta_is al S, hz⟩
  refine ⟨v, B, X', ⟨[], ⟨?_, rfl, hh⟩, hl, hk, hs⟩, st⟩
  rcases hq with ⟨rfl, q⟩ | ⟨rfl, q⟩
  · exact Or.inl ⟨hv, (same_list cs ds).mp q⟩
  · exact Or.inr ⟨hv, fun e => q ((same_list cs ds).mpr e)⟩
end StrChars.Road
namespace StrChars.Road
open Jvm Sem ClassFile Op Lib Jvm.Stand Jvm.Free Jvm.Free.XT
open Jvm.Lib.Cold (StaticIs)
/-- what backV says of its String, as the contracts of this text ask it: cs's low bytes, coder 0 -/
theorem codOf {cs : List Int32} {n : Nat} (hn : cs.length = n) (hb : ∀ c ∈ cs, ¬ 255 < c) : CodA cs 0 (Int32.ofNat n) ((cs.map lo8).map Value.int) := Or.inl ⟨rfl, by rw [hn], by simp [List.map_map, Function.comp_def], hb⟩
end StrChars.Road
end Jvm.Pilot.@@N@@

namespace Jvm.Pilot.@@N@@
open Jvm Jvm.ClassFile Sem Op Lib Jvm.Free Jvm.Stand Jvm.LawKit Jvm.RoadKit Bundle Jvm.Pilot.@@N@@.Jvm.D
section OwnHead
variable {p : Program} {l : Launch} {e : Env} {R : Room} {s : State} {m : MethodId} {args : Array Value} {below : List Frame} {meth : Method} {c : Code} {T T' : State} {locs : List Loc} {cells slots : Nat} {Q : Option Value → Heap → List Loc → Prop} {k n : Nat} {g : JFrame}
/-- from here (the state T, the frame g on top) the call comes to its end, and the end is as Fin says -/
def own_E (p : Program) (e : Env) (below : List Frame) (Fin : Outcome → State → Prop) (T : State) (g : JFrame) : Prop :=
  ∃ s₂ o, Steps p.tables e below (T.setTop g) s₂ ∧ s₂.status = .running ∧ Ended s₂ below o ∧ Fin o s₂
/-- the end of a body that interns nothing: what it returns, the heap and the places written as Q says, within k cells and n slots -/
def own_Fin (s : State) (Q : Option Value → Heap → List Loc → Prop) (k n : Nat) (o : Outcome) (t : State) : Prop := ∃ v L, o = .returned v ∧ Q v t.heap L ∧ FrameEnd s o t L k n
theorem own_start {Fin : Outcome → State → Prop} (h : own_E p e below Fin T g) : ∃ s₂ o, Steps p.tables e below (T.setTop g) s₂ ∧ s₂.status = .running ∧ Ended s₂ below o ∧ Fin o s₂ := h
theorem own_from {Fin : Outcome → State → Prop} (g' : JFrame) (h : ∀ {t}, Steps p.tables e below (T.setTop g') t → Steps p.tables e below (T.setTop g) t) (w : own_E p e below Fin T g') : own_E p e below Fin T g := by
  obtain ⟨s₂, o, h1, r⟩ := w; exact ⟨s₂, o, h h1, r⟩
theorem own_to {Fin : Outcome → State → Prop} (g' : JFrame) (h : ∀ t, Steps p.tables e below (T'.setTop g') t → Steps p.tables e below (T.setTop g) t) (w : own_E p e below Fin T' g') : own_E p e below Fin T g := by
  obtain ⟨s₂, o, h1, r⟩ := w; exact ⟨s₂, o, h _ h1, r⟩
theorem own_via {Fin : Outcome → State → Prop} (g' : JFrame) (h : Steps p.tables e below (T.setTop g) (T'.setTop g')) (w : own_E p e below Fin T' g') : own_E p e below Fin T g := by
  obtain ⟨s₂, o, h1, r⟩ := w; exact ⟨s₂, o, h.trans h1, r⟩
theorem own_end {v : Option Value} {pc : Nat} {Ls : Array Slot} {st : List Value} (X : Stand p l e R s m args below meth c T locs cells slots) (hv : meth.sig.returnType = none → v = none) (hlk : meth.locks = false) (hk : cells ≤ k) (hn : slots ≤ n) (hQ : Q v T.heap locs)
    (hs : ∀ fs, (∀ (f : JFrame) (acts : List Action), f.method = m → f.locked = none → f.entered = [] → (doReturn e (T.setTop f) acts v).1 = T.setFrames fs) → Steps p.tables e below (T.setTop (mkF m pc Ls st)) (T.setFrames fs)) : own_E p e below (own_Fin s Q k n) T (mkF m pc Ls st) := by
  obtain ⟨fs, hr, hrun, hended, hW, hsame⟩ := X.leave (v := v) hv hlk
  exact ⟨_, _, hs fs hr, hrun, hended, _, _, rfl, hQ, ⟨_, rfl⟩, hW, hsame.mono hk hn⟩
theorem own_retN (X : Stand p l e R s m args below meth c T locs cells slots) (hx : p.tables.exec = Jvm.exec) {pc : Nat} {Ls : Array Slot} {z : Int32} {t : FieldType} {rest : List Value} (hret : meth.sig.returnType = some t) (ht : t = .boolean ∨ t = .byte ∨ t = .char ∨ t = .short) (hlk : meth.locks = false)
    (hd : decode c.code pc = .ok (.ireturn, 1)) (hk : cells ≤ k) (hn : slots ≤ n) (hQ : Q (some (.int (nar t z))) T.heap locs) : own_E p e below (own_Fin s Q k n) T (mkF m pc Ls (.int z :: rest)) :=
  own_end X (fun h => by rw [hret] at h; cases h) hlk hk hn hQ fun _ hr => retN X hx hret ht hd hr
theorem own_retI (X : Stand p l e R s m args below meth c T locs cells slots) (hx : p.tables.exec = Jvm.exec) {pc : Nat} {Ls : Array Slot} {z : Int32} {rest : List Value} (hret : meth.sig.returnType = some .int) (hlk : meth.locks = false)
    (hd : decode c.code pc = .ok (.ireturn, 1)) (hk : cells ≤ k) (hn : slots ≤ n) (hQ : Q (some (.int z)) T.heap locs) : own_E p e below (own_Fin s Q k n) T (mkF m pc Ls (.int z :: rest)) :=
  own_end X (fun h => by rw [hret] at h; cases h) hlk hk hn hQ fun _ hr => retOut X hx hret rfl (Or.inl ⟨rfl, Or.inl rfl, _, rfl⟩) hd hr
theorem own_retJ (X : Stand p l e R s m args below meth c T locs cells slots) (hx : p.tables.exec = Jvm.exec) {pc : Nat} {Ls : Array Slot} {z : Int64} {rest : List Value} (hret : meth.sig.returnType = some .long) (hlk : meth.locks = false)
    (hd : decode c.code pc = .ok (.lreturn, 1)) (hk : cells ≤ k) (hn : slots ≤ n) (hQ : Q (some (.long z)) T.heap locs) : own_E p e below (own_Fin s Q k n) T (mkF m pc Ls (.long z :: rest)) :=
  own_end X (fun h => by rw [hret] at h; cases h) hlk hk hn hQ fun _ hr => retOut X hx hret rfl (Or.inr (Or.inl ⟨rfl, rfl, _, rfl⟩)) hd hr
theorem own_retA (X : Stand p l e R s m args below meth c T locs cells slots) (hx : p.tables.exec = Jvm.exec) {pc : Nat} {Ls : Array Slot} {w : Value} {t : FieldType} {rest : List Value} (hret : meth.sig.returnType = some t) (ht : t.isReference = true) (hlk : meth.locks = false)
    (hd : decode c.code pc = .ok (.areturn, 1)) (hw : w.isRef = true) (hk : cells ≤ k) (hn : slots ≤ n) (hQ : Q (some w) T.heap locs) : own_E p e below (own_Fin s Q k n) T (mkF m pc Ls (w :: rest)) :=
  own_end X (fun h => by rw [hret] at h; cases h) hlk hk hn hQ fun _ hr => retOut X hx hret (by cases t <;> first | rfl | cases ht) (Or.inr (Or.inr (Or.inr (Or.inr ⟨rfl, ht, hw⟩)))) hd hr
theorem own_ret0 (X : Stand p l e R s m args below meth c T locs cells slots) (hx : p.tables.exec = Jvm.exec) {pc : Nat} {Ls : Array Slot} (hret : meth.sig.returnType = none) (hlk : meth.locks = false)
    (hd : decode c.code pc = .ok (.return_, 1)) (hk : cells ≤ k) (hn : slots ≤ n) (hQ : Q none T.heap locs) : own_E p e below (own_Fin s Q k n) T (mkF m pc Ls []) :=
  own_end X (fun _ => rfl) hlk hk hn hQ fun _ hr => X.returnOut hx hret hd hr
theorem own_b8 (y : Int32) : y.toInt8.toInt32.toInt8.toInt32 = y.toInt8.toInt32 := by
  have a := c_i2b y
  have b := c_i2b y.toInt8.toInt32
  rw [← Int32.toInt_inj]; omega
theorem own_01 {C : Prop} {d : Int32} (h1 : C → d = (0 : Int32)) (h2 : ¬ C → d = (1 : Int32)) : d = 0 ∨ d = 1 := (Classical.em C).elim (fun q => Or.inl (h1 q)) (fun q => Or.inr (h2 q))
theorem own_irr (x : Int32) : ¬ x < x := Int32.lt_irrefl
end OwnHead
section OwnWords
variable {args : Array Value} {s : State} {t : Term} {C n d : String} {a : Addr}
theorem own_fldI {k : Int32} (ht : t.eval args s none [] s = some (.ref a)) (h : (Jvm.Cond.eq (Term.field t C n d) (Term.int k)).value args s none s [] = some true) : Fld s s.heap a C n d (.int k) := by
  obtain ⟨x, y, e1, e2, -, k2⟩ := cmp_v (Or.inl h)
  have q : y = .int k := Option.some.inj (e2.symm.trans (Term.int_eval k))
  subst q
  obtain ⟨z, rfl⟩ := k2
  have q := gotT (Cond.eq_ints e1 (Term.int_eval k)) h
  subst q
  exact Fld.start ((fld_at ht).symm.trans e1)
theorem own_fldJ {k : Int64} (ht : t.eval args s none [] s = some (.ref a)) (h : (Jvm.Cond.eq (Term.field t C n d) (Term.long k)).value args s none s [] = some true) : Fld s s.heap a C n d (.long k) := by
  obtain ⟨x, y, e1, e2, -, k2⟩ := cmp_v (Or.inl h)
  have q : y = .long k := Option.some.inj (e2.symm.trans (long_at k))
  subst q
  obtain ⟨z, rfl⟩ := k2
  have q := gotT (eq_L e1 (long_at k)) h
  subst q
  exact Fld.start ((fld_at ht).symm.trans e1)
end OwnWords
section OwnWide
variable {p : Program} {l : Launch} {e : Env} {R : Room} {s : State} {m : MethodId} {args : Array Value} {below : List Frame} {meth : Method} {c : Code} {T T' : State} {locs : List Loc} {cells slots : Nat} {Q : Option Value → Heap → List Loc → Prop} {k n : Nat} {g : JFrame} {vm₁ : Vm} {k1 : Nat}
/-- the end of a law that may have interned a String constant -/
def own_FinW (s : State) (Q : Option Value → Heap → List Loc → Prop) (k n : Nat) (o : Outcome) (t : State) : Prop := ∃ v L, o = .returned v ∧ Q v t.heap L ∧ ReturnedEndW s o t L k n
theorem own_endW {v : Option Value} {pc : Nat} {Ls : Array Slot} {st : List Value} (X : Stand p l e R (s.setVm vm₁) m args below meth c T locs cells slots) (hS : s.Since vm₁ k1) (hk1 : k1 ≤ T.heap.size) (hv : meth.sig.returnType = none → v = none) (hlk : meth.locks = false) (hk : cells ≤ k) (hn : slots ≤ n) (hQ : Q v T.heap locs)
    (hs : ∀ fs, (∀ (f : JFrame) (acts : List Action), f.method = m → f.locked = none → f.entered = [] → (doReturn e (T.setTop f) acts v).1 = T.setFrames fs) → Steps p.tables e below (T.setTop (mkF m pc Ls st)) (T.setFrames fs)) : own_E p e below (own_FinW s Q k n) T (mkF m pc Ls st) := by
  obtain ⟨fs, hr, hrun, hended, h1, h2, h3, h4⟩ := X.leaveW hS hk1 (v := v) hv hlk
  exact ⟨_, _, hs fs hr, hrun, hended, _, _, rfl, hQ, h1, h2, h3, h4.mono hk hn⟩
theorem own_retNW (X : Stand p l e R (s.setVm vm₁) m args below meth c T locs cells slots) (hS : s.Since vm₁ k1) (hk1 : k1 ≤ T.heap.size) (hx : p.tables.exec = Jvm.exec) {pc : Nat} {Ls : Array Slot} {z : Int32} {t : FieldType} {rest : List Value} (hret : meth.sig.returnType = some t) (ht : t = .boolean ∨ t = .byte ∨ t = .char ∨ t = .short) (hlk : meth.locks = false)
    (hd : decode c.code pc = .ok (.ireturn, 1)) (hk : cells ≤ k) (hn : slots ≤ n) (hQ : Q (some (.int (nar t z))) T.heap locs) : own_E p e below (own_FinW s Q k n) T (mkF m pc Ls (.int z :: rest)) :=
  own_endW X hS hk1 (fun h => by rw [hret] at h; cases h) hlk hk hn hQ fun _ hr => retN X hx hret ht hd hr
end OwnWide
section OwnStr
variable {Z : State} {h h' : Heap} {x t a : Addr} {kb : ClassId} {cs : List Int32} {sl : Nat} {v : Value} {ws : List Addr}
/-- a String at x, its bytes at t, that spells cs (each 0 to 255) -/
def own_Str (Z : State) (h : Heap) (x t : Addr) (kb : ClassId) (cs : List Int32) : Prop :=
  Exa Z h x "java/lang/String" ∧ Fld Z h x "java/lang/String" "value" "[B" (.ref t) ∧ Fld Z h x "java/lang/String" "coder" "B" (.int 0) ∧ Arv Z h t kb .byte (Int32.ofNat cs.length) ((cs.map (fun c => c.toInt8.toInt32)).map Value.int) (.int 0) ∧ (∀ c ∈ cs, ¬ c < 0 ∧ ¬ (255 : Int32) < c) ∧ cs.length ≤ 4000
theorem own_Str.lt (S : own_Str Z h x t kb cs) : x < h.size := S.1.lt
theorem own_Str.ltT (S : own_Str Z h x t kb cs) : t < h.size := S.2.2.2.1.lt
theorem own_Str.ext (S : own_Str Z h x t kb cs) (E : Ext h h') : own_Str Z h' x t kb cs := ⟨S.1.ext E, S.2.1.ext E, S.2.2.1.ext E, S.2.2.2.1.ext E, S.2.2.2.2⟩
theorem own_Str.wr (S : own_Str Z h x t kb cs) (W : Wr h h' a sl v) (n1 : x ≠ a) (n2 : t ≠ a) : own_Str Z h' x t kb cs := ⟨S.1.wr W, S.2.1.other W (Or.inl n1), S.2.2.1.other W (Or.inl n1), S.2.2.2.1.other W n2, S.2.2.2.2⟩
theorem own_Str.keep (S : own_Str Z h x t kb cs) (K : Keep h h' ws) (n1 : x ∉ ws) (n2 : t ∉ ws) : own_Str Z h' x t kb cs := ⟨S.1.keep K, S.2.1.keep K n1, S.2.2.1.keep K n1, S.2.2.2.1.keep K n2, S.2.2.2.2⟩
theorem own_up {cs : List Int32} (h : ∀ c ∈ cs, ¬ c < 0 ∧ ¬ (255 : Int32) < c) : ∀ c ∈ cs, ¬ c < 0 ∧ ¬ (65535 : Int32) < c := fun c hc => ⟨(h c hc).1, fun q => (h c hc).2 (by rw [Int32.lt_iff_toInt_lt] at q ⊢; have e1 : (65535 : Int32).toInt = 65535 := rfl; have e2 : (255 : Int32).toInt = 255 := rfl; omega)⟩
/-- a char of 0 to 255 stays what it is when it is stored as a char -/
def own_C8 (c : Int32) : Prop := ¬ c < 0 ∧ ¬ (255 : Int32) < c
theorem own_C8.rng {c : Int32} (h : own_C8 c) : 0 ≤ c.toInt ∧ c.toInt ≤ 255 := by
  have h1 := h.1; have h2 := h.2
  rw [Int32.lt_iff_toInt_lt] at h1 h2
  have e1 : (0 : Int32).toInt = 0 := rfl
  have e2 : (255 : Int32).toInt = 255 := rfl
  omega
theorem own_i2c8 {c : Int32} (h : own_C8 c) : c.toUInt32.toUInt16.toUInt32.toInt32 = c := by
  have q := h.rng
  have r := c_i2c c
  rw [← Int32.toInt_inj]; omega
theorem own_nar8 {c : Int32} (h : own_C8 c) : nar .char c = c := own_i2c8 h
theorem own_mask8 (x : Int32) : own_C8 (x &&& (255 : Int32)) := by
  have e : (x &&& 255).toInt = x.toInt % (2 ^ 8 : Nat) := c_mask x 255 8 (by decide) (by decide)
  refine ⟨fun q => ?_, fun q => ?_⟩ <;> rw [Int32.lt_iff_toInt_lt, e] at q
  · have e1 : (0 : Int32).toInt = 0 := rfl
    omega
  · have e2 : (255 : Int32).toInt = 255 := rfl
    omega
theorem own_ch8 {x c : Int32} (h : (x &&& (255 : Int32)).toUInt32.toUInt16.toUInt32.toInt32 = c) : own_C8 c := by
  rw [own_i2c8 (own_mask8 x)] at h; subst h; exact own_mask8 x
theorem own_if8 {C : Prop} {c a b : Int32} (h1 : C → c = a) (h2 : ¬ C → c = b) (ha : own_C8 a) (hb : own_C8 b) : own_C8 c := by
  by_cases q : C
  · rw [h1 q]; exact ha
  · rw [h2 q]; exact hb
theorem own_all0 : ∀ c ∈ ([] : List Int32), ¬ c < 0 ∧ ¬ (255 : Int32) < c := fun _ q => nomatch q
theorem own_allS {c : Int32} {cs : List Int32} (h : own_C8 c) (r : ∀ c ∈ cs, ¬ c < 0 ∧ ¬ (255 : Int32) < c) : ∀ d ∈ c :: cs, ¬ d < 0 ∧ ¬ (255 : Int32) < d := fun d z => (List.mem_cons.mp z).elim (fun u => u ▸ h) (r d)
end OwnStr
/-- equals of two Strings, by what each spells -/
theorem own_backEq {p : Program} {l : Launch} {e : Env} {R : Room} {s : State} {args : Array Value} {below : List Frame} {len W : Nat} {Z : State} {a0 : Array Value} {h : Heap} (hZ : Z.Warmed39 s.vm) (hw : ∀ d ∈ StrChars.Road.wordsEq, d.before a0 Z = true) {kI : Nat} (wi : (Jvm.Cond.instantiable "java/lang/String" kI).before a0 Z = true)
    {x t : Addr} {kb : ClassId} {cs : List Int32} (A : own_Str Z h x t kb cs) {y t' : Addr} {kb' : ClassId} {ds : List Int32} (B : own_Str Z h y t' kb' ds) {z : Int32} (S : Sta Z h "java/lang/String" "COMPACT_STRINGS" "Z" (.int z)) (hz : ¬ z = 0) (hfr : 2 ≤ R.frames) (hlo : W + 28 ≤ R.locals) :
    Back l R p e below s args (⟨"java/lang/String", "equals", "(Ljava/lang/Object;)Z"⟩ : MethodName) len W (fun P a => a = #[.ref x, .ref y] ∧ P.U.heap = h ∧ P.cells + 0 ≤ R.cells ∧ P.slots + 0 ≤ R.slots)
      (fun P _ v B => ∃ L, (((v = some (.int 1) ∧ cs = ds) ∨ (v = some (.int 0) ∧ ¬ cs = ds)) ∧ L = [] ∧ B.U.heap = h) ∧ B.locs = P.locs ++ L ∧ B.cells = P.cells + 0 ∧ B.slots = P.slots + 0) := by
  obtain ⟨a1, a2, a3, a4, a5, a6⟩ := A
  obtain ⟨b1, b2, b3, b4, b5, b6⟩ := B
  exact StrChars.Road.eqW hZ hw wi a1 a2 a3 a4 (StrChars.Road.codOf rfl fun c hc => (a5 c hc).2) (own_up a5) a6 b1 b2 b3 b4 (StrChars.Road.codOf rfl fun c hc => (b5 c hc).2) (own_up b5) b6 S hz hfr hlo
theorem own_wV : ∀ d ∈ StrChars.Road.words, d ∈ tables_1 := by decide +kernel
theorem own_wEq : ∀ d ∈ StrChars.Road.wordsEq, d ∈ tables_1 := by decide +kernel
theorem own_wS : ∀ d ∈ Bundle.stringAtoms, d ∈ tables_1 := by decide +kernel
theorem own_d_jdk_42_method_66_0 : decode jdk_42_method_66_code 0 = .ok (.aload_n 0, 1) := by decide +kernel
theorem own_d_jdk_42_method_66_1 : decode jdk_42_method_66_code 1 = .ok (.aload_n 1, 1) := by decide +kernel
theorem own_d_jdk_42_method_66_2 : decode jdk_42_method_66_code 2 = .ok (.if_acmp .ne 5, 3) := by decide +kernel
theorem own_d_jdk_42_method_66_7 : decode jdk_42_method_66_code 7 = .ok (.aload_n 1, 1) := by decide +kernel
theorem own_d_jdk_42_method_66_8 : decode jdk_42_method_66_code 8 = .ok (.instanceof 10, 3) := by decide +kernel
theorem own_d_jdk_42_method_66_11 : decode jdk_42_method_66_code 11 = .ok (.ifCond .eq 43, 3) := by decide +kernel
theorem own_d_jdk_42_method_66_54 : decode jdk_42_method_66_code 54 = .ok (.iconst 0, 1) := by decide +kernel
theorem own_d_jdk_42_method_66_55 : decode jdk_42_method_66_code 55 = .ok (.ireturn, 1) := by decide +kernel
theorem own_d_prog_14_method_1_0 : decode prog_14_method_1_code 0 = .ok (.aload_n 0, 1) := by decide +kernel
theorem own_d_prog_14_method_1_1 : decode prog_14_method_1_code 1 = .ok (.invokespecial 1, 3) := by decide +kernel
theorem own_d_prog_14_method_1_4 : decode prog_14_method_1_code 4 = .ok (.aload_n 0, 1) := by decide +kernel
theorem own_d_prog_14_method_1_5 : decode prog_14_method_1_code 5 = .ok (.aload_n 1, 1) := by decide +kernel
theorem own_d_prog_14_method_1_6 : decode prog_14_method_1_code 6 = .ok (.putfield 7, 3) := by decide +kernel
theorem own_d_prog_14_method_1_9 : decode prog_14_method_1_code 9 = .ok (.aload_n 0, 1) := by decide +kernel
theorem own_d_prog_14_method_1_10 : decode prog_14_method_1_code 10 = .ok (.aload_n 2, 1) := by decide +kernel
theorem own_d_prog_14_method_1_11 : decode prog_14_method_1_code 11 = .ok (.putfield 13, 3) := by decide +kernel
theorem own_d_prog_14_method_1_14 : decode prog_14_method_1_code 14 = .ok (.aload_n 0, 1) := by decide +kernel
theorem own_d_prog_14_method_1_15 : decode prog_14_method_1_code 15 = .ok (.iload_n 3, 1) := by decide +kernel
theorem own_d_prog_14_method_1_16 : decode prog_14_method_1_code 16 = .ok (.putfield 16, 3) := by decide +kernel
theorem own_d_prog_14_method_1_19 : decode prog_14_method_1_code 19 = .ok (.return_, 1) := by decide +kernel
theorem own_d_prog_14_method_4_0 : decode prog_14_method_4_code 0 = .ok (.aload_n 1, 1) := by decide +kernel
theorem own_d_prog_14_method_4_1 : decode prog_14_method_4_code 1 = .ok (.aload_n 0, 1) := by decide +kernel
theorem own_d_prog_14_method_4_2 : decode prog_14_method_4_code 2 = .ok (.getfield 13, 3) := by decide +kernel
theorem own_d_prog_14_method_4_5 : decode prog_14_method_4_code 5 = .ok (.invokevirtual 20, 3) := by decide +kernel
theorem own_d_prog_14_method_4_8 : decode prog_14_method_4_code 8 = .ok (.ifCond .ne 7, 3) := by decide +kernel
theorem own_d_prog_14_method_4_11 : decode prog_14_method_4_code 11 = .ok (.iconst 1, 1) := by decide +kernel
theorem own_d_prog_14_method_4_12 : decode prog_14_method_4_code 12 = .ok (.goto 4, 3) := by decide +kernel
theorem own_d_prog_14_method_4_16 : decode prog_14_method_4_code 16 = .ok (.ireturn, 1) := by decide +kernel
theorem own_d_prog_14_method_4_15 : decode prog_14_method_4_code 15 = .ok (.iconst 0, 1) := by decide +kernel
theorem own_pd0 : parseMethodDescriptor "(Ljava/lang/Object;)Z" = some ⟨[(.object "java/lang/Object")], some .boolean⟩ := by decide +kernel
theorem own_pd1 : parseMethodDescriptor "([C)V" = some ⟨[(.array .char)], none⟩ := by decide +kernel
theorem own_pd2 : parseMethodDescriptor "(Ljava/lang/String;Ljava/lang/String;Z)V" = some ⟨[(.object "java/lang/String"), (.object "java/lang/String"), .boolean], none⟩ := by decide +kernel
theorem own_pd3 : parseMethodDescriptor "(Ljava/lang/String;)Z" = some ⟨[(.object "java/lang/String")], some .boolean⟩ := by decide +kernel
theorem own_pn0 : plainName "java/lang/String" = true := by first | (simp [plainName, overriddenIn]; done) | decide +kernel
theorem own_pn1 : plainName "com/example/saldera/saldera/coupon/Cashier" = true := by first | (simp [plainName, overriddenIn]; done) | decide +kernel
theorem own_pn2 : plainName "com/example/saldera/saldera/coupon/CashierIsOtherBranchPinLaw" = true := by first | (simp [plainName, overriddenIn]; done) | decide +kernel
theorem own_ef_EN (m : MethodId) (x0 : Addr) : entryFrame m #[(.ref x0), .null] 3 = mkF m 0 #[.val (.ref x0), .val .null, .unset] [] := by first | (simp [entryFrame, mkF, argsToLocals, Value.category]; done) | rfl
theorem own_ef_CN (m : MethodId) (x0 : Addr) (x1 : Addr) (x3 : Int32) : entryFrame m #[(.ref x0), (.ref x1), .null, (.int x3)] 4 = mkF m 0 #[.val (.ref x0), .val (.ref x1), .val .null, .val (.int x3)] [] := by first | (simp [entryFrame, mkF, argsToLocals, Value.category]; done) | rfl
theorem own_ef_CB (m : MethodId) (x0 : Addr) (x1 : Addr) (x2 : Addr) (x3 : Int32) : entryFrame m #[(.ref x0), (.ref x1), (.ref x2), (.int x3)] 4 = mkF m 0 #[.val (.ref x0), .val (.ref x1), .val (.ref x2), .val (.int x3)] [] := by first | (simp [entryFrame, mkF, argsToLocals, Value.category]; done) | rfl
theorem own_ef_ON (m : MethodId) (x0 : Addr) (x1 : Addr) : entryFrame m #[(.ref x0), (.ref x1)] 2 = mkF m 0 #[.val (.ref x0), .val (.ref x1)] [] := by first | (simp [entryFrame, mkF, argsToLocals, Value.category]; done) | rfl
theorem own_ef_OB (m : MethodId) (x0 : Addr) (x1 : Addr) : entryFrame m #[(.ref x0), (.ref x1)] 2 = mkF m 0 #[.val (.ref x0), .val (.ref x1)] [] := by first | (simp [entryFrame, mkF, argsToLocals, Value.category]; done) | rfl
theorem own_ef_0 (m : MethodId) (x0 : Int32) (x1 : Int32) (x2 : Int32) : entryFrame m #[(.int x0), (.int x1), (.int x2)] maxLocals = mkF m 0 #[.val (.int x0), .val (.int x1), .val (.int x2), .unset, .unset, .unset, .unset, .unset, .unset, .unset, .unset, .unset, .unset, .unset, .unset, .unset, .unset, .unset, .unset, .unset] [] := by first | (simp [entryFrame, mkF, argsToLocals, Value.category, maxLocals]; done) | rfl
def own_QEN (Z : State) (co : Addr) (h0 : Heap) (n0 : Nat) (v : Option Value) (h : Heap) (L : List Loc) : Prop := v = some (.int 0) ∧ Fr n0 L ∧ h = h0
set_option maxRecDepth 65536 in
set_option maxHeartbeats 40000000 in
theorem own_rmEN (l : Launch) (Z : State) (a0 : Array Value) (hw : ∀ d ∈ tables_1, d.before a0 Z = true) (ws : List Jvm.Cond) (co : Addr) (h0 : Heap) (n0 : Nat) (Z0 : n0 ≤ h0.size) (OL : Old Z n0 h0)  :
    MetFree l (⟨"java/lang/String", "equals", "(Ljava/lang/Object;)Z"⟩ : MethodName) (head1 (Jvm.Cond.code (⟨"java/lang/String", "equals", "(Ljava/lang/Object;)Z"⟩ : MethodName) jdk_42_method_66_code 3 (some .boolean) :: ws) ({ frames := 0, cells := 0, slots := 0, locals := 0 } : Room)) (fun aa_ U => aa_ = #[(.ref co), .null] ∧ Z.Warmed39 U.vm ∧ U.heap = h0) (fun _ _ _ _ _ => True) (fun _ U o U' => ∃ v L, o = .returned v ∧ own_QEN Z co h0 n0 v U'.heap L ∧ FrameEnd U o U' L ({ frames := 0, cells := 0, slots := 0, locals := 0 } : Room).cells ({ frames := 0, cells := 0, slots := 0, locals := 0 } : Room).slots) := by
  refine MetFree.of_bodySF (plainFor_of_name own_pn0) hisR ?_
  intro p e s m args below meth c s₁ Bd hml0 hP hK
  obtain ⟨rfl, hZ, hh⟩ := hP
  have hx := Bd.exec
  have hby := Bd.bytes
  have hlk : meth.locks = false := BodyLoose.notSynchronized Bd
  have hml : c.maxLocals = 3 := hml0
  have hown : s.vm.findClass "java/lang/String" = some m.cls := findClass_of_methodNamed Bd.named
  have hnm := (name_of_methodNamed Bd.named Bd.method).1
  have X0 : Stand p l e ({ frames := 0, cells := 0, slots := 0, locals := 0 } : Room) s m #[(.ref co), .null] below meth c s₁ [] 0 0 := Stand.of_body Bd
  have e0 : s₁.heap = h0 := by rw [← hh, Bd.state]; rfl
  have N0 := Fr.nil n0
  have KP : Keep h0 h0 [] := Keep.refl _ _
  refine own_start (Fin := (own_Fin s (own_QEN Z co h0 n0) ({ frames := 0, cells := 0, slots := 0, locals := 0 } : Room).cells ({ frames := 0, cells := 0, slots := 0, locals := 0 } : Room).slots)) (own_from (mkF m 0 #[rv co, .val .null, .unset] []) (castTop (own_ef_EN m co)) ?_)
  refine own_to (T' := s₁) (mkF m 1 #[rv co, .val .null, .unset] [(.ref co)]) (fun _ k => XS.aloadN X0.here hx rfl (hb hby own_d_jdk_42_method_66_0) rfl rfl k) ?_
  refine own_to (T' := s₁) (mkF m 2 #[rv co, .val .null, .unset] [.null, (.ref co)]) (fun _ k => XS.aloadN X0.here hx rfl (hb hby own_d_jdk_42_method_66_1) rfl rfl k) ?_
  refine own_to (T' := s₁) (mkF m 7 #[rv co, .val .null, .unset] []) (fun _ k => Jvm.RoadKit.acmp (g := (mkF m 2 #[rv co, .val .null, .unset] [.null, (.ref co)])) X0 hx rfl rfl rfl (pc0 := 2) (pc' := 7) (same := false) rfl (hb hby own_d_jdk_42_method_66_2) rfl (decide_eq_false nofun) (by decide) (by decide) k) ?_
  refine own_to (T' := s₁) (mkF m 8 #[rv co, .val .null, .unset] [.null]) (fun _ k => XS.aloadN X0.here hx rfl (hb hby own_d_jdk_42_method_66_7) rfl rfl k) ?_
  refine own_to (mkF m 11 #[rv co, .val .null, .unset] [(.int (0 : Int32))]) (X0.instanceofNull hx (g := (mkF m 8 #[rv co, .val .null, .unset] [.null])) rfl rfl (hb hby own_d_jdk_42_method_66_8)) ?_
  refine own_to (T' := s₁) (mkF m 54 #[rv co, .val .null, .unset] []) (fun _ k => XS.ifYes X0.here hx rfl (pc0 := 11) (pc' := 54) rfl (hb hby own_d_jdk_42_method_66_11) rfl ((if0 _ _).trans (teq (by decide : (0 : Int32) = (0 : Int32))).1) (by decide) (by decide) k) ?_
  refine own_to (T' := s₁) (mkF m 55 #[rv co, .val .null, .unset] [(.int (0 : Int32))]) (fun _ k => XS.iconst X0.here hx rfl (hb hby own_d_jdk_42_method_66_54) k) ?_
  exact own_retN X0 hx (t := .boolean) Bd.returns (by simp) hlk (hb hby own_d_jdk_42_method_66_55) (by decide) (by decide) (by rw [e0]; exact ⟨rfl, N0, rfl⟩)
def own_QCN (Z : State) (a u : Addr) (z : Int32) (h0 : Heap) (n0 : Nat) (v : Option Value) (h : Heap) (L : List Loc) : Prop := v = none ∧ Fr n0 L ∧ Keep h0 h [a] ∧ Exa Z h a "com/example/saldera/saldera/coupon/Cashier" ∧ Fld Z h a "com/example/saldera/saldera/coupon/Cashier" "branch" "Ljava/lang/String;" .null ∧ Fld Z h a "com/example/saldera/saldera/coupon/Cashier" "crossBranch" "Z" (.int (nar .boolean z))
set_option maxRecDepth 65536 in
set_option maxHeartbeats 40000000 in
theorem own_rmCN (l : Launch) (Z : State) (a0 : Array Value) (hw : ∀ d ∈ tables_1, d.before a0 Z = true) (ws : List Jvm.Cond) (a u : Addr) (z : Int32) (h0 : Heap) (n0 : Nat) (Z0 : n0 ≤ h0.size) (OL : Old Z n0 h0) (E_a : Exa Z h0 a "com/example/saldera/saldera/coupon/Cashier") (ge_a : n0 ≤ a) (F_username_a : Fld Z h0 a "com/example/saldera/saldera/coupon/Cashier" "username" "Ljava/lang/String;" .null) (F_branch_a : Fld Z h0 a "com/example/saldera/saldera/coupon/Cashier" "branch" "Ljava/lang/String;" .null) (F_crossBranch_a : Fld Z h0 a "com/example/saldera/saldera/coupon/Cashier" "crossBranch" "Z" (.int (0 : Int32))) :
    MetFree l (⟨"com/example/saldera/saldera/coupon/Cashier", "<init>", "(Ljava/lang/String;Ljava/lang/String;Z)V"⟩ : MethodName) (head1 (Jvm.Cond.code (⟨"com/example/saldera/saldera/coupon/Cashier", "<init>", "(Ljava/lang/String;Ljava/lang/String;Z)V"⟩ : MethodName) prog_14_method_1_code 4 none :: ws) ({ frames := 1, cells := 0, slots := 0, locals := 12 } : Room)) (fun aa_ U => aa_ = #[(.ref a), (.ref u), .null, (.int z)] ∧ Z.Warmed39 U.vm ∧ U.heap = h0) (fun _ _ _ _ _ => True) (fun _ U o U' => ∃ v L, o = .returned v ∧ own_QCN Z a u z h0 n0 v U'.heap L ∧ FrameEnd U o U' L ({ frames := 1, cells := 0, slots := 0, locals := 12 } : Room).cells ({ frames := 1, cells := 0, slots := 0, locals := 12 } : Room).slots) := by
  refine MetFree.of_bodySF (plainFor_of_name own_pn1) hisR ?_
  intro p e s m args below meth c s₁ Bd hml0 hP hK
  obtain ⟨rfl, hZ, hh⟩ := hP
  have hx := Bd.exec
  have hby := Bd.bytes
  have hlk : meth.locks = false := BodyLoose.notSynchronized Bd
  have hml : c.maxLocals = 4 := hml0
  have hown : s.vm.findClass "com/example/saldera/saldera/coupon/Cashier" = some m.cls := findClass_of_methodNamed Bd.named
  have hnm := (name_of_methodNamed Bd.named Bd.method).1
  have X0 : Stand p l e ({ frames := 1, cells := 0, slots := 0, locals := 12 } : Room) s m #[(.ref a), (.ref u), .null, (.int z)] below meth c s₁ [] 0 0 := Stand.of_body Bd
  have e0 : s₁.heap = h0 := by rw [← hh, Bd.state]; rfl
  have N0 := Fr.nil n0
  have KP : Keep h0 h0 [a] := Keep.refl _ _
  refine own_start (Fin := (own_Fin s (own_QCN Z a u z h0 n0) ({ frames := 1, cells := 0, slots := 0, locals := 12 } : Room).cells ({ frames := 1, cells := 0, slots := 0, locals := 12 } : Room).slots)) (own_from (mkF m 0 #[rv a, rv u, .val .null, iv z] []) (castTop (own_ef_CN m a u z)) ?_)
  refine own_to (T' := s₁) (mkF m 1 #[rv a, rv u, .val .null, iv z] [(.ref a)]) (fun _ k => XS.aloadN X0.here hx rfl (hb hby own_d_prog_14_method_1_0) rfl rfl k) ?_
  obtain ⟨T1, X1, e1, st1⟩ := initO X0 hx hZ hown (hw _ (List.mem_of_getElem? (i := 39) rfl)) (hw _ (List.mem_of_getElem? (i := 12) rfl)) (hw _ (List.mem_of_getElem? (i := 13) rfl)) e0 (g := (mkF m 1 #[rv a, rv u, .val .null, iv z] [(.ref a)])) rfl (by rw [hml]; rfl) rfl (hb hby own_d_prog_14_method_1_1) (by decide) (W := 0) (by show 2 * 0 + _ ≤ _; exact Nat.le_of_eq rfl) (by decide)
  refine own_to (mkF m 4 #[rv a, rv u, .val .null, iv z] []) st1 ?_
  refine own_to (T' := T1) (mkF m 5 #[rv a, rv u, .val .null, iv z] [(.ref a)]) (fun _ k => XS.aloadN X1.here hx rfl (hb hby own_d_prog_14_method_1_4) rfl rfl k) ?_
  refine own_to (T' := T1) (mkF m 6 #[rv a, rv u, .val .null, iv z] [(.ref u), (.ref a)]) (fun _ k => XS.aloadN X1.here hx rfl (hb hby own_d_prog_14_method_1_5) rfl rfl k) ?_
  obtain ⟨T2, h2, X2, e2, W2, st2⟩ := putF X1 hx hZ hown (host := "") (Or.inl (hw _ (List.mem_of_getElem? (i := 40) rfl))) Via.refl e1 F_username_a E_a (Or.inr ⟨(hw _ (List.mem_of_getElem? (i := 41) rfl)), rfl, hnm⟩) (hw _ (List.mem_of_getElem? (i := 31) rfl)) (ty := (.object "java/lang/String")) (by decide) rfl rfl (g := (mkF m 6 #[rv a, rv u, .val .null, iv z] [(.ref u), (.ref a)])) rfl rfl (hb hby own_d_prog_14_method_1_6)
  refine own_to (mkF m 9 #[rv a, rv u, .val .null, iv z] []) st2 ?_
  have N2 := Fr.snoc X2 N0 ge_a
  have tmp2 : Fld Z h2 a "com/example/saldera/saldera/coupon/Cashier" "username" "Ljava/lang/String;" (.ref u) := F_username_a.same W2
  have OL := OL.wr W2 ge_a
  have KP := KP.wr W2 (Or.inl (List.mem_of_getElem? (i := 0) rfl))
  have E_a := E_a.wr W2
  have F_branch_a := F_branch_a.other W2 (Or.inr (slot_ne (Or.inr (hw _ (List.mem_of_getElem? (i := 43) rfl))) (Or.inr (hw _ (List.mem_of_getElem? (i := 41) rfl))) (by decide) (t := (.object "java/lang/String")) (t' := (.object "java/lang/String")) (by decide) (by decide)))
  have F_crossBranch_a := F_crossBranch_a.other W2 (Or.inr (slot_ne (Or.inr (hw _ (List.mem_of_getElem? (i := 45) rfl))) (Or.inr (hw _ (List.mem_of_getElem? (i := 41) rfl))) (by decide) (t := .boolean) (t' := (.object "java/lang/String")) (by decide) (by decide)))
  have F_username_a := tmp2
  refine own_to (T' := T2) (mkF m 10 #[rv a, rv u, .val .null, iv z] [(.ref a)]) (fun _ k => XS.aloadN X2.here hx rfl (hb hby own_d_prog_14_method_1_9) rfl rfl k) ?_
  refine own_to (T' := T2) (mkF m 11 #[rv a, rv u, .val .null, iv z] [.null, (.ref a)]) (fun _ k => XS.aloadN X2.here hx rfl (hb hby own_d_prog_14_method_1_10) rfl rfl k) ?_
  obtain ⟨T3, h3, X3, e3, W3, st3⟩ := putF X2 hx hZ hown (host := "") (Or.inl (hw _ (List.mem_of_getElem? (i := 42) rfl))) Via.refl e2 F_branch_a E_a (Or.inr ⟨(hw _ (List.mem_of_getElem? (i := 43) rfl)), rfl, hnm⟩) (hw _ (List.mem_of_getElem? (i := 31) rfl)) (ty := (.object "java/lang/String")) (by decide) rfl rfl (g := (mkF m 11 #[rv a, rv u, .val .null, iv z] [.null, (.ref a)])) rfl rfl (hb hby own_d_prog_14_method_1_11)
  refine own_to (mkF m 14 #[rv a, rv u, .val .null, iv z] []) st3 ?_
  have N3 := Fr.snoc X3 N2 ge_a
  have tmp3 : Fld Z h3 a "com/example/saldera/saldera/coupon/Cashier" "branch" "Ljava/lang/String;" .null := F_branch_a.same W3
  have OL := OL.wr W3 ge_a
  have KP := KP.wr W3 (Or.inl (List.mem_of_getElem? (i := 0) rfl))
  have E_a := E_a.wr W3
  have F_username_a := F_username_a.other W3 (Or.inr (slot_ne (Or.inr (hw _ (List.mem_of_getElem? (i := 41) rfl))) (Or.inr (hw _ (List.mem_of_getElem? (i := 43) rfl))) (by decide) (t := (.object "java/lang/String")) (t' := (.object "java/lang/String")) (by decide) (by decide)))
  have F_crossBranch_a := F_crossBranch_a.other W3 (Or.inr (slot_ne (Or.inr (hw _ (List.mem_of_getElem? (i := 45) rfl))) (Or.inr (hw _ (List.mem_of_getElem? (i := 43) rfl))) (by decide) (t := .boolean) (t' := (.object "java/lang/String")) (by decide) (by decide)))
  have F_branch_a := tmp3
  refine own_to (T' := T3) (mkF m 15 #[rv a, rv u, .val .null, iv z] [(.ref a)]) (fun _ k => XS.aloadN X3.here hx rfl (hb hby own_d_prog_14_method_1_14) rfl rfl k) ?_
  refine own_to (T' := T3) (mkF m 16 #[rv a, rv u, .val .null, iv z] [(.int z), (.ref a)]) (fun _ k => XS.iloadN X3.here hx rfl (hb hby own_d_prog_14_method_1_15) rfl k) ?_
  obtain ⟨T4, h4, X4, e4, W4, st4⟩ := putFN X3 hx hZ hown (hw _ (List.mem_of_getElem? (i := 44) rfl)) Via.refl e3 F_crossBranch_a E_a (Or.inr ⟨(hw _ (List.mem_of_getElem? (i := 45) rfl)), rfl, hnm⟩) (hw _ (List.mem_of_getElem? (i := 31) rfl)) (ty := .boolean) (v' := (.int (nar .boolean z))) (by decide) rfl (fits_nar_bool _) (g := (mkF m 16 #[rv a, rv u, .val .null, iv z] [(.int z), (.ref a)])) rfl rfl (hb hby own_d_prog_14_method_1_16)
  refine own_to (mkF m 19 #[rv a, rv u, .val .null, iv z] []) st4 ?_
  have N4 := Fr.snoc X4 N3 ge_a
  have tmp4 : Fld Z h4 a "com/example/saldera/saldera/coupon/Cashier" "crossBranch" "Z" (.int (nar .boolean z)) := F_crossBranch_a.same W4
  have OL := OL.wr W4 ge_a
  have KP := KP.wr W4 (Or.inl (List.mem_of_getElem? (i := 0) rfl))
  have E_a := E_a.wr W4
  have F_username_a := F_username_a.other W4 (Or.inr (slot_ne (Or.inr (hw _ (List.mem_of_getElem? (i := 41) rfl))) (Or.inr (hw _ (List.mem_of_getElem? (i := 45) rfl))) (by decide) (t := (.object "java/lang/String")) (t' := .boolean) (by decide) (by decide)))
  have F_branch_a := F_branch_a.other W4 (Or.inr (slot_ne (Or.inr (hw _ (List.mem_of_getElem? (i := 43) rfl))) (Or.inr (hw _ (List.mem_of_getElem? (i := 45) rfl))) (by decide) (t := (.object "java/lang/String")) (t' := .boolean) (by decide) (by decide)))
  have F_crossBranch_a := tmp4
  exact own_ret0 X4 hx Bd.returns hlk (hb hby own_d_prog_14_method_1_19) (by decide) (by decide) (by rw [e4]; exact ⟨rfl, N4, KP, E_a, F_branch_a, F_crossBranch_a⟩)
def own_QCB (Z : State) (a u : Addr) (b : Addr) (z : Int32) (h0 : Heap) (n0 : Nat) (v : Option Value) (h : Heap) (L : List Loc) : Prop := v = none ∧ Fr n0 L ∧ Keep h0 h [a] ∧ Exa Z h a "com/example/saldera/saldera/coupon/Cashier" ∧ Fld Z h a "com/example/saldera/saldera/coupon/Cashier" "branch" "Ljava/lang/String;" (.ref b) ∧ Fld Z h a "com/example/saldera/saldera/coupon/Cashier" "crossBranch" "Z" (.int (nar .boolean z))
set_option maxRecDepth 65536 in
set_option maxHeartbeats 40000000 in
theorem own_rmCB (l : Launch) (Z : State) (a0 : Array Value) (hw : ∀ d ∈ tables_1, d.before a0 Z = true) (ws : List Jvm.Cond) (a u : Addr) (b : Addr) (z : Int32) (h0 : Heap) (n0 : Nat) (Z0 : n0 ≤ h0.size) (OL : Old Z n0 h0) (E_a : Exa Z h0 a "com/example/saldera/saldera/coupon/Cashier") (ge_a : n0 ≤ a) (F_username_a : Fld Z h0 a "com/example/saldera/saldera/coupon/Cashier" "username" "Ljava/lang/String;" .null) (F_branch_a : Fld Z h0 a "com/example/saldera/saldera/coupon/Cashier" "branch" "Ljava/lang/String;" .null) (F_crossBranch_a : Fld Z h0 a "com/example/saldera/saldera/coupon/Cashier" "crossBranch" "Z" (.int (0 : Int32))) :
    MetFree l (⟨"com/example/saldera/saldera/coupon/Cashier", "<init>", "(Ljava/lang/String;Ljava/lang/String;Z)V"⟩ : MethodName) (head1 (Jvm.Cond.code (⟨"com/example/saldera/saldera/coupon/Cashier", "<init>", "(Ljava/lang/String;Ljava/lang/String;Z)V"⟩ : MethodName) prog_14_method_1_code 4 none :: ws) ({ frames := 1, cells := 0, slots := 0, locals := 12 } : Room)) (fun aa_ U => aa_ = #[(.ref a), (.ref u), (.ref b), (.int z)] ∧ Z.Warmed39 U.vm ∧ U.heap = h0) (fun _ _ _ _ _ => True) (fun _ U o U' => ∃ v L, o = .returned v ∧ own_QCB Z a u b z h0 n0 v U'.heap L ∧ FrameEnd U o U' L ({ frames := 1, cells := 0, slots := 0, locals := 12 } : Room).cells ({ frames := 1, cells := 0, slots := 0, locals := 12 } : Room).slots) := by
  refine MetFree.of_bodySF (plainFor_of_name own_pn1) hisR ?_
  intro p e s m args below meth c s₁ Bd hml0 hP hK
  obtain ⟨rfl, hZ, hh⟩ := hP
  have hx := Bd.exec
  have hby := Bd.bytes
  have hlk : meth.locks = false := BodyLoose.notSynchronized Bd
  have hml : c.maxLocals = 4 := hml0
  have hown : s.vm.findClass "com/example/saldera/saldera/coupon/Cashier" = some m.cls := findClass_of_methodNamed Bd.named
  have hnm := (name_of_methodNamed Bd.named Bd.method).1
  have X0 : Stand p l e ({ frames := 1, cells := 0, slots := 0, locals := 12 } : Room) s m #[(.ref a), (.ref u), (.ref b), (.int z)] below meth c s₁ [] 0 0 := Stand.of_body Bd
  have e0 : s₁.heap = h0 := by rw [← hh, Bd.state]; rfl
  have N0 := Fr.nil n0
  have KP : Keep h0 h0 [a] := Keep.refl _ _
  refine own_start (Fin := (own_Fin s (own_QCB Z a u b z h0 n0) ({ frames := 1, cells := 0, slots := 0, locals := 12 } : Room).cells ({ frames := 1, cells := 0, slots := 0, locals := 12 } : Room).slots)) (own_from (mkF m 0 #[rv a, rv u, rv b, iv z] []) (castTop (own_ef_CB m a u b z)) ?_)
  refine own_to (T' := s₁) (mkF m 1 #[rv a, rv u, rv b, iv z] [(.ref a)]) (fun _ k => XS.aloadN X0.here hx rfl (hb hby own_d_prog_14_method_1_0) rfl rfl k) ?_
  obtain ⟨T5, X5, e5, st5⟩ := initO X0 hx hZ hown (hw _ (List.mem_of_getElem? (i := 39) rfl)) (hw _ (List.mem_of_getElem? (i := 12) rfl)) (hw _ (List.mem_of_getElem? (i := 13) rfl)) e0 (g := (mkF m 1 #[rv a, rv u, rv b, iv z] [(.ref a)])) rfl (by rw [hml]; rfl) rfl (hb hby own_d_prog_14_method_1_1) (by decide) (W := 0) (by show 2 * 0 + _ ≤ _; exact Nat.le_of_eq rfl) (by decide)
  refine own_to (mkF m 4 #[rv a, rv u, rv b, iv z] []) st5 ?_
  refine own_to (T' := T5) (mkF m 5 #[rv a, rv u, rv b, iv z] [(.ref a)]) (fun _ k => XS.aloadN X5.here hx rfl (hb hby own_d_prog_14_method_1_4) rfl rfl k) ?_
  refine own_to (T' := T5) (mkF m 6 #[rv a, rv u, rv b, iv z] [(.ref u), (.ref a)]) (fun _ k => XS.aloadN X5.here hx rfl (hb hby own_d_prog_14_method_1_5) rfl rfl k) ?_
  obtain ⟨T6, h6, X6, e6, W6, st6⟩ := putF X5 hx hZ hown (host := "") (Or.inl (hw _ (List.mem_of_getElem? (i := 40) rfl))) Via.refl e5 F_username_a E_a (Or.inr ⟨(hw _ (List.mem_of_getElem? (i := 41) rfl)), rfl, hnm⟩) (hw _ (List.mem_of_getElem? (i := 31) rfl)) (ty := (.object "java/lang/String")) (by decide) rfl rfl (g := (mkF m 6 #[rv a, rv u, rv b, iv z] [(.ref u), (.ref a)])) rfl rfl (hb hby own_d_prog_14_method_1_6)
  refine own_to (mkF m 9 #[rv a, rv u, rv b, iv z] []) st6 ?_
  have N6 := Fr.snoc X6 N0 ge_a
  have tmp6 : Fld Z h6 a "com/example/saldera/saldera/coupon/Cashier" "username" "Ljava/lang/String;" (.ref u) := F_username_a.same W6
  have OL := OL.wr W6 ge_a
  have KP := KP.wr W6 (Or.inl (List.mem_of_getElem? (i := 0) rfl))
  have E_a := E_a.wr W6
  have F_branch_a := F_branch_a.other W6 (Or.inr (slot_ne (Or.inr (hw _ (List.mem_of_getElem? (i := 43) rfl))) (Or.inr (hw _ (List.mem_of_getElem? (i := 41) rfl))) (by decide) (t := (.object "java/lang/String")) (t' := (.object "java/lang/String")) (by decide) (by decide)))
  have F_crossBranch_a := F_crossBranch_a.other W6 (Or.inr (slot_ne (Or.inr (hw _ (List.mem_of_getElem? (i := 45) rfl))) (Or.inr (hw _ (List.mem_of_getElem? (i := 41) rfl))) (by decide) (t := .boolean) (t' := (.object "java/lang/String")) (by decide) (by decide)))
  have F_username_a := tmp6
  refine own_to (T' := T6) (mkF m 10 #[rv a, rv u, rv b, iv z] [(.ref a)]) (fun _ k => XS.aloadN X6.here hx rfl (hb hby own_d_prog_14_method_1_9) rfl rfl k) ?_
  refine own_to (T' := T6) (mkF m 11 #[rv a, rv u, rv b, iv z] [(.ref b), (.ref a)]) (fun _ k => XS.aloadN X6.here hx rfl (hb hby own_d_prog_14_method_1_10) rfl rfl k) ?_
  obtain ⟨T7, h7, X7, e7, W7, st7⟩ := putF X6 hx hZ hown (host := "") (Or.inl (hw _ (List.mem_of_getElem? (i := 42) rfl))) Via.refl e6 F_branch_a E_a (Or.inr ⟨(hw _ (List.mem_of_getElem? (i := 43) rfl)), rfl, hnm⟩) (hw _ (List.mem_of_getElem? (i := 31) rfl)) (ty := (.object "java/lang/String")) (by decide) rfl rfl (g := (mkF m 11 #[rv a, rv u, rv b, iv z] [(.ref b), (.ref a)])) rfl rfl (hb hby own_d_prog_14_method_1_11)
  refine own_to (mkF m 14 #[rv a, rv u, rv b, iv z] []) st7 ?_
  have N7 := Fr.snoc X7 N6 ge_a
  have tmp7 : Fld Z h7 a "com/example/saldera/saldera/coupon/Cashier" "branch" "Ljava/lang/String;" (.ref b) := F_branch_a.same W7
  have OL := OL.wr W7 ge_a
  have KP := KP.wr W7 (Or.inl (List.mem_of_getElem? (i := 0) rfl))
  have E_a := E_a.wr W7
  have F_username_a := F_username_a.other W7 (Or.inr (slot_ne (Or.inr (hw _ (List.mem_of_getElem? (i := 41) rfl))) (Or.inr (hw _ (List.mem_of_getElem? (i := 43) rfl))) (by decide) (t := (.object "java/lang/String")) (t' := (.object "java/lang/String")) (by decide) (by decide)))
  have F_crossBranch_a := F_crossBranch_a.other W7 (Or.inr (slot_ne (Or.inr (hw _ (List.mem_of_getElem? (i := 45) rfl))) (Or.inr (hw _ (List.mem_of_getElem? (i := 43) rfl))) (by decide) (t := .boolean) (t' := (.object "java/lang/String")) (by decide) (by decide)))
  have F_branch_a := tmp7
  refine own_to (T' := T7) (mkF m 15 #[rv a, rv u, rv b, iv z] [(.ref a)]) (fun _ k => XS.aloadN X7.here hx rfl (hb hby own_d_prog_14_method_1_14) rfl rfl k) ?_
  refine own_to (T' := T7) (mkF m 16 #[rv a, rv u, rv b, iv z] [(.int z), (.ref a)]) (fun _ k => XS.iloadN X7.here hx rfl (hb hby own_d_prog_14_method_1_15) rfl k) ?_
  obtain ⟨T8, h8, X8, e8, W8, st8⟩ := putFN X7 hx hZ hown (hw _ (List.mem_of_getElem? (i := 44) rfl)) Via.refl e7 F_crossBranch_a E_a (Or.inr ⟨(hw _ (List.mem_of_getElem? (i := 45) rfl)), rfl, hnm⟩) (hw _ (List.mem_of_getElem? (i := 31) rfl)) (ty := .boolean) (v' := (.int (nar .boolean z))) (by decide) rfl (fits_nar_bool _) (g := (mkF m 16 #[rv a, rv u, rv b, iv z] [(.int z), (.ref a)])) rfl rfl (hb hby own_d_prog_14_method_1_16)
  refine own_to (mkF m 19 #[rv a, rv u, rv b, iv z] []) st8 ?_
  have N8 := Fr.snoc X8 N7 ge_a
  have tmp8 : Fld Z h8 a "com/example/saldera/saldera/coupon/Cashier" "crossBranch" "Z" (.int (nar .boolean z)) := F_crossBranch_a.same W8
  have OL := OL.wr W8 ge_a
  have KP := KP.wr W8 (Or.inl (List.mem_of_getElem? (i := 0) rfl))
  have E_a := E_a.wr W8
  have F_username_a := F_username_a.other W8 (Or.inr (slot_ne (Or.inr (hw _ (List.mem_of_getElem? (i := 41) rfl))) (Or.inr (hw _ (List.mem_of_getElem? (i := 45) rfl))) (by decide) (t := (.object "java/lang/String")) (t' := .boolean) (by decide) (by decide)))
  have F_branch_a := F_branch_a.other W8 (Or.inr (slot_ne (Or.inr (hw _ (List.mem_of_getElem? (i := 43) rfl))) (Or.inr (hw _ (List.mem_of_getElem? (i := 45) rfl))) (by decide) (t := (.object "java/lang/String")) (t' := .boolean) (by decide) (by decide)))
  have F_crossBranch_a := tmp8
  exact own_ret0 X8 hx Bd.returns hlk (hb hby own_d_prog_14_method_1_19) (by decide) (by decide) (by rw [e8]; exact ⟨rfl, N8, KP, E_a, F_branch_a, F_crossBranch_a⟩)
def own_QON (Z : State) (a co : Addr) (h0 : Heap) (n0 : Nat) (v : Option Value) (h : Heap) (L : List Loc) : Prop := v = some (.int 1) ∧ Fr n0 L ∧ h = h0
set_option maxRecDepth 65536 in
set_option maxHeartbeats 40000000 in
theorem own_rmON (l : Launch) (Z : State) (a0 : Array Value) (hw : ∀ d ∈ tables_1, d.before a0 Z = true) (ws : List Jvm.Cond) (a co : Addr) (h0 : Heap) (n0 : Nat) (Z0 : n0 ≤ h0.size) (OL : Old Z n0 h0) (Fa : Fld Z h0 a "com/example/saldera/saldera/coupon/Cashier" "branch" "Ljava/lang/String;" .null) (Ec : Exa Z h0 co "java/lang/String") :
    MetFree l (⟨"com/example/saldera/saldera/coupon/Cashier", "isOtherBranch", "(Ljava/lang/String;)Z"⟩ : MethodName) (head1 (Jvm.Cond.code (⟨"com/example/saldera/saldera/coupon/Cashier", "isOtherBranch", "(Ljava/lang/String;)Z"⟩ : MethodName) prog_14_method_4_code 2 (some .boolean) :: ws) ({ frames := 1, cells := 0, slots := 0, locals := 14 } : Room)) (fun aa_ U => aa_ = #[(.ref a), (.ref co)] ∧ Z.Warmed39 U.vm ∧ U.heap = h0) (fun _ _ _ _ _ => True) (fun _ U o U' => ∃ v L, o = .returned v ∧ own_QON Z a co h0 n0 v U'.heap L ∧ FrameEnd U o U' L ({ frames := 1, cells := 0, slots := 0, locals := 14 } : Room).cells ({ frames := 1, cells := 0, slots := 0, locals := 14 } : Room).slots) := by
  refine MetFree.of_bodySF (plainFor_of_name own_pn1) hisR ?_
  intro p e s m args below meth c s₁ Bd hml0 hP hK
  obtain ⟨rfl, hZ, hh⟩ := hP
  have hx := Bd.exec
  have hby := Bd.bytes
  have hlk : meth.locks = false := BodyLoose.notSynchronized Bd
  have hml : c.maxLocals = 2 := hml0
  have hown : s.vm.findClass "com/example/saldera/saldera/coupon/Cashier" = some m.cls := findClass_of_methodNamed Bd.named
  have hnm := (name_of_methodNamed Bd.named Bd.method).1
  have X0 : Stand p l e ({ frames := 1, cells := 0, slots := 0, locals := 14 } : Room) s m #[(.ref a), (.ref co)] below meth c s₁ [] 0 0 := Stand.of_body Bd
  have e0 : s₁.heap = h0 := by rw [← hh, Bd.state]; rfl
  have N0 := Fr.nil n0
  have KP : Keep h0 h0 [] := Keep.refl _ _
  refine own_start (Fin := (own_Fin s (own_QON Z a co h0 n0) ({ frames := 1, cells := 0, slots := 0, locals := 14 } : Room).cells ({ frames := 1, cells := 0, slots := 0, locals := 14 } : Room).slots)) (own_from (mkF m 0 #[rv a, rv co] []) (castTop (own_ef_ON m a co)) ?_)
  refine own_to (T' := s₁) (mkF m 1 #[rv a, rv co] [(.ref co)]) (fun _ k => XS.aloadN X0.here hx rfl (hb hby own_d_prog_14_method_4_0) rfl rfl k) ?_
  refine own_to (T' := s₁) (mkF m 2 #[rv a, rv co] [(.ref a), (.ref co)]) (fun _ k => XS.aloadN X0.here hx rfl (hb hby own_d_prog_14_method_4_1) rfl rfl k) ?_
  obtain ⟨T9, X9, e9, st9⟩ := getF X0 hx hZ hown (host := "") (Or.inl (hw _ (List.mem_of_getElem? (i := 42) rfl))) Via.refl e0 Fa (g := (mkF m 2 #[rv a, rv co] [(.ref a), (.ref co)])) rfl rfl (hb hby own_d_prog_14_method_4_2)
  refine own_to (mkF m 5 #[rv a, rv co] [.null, (.ref co)]) st9 ?_
  obtain ⟨cq10, kq10, q10a, q10b, q10c⟩ := isOf hZ e9 Ec
  obtain ⟨_, _, ⟨T10, L10, k10, n10⟩, -, X10, ⟨Lc10, hQ10, l10, y10, z10⟩, st10⟩ := X9.virtualBack hx (y := (⟨"java/lang/String", "equals", "(Ljava/lang/Object;)Z"⟩ : MethodName)) (z := (⟨"java/lang/String", "equals", "(Ljava/lang/Object;)Z"⟩ : MethodName)) hown (mvT hZ (hw _ (List.mem_of_getElem? (i := 51) rfl))) (mvT hZ (hw _ (List.mem_of_getElem? (i := 52) rfl))) (notFace_of_selects (args := #[]) (mvT hZ (hw _ (List.mem_of_getElem? (i := 54) rfl)))) (mvT hZ (hw _ (List.mem_of_getElem? (i := 54) rfl))) (mvT hZ (hw _ (List.mem_of_getElem? (i := 53) rfl))) (by decide) (backOf (W := 0) (own_rmEN l Z a0 hw [] co h0 n0 (Nat.le_trans Z0 KP.1) OL) hZ (hw _ (List.mem_of_getElem? (i := 55) rfl)) (hw _ (List.mem_of_getElem? (i := 2) rfl)) (by decide) (by decide)) q10a q10c (g := (mkF m 5 #[rv a, rv co] [.null, (.ref co)])) rfl (by rw [hml]; rfl) (Steps.refl _) (argsL := [.null]) (rest := []) (lenOf own_pd0 rfl) rfl (by show 2 * 0 + _ ≤ _; exact Nat.le_of_eq rfl) (hb hby own_d_prog_14_method_4_5) (fun _ _ => ⟨rfl, e9, (by decide : 0 + 0 ≤ _), (by decide : 0 + 0 ≤ _)⟩)
  dsimp only [Pt.U, Pt.locs, Pt.cells, Pt.slots] at X10 l10 y10 z10 st10 hQ10
  subst l10 y10 z10
  obtain ⟨rfl, N10q, e10⟩ := hQ10
  have N10 := Fr.app N0 N10q
  refine own_via (mkF m 8 #[rv a, rv co] [(.int (0 : Int32))]) st10 ?_
  refine own_to (T' := T10) (mkF m 11 #[rv a, rv co] []) (fun _ k => XS.ifNo X10.here hx rfl (hb hby own_d_prog_14_method_4_8) rfl ((if0 _ _).trans (teq (by decide : (0 : Int32) = (0 : Int32))).2) k) ?_
  refine own_to (T' := T10) (mkF m 12 #[rv a, rv co] [(.int (1 : Int32))]) (fun _ k => XS.iconst X10.here hx rfl (hb hby own_d_prog_14_method_4_11) k) ?_
  refine own_to (T' := T10) (mkF m 16 #[rv a, rv co] [(.int (1 : Int32))]) (fun _ k => XS.goto X10.here hx rfl (pc0 := 12) (pc' := 16) rfl (hb hby own_d_prog_14_method_4_12) (by decide) (by decide) k) ?_
  exact own_retN X10 hx (t := .boolean) Bd.returns (by simp) hlk (hb hby own_d_prog_14_method_4_16) (by decide) (by decide) (by rw [e10]; exact ⟨rfl, N10, rfl⟩)
def own_QOB (Z : State) (G1 : Int32) (a co tc : Addr) (kc : ClassId) (cs : List Int32) (b tb : Addr) (kb : ClassId) (ds : List Int32) (h0 : Heap) (n0 : Nat) (v : Option Value) (h : Heap) (L : List Loc) : Prop := ∃ r : Int32, v = some (.int r) ∧ (cs = ds → r = 0) ∧ (¬ cs = ds → r = 1) ∧ Fr n0 L ∧ h = h0
set_option maxRecDepth 65536 in
set_option maxHeartbeats 40000000 in
theorem own_rmOB (l : Launch) (Z : State) (a0 : Array Value) (hw : ∀ d ∈ tables_1, d.before a0 Z = true) (ws : List Jvm.Cond) (G1 : Int32) (a co tc : Addr) (kc : ClassId) (cs : List Int32) (b tb : Addr) (kb : ClassId) (ds : List Int32) (h0 : Heap) (n0 : Nat) (Z0 : n0 ≤ h0.size) (OL : Old Z n0 h0) (Fa : Fld Z h0 a "com/example/saldera/saldera/coupon/Cashier" "branch" "Ljava/lang/String;" (.ref b)) (Sc : own_Str Z h0 co tc kc cs) (Sb : own_Str Z h0 b tb kb ds) (O2 : Sta Z Z.heap "java/lang/String" "COMPACT_STRINGS" "Z" (.int G1)) (P5 : ¬ (G1 = (0 : Int32))) :
    MetFree l (⟨"com/example/saldera/saldera/coupon/Cashier", "isOtherBranch", "(Ljava/lang/String;)Z"⟩ : MethodName) (head1 (Jvm.Cond.code (⟨"com/example/saldera/saldera/coupon/Cashier", "isOtherBranch", "(Ljava/lang/String;)Z"⟩ : MethodName) prog_14_method_4_code 2 (some .boolean) :: ws) ({ frames := 3, cells := 0, slots := 0, locals := 28 } : Room)) (fun aa_ U => aa_ = #[(.ref a), (.ref co)] ∧ Z.Warmed39 U.vm ∧ U.heap = h0) (fun _ _ _ _ _ => True) (fun _ U o U' => ∃ v L, o = .returned v ∧ own_QOB Z G1 a co tc kc cs b tb kb ds h0 n0 v U'.heap L ∧ FrameEnd U o U' L ({ frames := 3, cells := 0, slots := 0, locals := 28 } : Room).cells ({ frames := 3, cells := 0, slots := 0, locals := 28 } : Room).slots) := by
  refine MetFree.of_bodySF (plainFor_of_name own_pn1) hisR ?_
  intro p e s m args below meth c s₁ Bd hml0 hP hK
  obtain ⟨rfl, hZ, hh⟩ := hP
  have hx := Bd.exec
  have hby := Bd.bytes
  have hlk : meth.locks = false := BodyLoose.notSynchronized Bd
  have hml : c.maxLocals = 2 := hml0
  have hown : s.vm.findClass "com/example/saldera/saldera/coupon/Cashier" = some m.cls := findClass_of_methodNamed Bd.named
  have hnm := (name_of_methodNamed Bd.named Bd.method).1
  have X0 : Stand p l e ({ frames := 3, cells := 0, slots := 0, locals := 28 } : Room) s m #[(.ref a), (.ref co)] below meth c s₁ [] 0 0 := Stand.of_body Bd
  have e0 : s₁.heap = h0 := by rw [← hh, Bd.state]; rfl
  have N0 := Fr.nil n0
  have KP : Keep h0 h0 [] := Keep.refl _ _
  refine own_start (Fin := (own_Fin s (own_QOB Z G1 a co tc kc cs b tb kb ds h0 n0) ({ frames := 3, cells := 0, slots := 0, locals := 28 } : Room).cells ({ frames := 3, cells := 0, slots := 0, locals := 28 } : Room).slots)) (own_from (mkF m 0 #[rv a, rv co] []) (castTop (own_ef_OB m a co)) ?_)
  have hwsE : ∀ d ∈ StrChars.Road.wordsEq, d.before a0 Z = true := fun d hd => hw d (own_wEq d hd)
  refine own_to (T' := s₁) (mkF m 1 #[rv a, rv co] [(.ref co)]) (fun _ k => XS.aloadN X0.here hx rfl (hb hby own_d_prog_14_method_4_0) rfl rfl k) ?_
  refine own_to (T' := s₁) (mkF m 2 #[rv a, rv co] [(.ref a), (.ref co)]) (fun _ k => XS.aloadN X0.here hx rfl (hb hby own_d_prog_14_method_4_1) rfl rfl k) ?_
  obtain ⟨T11, X11, e11, st11⟩ := getF X0 hx hZ hown (host := "") (Or.inl (hw _ (List.mem_of_getElem? (i := 42) rfl))) Via.refl e0 Fa (g := (mkF m 2 #[rv a, rv co] [(.ref a), (.ref co)])) rfl rfl (hb hby own_d_prog_14_method_4_2)
  refine own_to (mkF m 5 #[rv a, rv co] [(.ref b), (.ref co)]) st11 ?_
  obtain ⟨cq12, kq12, q12a, q12b, q12c⟩ := isOf hZ e11 Sc.1
  obtain ⟨_, _, ⟨T12, L12, k12, n12⟩, -, X12, ⟨Lc12, hQ12, l12, y12, z12⟩, st12⟩ := X11.virtualBack hx (y := (⟨"java/lang/String", "equals", "(Ljava/lang/Object;)Z"⟩ : MethodName)) (z := (⟨"java/lang/String", "equals", "(Ljava/lang/Object;)Z"⟩ : MethodName)) hown (mvT hZ (hw _ (List.mem_of_getElem? (i := 51) rfl))) (mvT hZ (hw _ (List.mem_of_getElem? (i := 52) rfl))) (notFace_of_selects (args := #[]) (mvT hZ (hw _ (List.mem_of_getElem? (i := 54) rfl)))) (mvT hZ (hw _ (List.mem_of_getElem? (i := 54) rfl))) (mvT hZ (hw _ (List.mem_of_getElem? (i := 53) rfl))) (by decide) (own_backEq (W := 0) hZ hwsE (hw _ (List.mem_of_getElem? (i := 1) rfl)) Sc Sb (O2.ext OL.2) P5 (by decide) (by decide)) q12a q12c (g := (mkF m 5 #[rv a, rv co] [(.ref b), (.ref co)])) rfl (by rw [hml]; rfl) (Steps.refl _) (argsL := [(.ref b)]) (rest := []) (lenOf own_pd0 rfl) rfl (by show 2 * 0 + _ ≤ _; exact Nat.le_of_eq rfl) (hb hby own_d_prog_14_method_4_5) (fun _ _ => ⟨rfl, e11, (by decide : 0 + 0 ≤ _), (by decide : 0 + 0 ≤ _)⟩)
  dsimp only [Pt.U, Pt.locs, Pt.cells, Pt.slots] at X12 l12 y12 z12 st12 hQ12
  subst l12 y12 z12
  obtain ⟨hor12, rfl, e12⟩ := hQ12
  have N12q : Fr n0 ([] : List Loc) := Fr.nil n0
  have N12 := Fr.app N0 N12q
  rcases hor12 with ⟨rfl, q⟩ | ⟨rfl, q⟩
  · refine own_via (mkF m 8 #[rv a, rv co] [(.int (1 : Int32))]) st12 ?_
    refine own_to (T' := T12) (mkF m 15 #[rv a, rv co] []) (fun _ k => XS.ifYes X12.here hx rfl (pc0 := 8) (pc' := 15) rfl (hb hby own_d_prog_14_method_4_8) rfl ((if0 _ _).trans (feq (by decide : ¬ ((1 : Int32) = (0 : Int32)))).2) (by decide) (by decide) k) ?_
    refine own_to (T' := T12) (mkF m 16 #[rv a, rv co] [(.int (0 : Int32))]) (fun _ k => XS.iconst X12.here hx rfl (hb hby own_d_prog_14_method_4_15) k) ?_
    exact own_retN X12 hx (t := .boolean) Bd.returns (by simp) hlk (hb hby own_d_prog_14_method_4_16) (by decide) (by decide) (by rw [e12]; exact ⟨_, rfl, fun _ => rfl, fun z => absurd q z, N12, rfl⟩)
  · refine own_via (mkF m 8 #[rv a, rv co] [(.int (0 : Int32))]) st12 ?_
    refine own_to (T' := T12) (mkF m 11 #[rv a, rv co] []) (fun _ k => XS.ifNo X12.here hx rfl (hb hby own_d_prog_14_method_4_8) rfl ((if0 _ _).trans (teq (by decide : (0 : Int32) = (0 : Int32))).2) k) ?_
    refine own_to (T' := T12) (mkF m 12 #[rv a, rv co] [(.int (1 : Int32))]) (fun _ k => XS.iconst X12.here hx rfl (hb hby own_d_prog_14_method_4_11) k) ?_
    refine own_to (T' := T12) (mkF m 16 #[rv a, rv co] [(.int (1 : Int32))]) (fun _ k => XS.goto X12.here hx rfl (pc0 := 12) (pc' := 16) rfl (hb hby own_d_prog_14_method_4_12) (by decide) (by decide) k) ?_
    exact own_retN X12 hx (t := .boolean) Bd.returns (by simp) hlk (hb hby own_d_prog_14_method_4_16) (by decide) (by decide) (by rw [e12]; exact ⟨_, rfl, fun z => absurd z q, fun _ => rfl, N12, rfl⟩)
def own_Q0 (Z : State) (p0 p1 p2 : Int32) (G1 : Int32) (h0 : Heap) (n0 : Nat) (v : Option Value) (h : Heap) (L : List Loc) : Prop := v = some (.int 1) ∧ Fr n0 L
set_option maxRecDepth 65536 in
set_option maxHeartbeats 40000000 in
theorem own_rm0 (l : Launch) (Z : State) (a0 : Array Value) (hw : ∀ d ∈ tables_1, d.before a0 Z = true) (ws : List Jvm.Cond) (p0 p1 p2 : Int32) (G1 : Int32) (h0 : Heap) (n0 : Nat) (Z0 : n0 ≤ h0.size) (OL : Old Z n0 h0) (O2 : Sta Z Z.heap "java/lang/String" "COMPACT_STRINGS" "Z" (.int G1)) (P5 : ¬ (G1 = (0 : Int32))) :
    MetFree l x (head1 (Jvm.Cond.code x code maxLocals ret :: ws) room_1) (fun aa_ U => aa_ = #[(.int p0), (.int p1), (.int p2)] ∧ Z.Warmed39 U.vm ∧ U.heap = h0) (fun _ _ _ _ _ => True) (fun _ U o U' => ∃ v L, o = .returned v ∧ own_Q0 Z p0 p1 p2 G1 h0 n0 v U'.heap L ∧ ReturnedEndW U o U' L room_1.cells room_1.slots) := by
  refine MetFree.of_bodySF (plainFor_of_name own_pn2) hisR ?_
  intro p e s m args below meth c s₁ Bd hml0 hP hK
  obtain ⟨rfl, hZ, hh⟩ := hP
  have hx := Bd.exec
  have hby := Bd.bytes
  have hlk : meth.locks = false := BodyLoose.notSynchronized Bd
  have hml : c.maxLocals = 20 := hml0
  have hown : s.vm.findClass "com/example/saldera/saldera/coupon/CashierIsOtherBranchPinLaw" = some m.cls := findClass_of_methodNamed Bd.named
  have hnm := (name_of_methodNamed Bd.named Bd.method).1
  have X0 : Stand p l e room_1 s m #[(.int p0), (.int p1), (.int p2)] below meth c s₁ [] 0 0 := Stand.of_body Bd
  have e0 : s₁.heap = h0 := by rw [← hh, Bd.state]; rfl
  have N0 := Fr.nil n0
  have KP : Keep h0 h0 [] := Keep.refl _ _
  have hS : s.Since s.vm 0 := (State.WarmedH.refl s).since 0
  have hk1 : 0 ≤ h0.size := Nat.zero_le _
  refine own_start (Fin := (own_FinW s (own_Q0 Z p0 p1 p2 G1 h0 n0) room_1.cells room_1.slots)) (own_from (mkF m 0 #[iv p0, iv p1, iv p2, .unset, .unset, .unset, .unset, .unset, .unset, .unset, .unset, .unset, .unset, .unset, .unset, .unset, .unset, .unset, .unset, .unset] []) (castTop (own_ef_0 m p0 p1 p2)) ?_)
  have hwsV : ∀ d ∈ StrChars.Road.words, d.before a0 Z = true := fun d hd => hw d (own_wV d hd)
  have hwsS : ∀ d ∈ Bundle.stringAtoms, d.before a0 Z = true := fun d hd => hw d (own_wS d hd)
  refine own_to (T' := s₁) (mkF m 1 #[iv p0, iv p1, iv p2, .unset, .unset, .unset, .unset, .unset, .unset, .unset, .unset, .unset, .unset, .unset, .unset, .unset, .unset, .unset, .unset, .unset] [(.int p0)]) (fun _ k => XS.iloadN X0.here hx rfl (hb hby at_0) rfl k) ?_
  refine own_to (T' := s₁) (mkF m 4 #[iv p0, iv p1, iv p2, .unset, .unset, .unset, .unset, .unset, .unset, .unset, .unset, .unset, .unset, .unset, .unset, .unset, .unset, .unset, .unset, .unset] [(.int (255 : Int32)), (.int p0)]) (fun _ k => XS.sipush X0.here hx rfl (hb hby at_1) k) ?_
  refine own_to (T' := s₁) (mkF m 5 #[iv p0, iv p1, iv p2, .unset, .unset, .unset, .unset, .unset, .unset, .unset, .unset, .unset, .unset, .unset, .unset, .unset, .unset, .unset, .unset, .unset] [(.int (p0 &&& (255 : Int32)))]) (fun _ k => XS.iand X0.here hx rfl (hb hby at_4) rfl k) ?_
  refine own_to (T' := s₁) (mkF m 6 #[iv p0, iv p1, iv p2, .unset, .unset, .unset, .unset, .unset, .unset, .unset, .unset, .unset, .unset, .unset, .unset, .unset, .unset, .unset, .unset, .unset] [(.int ((p0 &&& (255 : Int32)).toUInt32.toUInt16.toUInt32.toInt32))]) (fun _ k => XS.i2c X0.here hx rfl (hb hby at_5) rfl k) ?_
  generalize hb0 : ((p0 &&& (255 : Int32)).toUInt32.toUInt16.toUInt32.toInt32) = b0
  have c8_b0 : own_C8 b0 := own_ch8 hb0
  refine own_to (T' := s₁) (mkF m 7 #[iv p0, iv p1, iv p2, iv b0, .unset, .unset, .unset, .unset, .unset, .unset, .unset, .unset, .unset, .unset, .unset, .unset, .unset, .unset, .unset, .unset] []) (fun _ k => XS.istoreN X0.here hx rfl (hb hby at_6) rfl (l' := #[iv p0, iv p1, iv p2, iv b0, .unset, .unset, .unset, .unset, .unset, .unset, .unset, .unset, .unset, .unset, .unset, .unset, .unset, .unset, .unset, .unset]) rfl k) ?_
  refine own_to (T' := s₁) (mkF m 8 #[iv p0, iv p1, iv p2, iv b0, .unset, .unset, .unset, .unset, .unset, .unset, .unset, .unset, .unset, .unset, .unset, .unset, .unset, .unset, .unset, .unset] [(.int p0)]) (fun _ k => XS.iloadN X0.here hx rfl (hb hby at_7) rfl k) ?_
  refine own_to (T' := s₁) (mkF m 10 #[iv p0, iv p1, iv p2, iv b0, .unset, .unset, .unset, .unset, .unset, .unset, .unset, .unset, .unset, .unset, .unset, .unset, .unset, .unset, .unset, .unset] [(.int (8 : Int32)), (.int p0)]) (fun _ k => XS.bipush X0.here hx rfl (hb hby at_8) k) ?_
  refine own_to (T' := s₁) (mkF m 11 #[iv p0, iv p1, iv p2, iv b0, .unset, .unset, .unset, .unset, .unset, .unset, .unset, .unset, .unset, .unset, .unset, .unset, .unset, .unset, .unset, .unset] [(.int ((p0.toUInt32 >>> ((8 : Int32) &&& 31).toUInt32).toInt32))]) (fun _ k => XS.iushr X0.here hx rfl (hb hby at_10) rfl k) ?_
  refine own_to (T' := s₁) (mkF m 14 #[iv p0, iv p1, iv p2, iv b0, .unset, .unset, .unset, .unset, .unset, .unset, .unset, .unset, .unset, .unset, .unset, .unset, .unset, .unset, .unset, .unset] [(.int (255 : Int32)), (.int ((p0.toUInt32 >>> ((8 : Int32) &&& 31).toUInt32).toInt32))]) (fun _ k => XS.sipush X0.here hx rfl (hb hby at_11) k) ?_
  refine own_to (T' := s₁) (mkF m 15 #[iv p0, iv p1, iv p2, iv b0, .unset, .unset, .unset, .unset, .unset, .unset, .unset, .unset, .unset, .unset, .unset, .unset, .unset, .unset, .unset, .unset] [(.int (((p0.toUInt32 >>> ((8 : Int32) &&& 31).toUInt32).toInt32) &&& (255 : Int32)))]) (fun _ k => XS.iand X0.here hx rfl (hb hby at_14) rfl k) ?_
  refine own_to (T' := s₁) (mkF m 16 #[iv p0, iv p1, iv p2, iv b0, .unset, .unset, .unset, .unset, .unset, .unset, .unset, .unset, .unset, .unset, .unset, .unset, .unset, .unset, .unset, .unset] [(.int ((((p0.toUInt32 >>> ((8 : Int32) &&& 31).toUInt32).toInt32) &&& (255 : Int32)).toUInt32.toUInt16.toUInt32.toInt32))]) (fun _ k => XS.i2c X0.here hx rfl (hb hby at_15) rfl k) ?_
  generalize hb1 : ((((p0.toUInt32 >>> ((8 : Int32) &&& 31).toUInt32).toInt32) &&& (255 : Int32)).toUInt32.toUInt16.toUInt32.toInt32) = b1
  have c8_b1 : own_C8 b1 := own_ch8 hb1
  refine own_to (T' := s₁) (mkF m 18 #[iv p0, iv p1, iv p2, iv b0, iv b1, .unset, .unset, .unset, .unset, .unset, .unset, .unset, .unset, .unset, .unset, .unset, .unset, .unset, .unset, .unset] []) (fun _ k => XS.istore X0.here hx rfl (hb hby at_16) rfl (l' := #[iv p0, iv p1, iv p2, iv b0, iv b1, .unset, .unset, .unset, .unset, .unset, .unset, .unset, .unset, .unset, .unset, .unset, .unset, .unset, .unset, .unset]) rfl k) ?_
  refine own_to (T' := s₁) (mkF m 19 #[iv p0, iv p1, iv p2, iv b0, iv b1, .unset, .unset, .unset, .unset, .unset, .unset, .unset, .unset, .unset, .unset, .unset, .unset, .unset, .unset, .unset] [(.int p0)]) (fun _ k => XS.iloadN X0.here hx rfl (hb hby at_18) rfl k) ?_
  refine own_to (T' := s₁) (mkF m 21 #[iv p0, iv p1, iv p2, iv b0, iv b1, .unset, .unset, .unset, .unset, .unset, .unset, .unset, .unset, .unset, .unset, .unset, .unset, .unset, .unset, .unset] [(.int (16 : Int32)), (.int p0)]) (fun _ k => XS.bipush X0.here hx rfl (hb hby at_19) k) ?_
  refine own_to (T' := s₁) (mkF m 22 #[iv p0, iv p1, iv p2, iv b0, iv b1, .unset, .unset, .unset, .unset, .unset, .unset, .unset, .unset, .unset, .unset, .unset, .unset, .unset, .unset, .unset] [(.int ((p0.toUInt32 >>> ((16 : Int32) &&& 31).toUInt32).toInt32))]) (fun _ k => XS.iushr X0.here hx rfl (hb hby at_21) rfl k) ?_
  refine own_to (T' := s₁) (mkF m 25 #[iv p0, iv p1, iv p2, iv b0, iv b1, .unset, .unset, .unset, .unset, .unset, .unset, .unset, .unset, .unset, .unset, .unset, .unset, .unset, .unset, .unset] [(.int (255 : Int32)), (.int ((p0.toUInt32 >>> ((16 : Int32) &&& 31).toUInt32).toInt32))]) (fun _ k => XS.sipush X0.here hx rfl (hb hby at_22) k) ?_
  refine own_to (T' := s₁) (mkF m 26 #[iv p0, iv p1, iv p2, iv b0, iv b1, .unset, .unset, .unset, .unset, .unset, .unset, .unset, .unset, .unset, .unset, .unset, .unset, .unset, .unset, .unset] [(.int (((p0.toUInt32 >>> ((16 : Int32) &&& 31).toUInt32).toInt32) &&& (255 : Int32)))]) (fun _ k => XS.iand X0.here hx rfl (hb hby at_25) rfl k) ?_
  refine own_to (T' := s₁) (mkF m 27 #[iv p0, iv p1, iv p2, iv b0, iv b1, .unset, .unset, .unset, .unset, .unset, .unset, .unset, .unset, .unset, .unset, .unset, .unset, .unset, .unset, .unset] [(.int ((((p0.toUInt32 >>> ((16 : Int32) &&& 31).toUInt32).toInt32) &&& (255 : Int32)).toUInt32.toUInt16.toUInt32.toInt32))]) (fun _ k => XS.i2c X0.here hx rfl (hb hby at_26) rfl k) ?_
  generalize hb2 : ((((p0.toUInt32 >>> ((16 : Int32) &&& 31).toUInt32).toInt32) &&& (255 : Int32)).toUInt32.toUInt16.toUInt32.toInt32) = b2
  have c8_b2 : own_C8 b2 := own_ch8 hb2
  refine own_to (T' := s₁) (mkF m 29 #[iv p0, iv p1, iv p2, iv b0, iv b1, iv b2, .unset, .unset, .unset, .unset, .unset, .unset, .unset, .unset, .unset, .unset, .unset, .unset, .unset, .unset] []) (fun _ k => XS.istore X0.here hx rfl (hb hby at_27) rfl (l' := #[iv p0, iv p1, iv p2, iv b0, iv b1, iv b2, .unset, .unset, .unset, .unset, .unset, .unset, .unset, .unset, .unset, .unset, .unset, .unset, .unset, .unset]) rfl k) ?_
  refine own_to (T' := s₁) (mkF m 30 #[iv p0, iv p1, iv p2, iv b0, iv b1, iv b2, .unset, .unset, .unset, .unset, .unset, .unset, .unset, .unset, .unset, .unset, .unset, .unset, .unset, .unset] [(.int p0)]) (fun _ k => XS.iloadN X0.here hx rfl (hb hby at_29) rfl k) ?_
  refine own_to (T' := s₁) (mkF m 32 #[iv p0, iv p1, iv p2, iv b0, iv b1, iv b2, .unset, .unset, .unset, .unset, .unset, .unset, .unset, .unset, .unset, .unset, .unset, .unset, .unset, .unset] [(.int (24 : Int32)), (.int p0)]) (fun _ k => XS.bipush X0.here hx rfl (hb hby at_30) k) ?_
  refine own_to (T' := s₁) (mkF m 33 #[iv p0, iv p1, iv p2, iv b0, iv b1, iv b2, .unset, .unset, .unset, .unset, .unset, .unset, .unset, .unset, .unset, .unset, .unset, .unset, .unset, .unset] [(.int ((p0.toUInt32 >>> ((24 : Int32) &&& 31).toUInt32).toInt32))]) (fun _ k => XS.iushr X0.here hx rfl (hb hby at_32) rfl k) ?_
  refine own_to (T' := s₁) (mkF m 36 #[iv p0, iv p1, iv p2, iv b0, iv b1, iv b2, .unset, .unset, .unset, .unset, .unset, .unset, .unset, .unset, .unset, .unset, .unset, .unset, .unset, .unset] [(.int (255 : Int32)), (.int ((p0.toUInt32 >>> ((24 : Int32) &&& 31).toUInt32).toInt32))]) (fun _ k => XS.sipush X0.here hx rfl (hb hby at_33) k) ?_
  refine own_to (T' := s₁) (mkF m 37 #[iv p0, iv p1, iv p2, iv b0, iv b1, iv b2, .unset, .unset, .unset, .unset, .unset, .unset, .unset, .unset, .unset, .unset, .unset, .unset, .unset, .unset] [(.int (((p0.toUInt32 >>> ((24 : Int32) &&& 31).toUInt32).toInt32) &&& (255 : Int32)))]) (fun _ k => XS.iand X0.here hx rfl (hb hby at_36) rfl k) ?_
  refine own_to (T' := s₁) (mkF m 38 #[iv p0, iv p1, iv p2, iv b0, iv b1, iv b2, .unset, .unset, .unset, .unset, .unset, .unset, .unset, .unset, .unset, .unset, .unset, .unset, .unset, .unset] [(.int ((((p0.toUInt32 >>> ((24 : Int32) &&& 31).toUInt32).toInt32) &&& (255 : Int32)).toUInt32.toUInt16.toUInt32.toInt32))]) (fun _ k => XS.i2c X0.here hx rfl (hb hby at_37) rfl k) ?_
  generalize hb3 : ((((p0.toUInt32 >>> ((24 : Int32) &&& 31).toUInt32).toInt32) &&& (255 : Int32)).toUInt32.toUInt16.toUInt32.toInt32) = b3
  have c8_b3 : own_C8 b3 := own_ch8 hb3
  refine own_to (T' := s₁) (mkF m 40 #[iv p0, iv p1, iv p2, iv b0, iv b1, iv b2, iv b3, .unset, .unset, .unset, .unset, .unset, .unset, .unset, .unset, .unset, .unset, .unset, .unset, .unset] []) (fun _ k => XS.istore X0.here hx rfl (hb hby at_38) rfl (l' := #[iv p0, iv p1, iv p2, iv b0, iv b1, iv b2, iv b3, .unset, .unset, .unset, .unset, .unset, .unset, .unset, .unset, .unset, .unset, .unset, .unset, .unset]) rfl k) ?_
  refine own_to (T' := s₁) (mkF m 41 #[iv p0, iv p1, iv p2, iv b0, iv b1, iv b2, iv b3, .unset, .unset, .unset, .unset, .unset, .unset, .unset, .unset, .unset, .unset, .unset, .unset, .unset] [(.int p2)]) (fun _ k => XS.iloadN X0.here hx rfl (hb hby at_40) rfl k) ?_
  refine own_to (T' := s₁) (mkF m 42 #[iv p0, iv p1, iv p2, iv b0, iv b1, iv b2, iv b3, .unset, .unset, .unset, .unset, .unset, .unset, .unset, .unset, .unset, .unset, .unset, .unset, .unset] [(.int (1 : Int32)), (.int p2)]) (fun _ k => XS.iconst X0.here hx rfl (hb hby at_41) k) ?_
  refine own_to (T' := s₁) (mkF m 43 #[iv p0, iv p1, iv p2, iv b0, iv b1, iv b2, iv b3, .unset, .unset, .unset, .unset, .unset, .unset, .unset, .unset, .unset, .unset, .unset, .unset, .unset] [(.int (p2 &&& (1 : Int32)))]) (fun _ k => XS.iand X0.here hx rfl (hb hby at_42) rfl k) ?_
  suffices jn13 : ∀ c0 : Int32, ((p2 &&& (1 : Int32)) = (0 : Int32) → c0 = b0) → (¬ (p2 &&& (1 : Int32)) = (0 : Int32) → c0 = ((p1 &&& (255 : Int32)).toUInt32.toUInt16.toUInt32.toInt32)) → own_E p e below (own_FinW s (own_Q0 Z p0 p1 p2 G1 h0 n0) room_1.cells room_1.slots) s₁ (mkF m 56 #[iv p0, iv p1, iv p2, iv b0, iv b1, iv b2, iv b3, .unset, .unset, .unset, .unset, .unset, .unset, .unset, .unset, .unset, .unset, .unset, .unset, .unset] [(.int c0)]) from by
    by_cases hj0 : (p2 &&& (1 : Int32)) = (0 : Int32)
    · refine own_to (T' := s₁) (mkF m 55 #[iv p0, iv p1, iv p2, iv b0, iv b1, iv b2, iv b3, .unset, .unset, .unset, .unset, .unset, .unset, .unset, .unset, .unset, .unset, .unset, .unset, .unset] []) (fun _ k => XS.ifYes X0.here hx rfl (pc0 := 43) (pc' := 55) rfl (hb hby at_43) rfl ((if0 _ _).trans (teq hj0).1) (by decide) (by decide) k) ?_
      refine own_to (T' := s₁) (mkF m 56 #[iv p0, iv p1, iv p2, iv b0, iv b1, iv b2, iv b3, .unset, .unset, .unset, .unset, .unset, .unset, .unset, .unset, .unset, .unset, .unset, .unset, .unset] [(.int b0)]) (fun _ k => XS.iloadN X0.here hx rfl (hb hby at_55) rfl k) ?_
      exact jn13 b0 (fun _ => rfl) (fun q => absurd hj0 q)
    · refine own_to (T' := s₁) (mkF m 46 #[iv p0, iv p1, iv p2, iv b0, iv b1, iv b2, iv b3, .unset, .unset, .unset, .unset, .unset, .unset, .unset, .unset, .unset, .unset, .unset, .unset, .unset] []) (fun _ k => XS.ifNo X0.here hx rfl (hb hby at_43) rfl ((if0 _ _).trans (feq hj0).1) k) ?_
      refine own_to (T' := s₁) (mkF m 47 #[iv p0, iv p1, iv p2, iv b0, iv b1, iv b2, iv b3, .unset, .unset, .unset, .unset, .unset, .unset, .unset, .unset, .unset, .unset, .unset, .unset, .unset] [(.int p1)]) (fun _ k => XS.iloadN X0.here hx rfl (hb hby at_46) rfl k) ?_
      refine own_to (T' := s₁) (mkF m 50 #[iv p0, iv p1, iv p2, iv b0, iv b1, iv b2, iv b3, .unset, .unset, .unset, .unset, .unset, .unset, .unset, .unset, .unset, .unset, .unset, .unset, .unset] [(.int (255 : Int32)), (.int p1)]) (fun _ k => XS.sipush X0.here hx rfl (hb hby at_47) k) ?_
      refine own_to (T' := s₁) (mkF m 51 #[iv p0, iv p1, iv p2, iv b0, iv b1, iv b2, iv b3, .unset, .unset, .unset, .unset, .unset, .unset, .unset, .unset, .unset, .unset, .unset, .unset, .unset] [(.int (p1 &&& (255 : Int32)))]) (fun _ k => XS.iand X0.here hx rfl (hb hby at_50) rfl k) ?_
      refine own_to (T' := s₁) (mkF m 52 #[iv p0, iv p1, iv p2, iv b0, iv b1, iv b2, iv b3, .unset, .unset, .unset, .unset, .unset, .unset, .unset, .unset, .unset, .unset, .unset, .unset, .unset] [(.int ((p1 &&& (255 : Int32)).toUInt32.toUInt16.toUInt32.toInt32))]) (fun _ k => XS.i2c X0.here hx rfl (hb hby at_51) rfl k) ?_
      refine own_to (T' := s₁) (mkF m 56 #[iv p0, iv p1, iv p2, iv b0, iv b1, iv b2, iv b3, .unset, .unset, .unset, .unset, .unset, .unset, .unset, .unset, .unset, .unset, .unset, .unset, .unset] [(.int ((p1 &&& (255 : Int32)).toUInt32.toUInt16.toUInt32.toInt32))]) (fun _ k => XS.goto X0.here hx rfl (pc0 := 52) (pc' := 56) rfl (hb hby at_52) (by decide) (by decide) k) ?_
      exact jn13 ((p1 &&& (255 : Int32)).toUInt32.toUInt16.toUInt32.toInt32) (fun q => absurd q hj0) (fun _ => rfl)
  intro c0 hc0t hc0f
  have c8_c0 : own_C8 c0 := own_if8 hc0t hc0f c8_b0 (own_ch8 rfl)
  refine own_to (T' := s₁) (mkF m 58 #[iv p0, iv p1, iv p2, iv b0, iv b1, iv b2, iv b3, iv c0, .unset, .unset, .unset, .unset, .unset, .unset, .unset, .unset, .unset, .unset, .unset, .unset] []) (fun _ k => XS.istore X0.here hx rfl (hb hby at_56) rfl (l' := #[iv p0, iv p1, iv p2, iv b0, iv b1, iv b2, iv b3, iv c0, .unset, .unset, .unset, .unset, .unset, .unset, .unset, .unset, .unset, .unset, .unset, .unset]) rfl k) ?_
  refine own_to (T' := s₁) (mkF m 59 #[iv p0, iv p1, iv p2, iv b0, iv b1, iv b2, iv b3, iv c0, .unset, .unset, .unset, .unset, .unset, .unset, .unset, .unset, .unset, .unset, .unset, .unset] [(.int p2)]) (fun _ k => XS.iloadN X0.here hx rfl (hb hby at_58) rfl k) ?_
  refine own_to (T' := s₁) (mkF m 60 #[iv p0, iv p1, iv p2, iv b0, iv b1, iv b2, iv b3, iv c0, .unset, .unset, .unset, .unset, .unset, .unset, .unset, .unset, .unset, .unset, .unset, .unset] [(.int (2 : Int32)), (.int p2)]) (fun _ k => XS.iconst X0.here hx rfl (hb hby at_59) k) ?_
  refine own_to (T' := s₁) (mkF m 61 #[iv p0, iv p1, iv p2, iv b0, iv b1, iv b2, iv b3, iv c0, .unset, .unset, .unset, .unset, .unset, .unset, .unset, .unset, .unset, .unset, .unset, .unset] [(.int (p2 &&& (2 : Int32)))]) (fun _ k => XS.iand X0.here hx rfl (hb hby at_60) rfl k) ?_
  suffices jn14 : ∀ c1 : Int32, ((p2 &&& (2 : Int32)) = (0 : Int32) → c1 = b1) → (¬ (p2 &&& (2 : Int32)) = (0 : Int32) → c1 = ((((p1.toUInt32 >>> ((8 : Int32) &&& 31).toUInt32).toInt32) &&& (255 : Int32)).toUInt32.toUInt16.toUInt32.toInt32)) → own_E p e below (own_FinW s (own_Q0 Z p0 p1 p2 G1 h0 n0) room_1.cells room_1.slots) s₁ (mkF m 78 #[iv p0, iv p1, iv p2, iv b0, iv b1, iv b2, iv b3, iv c0, .unset, .unset, .unset, .unset, .unset, .unset, .unset, .unset, .unset, .unset, .unset, .unset] [(.int c1)]) from by
    by_cases hj1 : (p2 &&& (2 : Int32)) = (0 : Int32)
    · refine own_to (T' := s₁) (mkF m 76 #[iv p0, iv p1, iv p2, iv b0, iv b1, iv b2, iv b3, iv c0, .unset, .unset, .unset, .unset, .unset, .unset, .unset, .unset, .unset, .unset, .unset, .unset] []) (fun _ k => XS.ifYes X0.here hx rfl (pc0 := 61) (pc' := 76) rfl (hb hby at_61) rfl ((if0 _ _).trans (teq hj1).1) (by decide) (by decide) k) ?_
      refine own_to (T' := s₁) (mkF m 78 #[iv p0, iv p1, iv p2, iv b0, iv b1, iv b2, iv b3, iv c0, .unset, .unset, .unset, .unset, .unset, .unset, .unset, .unset, .unset, .unset, .unset, .unset] [(.int b1)]) (fun _ k => XS.iload X0.here hx rfl (hb hby at_76) rfl k) ?_
      exact jn14 b1 (fun _ => rfl) (fun q => absurd hj1 q)
    · refine own_to (T' := s₁) (mkF m 64 #[iv p0, iv p1, iv p2, iv b0, iv b1, iv b2, iv b3, iv c0, .unset, .unset, .unset, .unset, .unset, .unset, .unset, .unset, .unset, .unset, .unset, .unset] []) (fun _ k => XS.ifNo X0.here hx rfl (hb hby at_61) rfl ((if0 _ _).trans (feq hj1).1) k) ?_
      refine own_to (T' := s₁) (mkF m 65 #[iv p0, iv p1, iv p2, iv b0, iv b1, iv b2, iv b3, iv c0, .unset, .unset, .unset, .unset, .unset, .unset, .unset, .unset, .unset, .unset, .unset, .unset] [(.int p1)]) (fun _ k => XS.iloadN X0.here hx rfl (hb hby at_64) rfl k) ?_
      refine own_to (T' := s₁) (mkF m 67 #[iv p0, iv p1, iv p2, iv b0, iv b1, iv b2, iv b3, iv c0, .unset, .unset, .unset, .unset, .unset, .unset, .unset, .unset, .unset, .unset, .unset, .unset] [(.int (8 : Int32)), (.int p1)]) (fun _ k => XS.bipush X0.here hx rfl (hb hby at_65) k) ?_
      refine own_to (T' := s₁) (mkF m 68 #[iv p0, iv p1, iv p2, iv b0, iv b1, iv b2, iv b3, iv c0, .unset, .unset, .unset, .unset, .unset, .unset, .unset, .unset, .unset, .unset, .unset, .unset] [(.int ((p1.toUInt32 >>> ((8 : Int32) &&& 31).toUInt32).toInt32))]) (fun _ k => XS.iushr X0.here hx rfl (hb hby at_67) rfl k) ?_
      refine own_to (T' := s₁) (mkF m 71 #[iv p0, iv p1, iv p2, iv b0, iv b1, iv b2, iv b3, iv c0, .unset, .unset, .unset, .unset, .unset, .unset, .unset, .unset, .unset, .unset, .unset, .unset] [(.int (255 : Int32)), (.int ((p1.toUInt32 >>> ((8 : Int32) &&& 31).toUInt32).toInt32))]) (fun _ k => XS.sipush X0.here hx rfl (hb hby at_68) k) ?_
      refine own_to (T' := s₁) (mkF m 72 #[iv p0, iv p1, iv p2, iv b0, iv b1, iv b2, iv b3, iv c0, .unset, .unset, .unset, .unset, .unset, .unset, .unset, .unset, .unset, .unset, .unset, .unset] [(.int (((p1.toUInt32 >>> ((8 : Int32) &&& 31).toUInt32).toInt32) &&& (255 : Int32)))]) (fun _ k => XS.iand X0.here hx rfl (hb hby at_71) rfl k) ?_
      refine own_to (T' := s₁) (mkF m 73 #[iv p0, iv p1, iv p2, iv b0, iv b1, iv b2, iv b3, iv c0, .unset, .unset, .unset, .unset, .unset, .unset, .unset, .unset, .unset, .unset, .unset, .unset] [(.int ((((p1.toUInt32 >>> ((8 : Int32) &&& 31).toUInt32).toInt32) &&& (255 : Int32)).toUInt32.toUInt16.toUInt32.toInt32))]) (fun _ k => XS.i2c X0.here hx rfl (hb hby at_72) rfl k) ?_
      refine own_to (T' := s₁) (mkF m 78 #[iv p0, iv p1, iv p2, iv b0, iv b1, iv b2, iv b3, iv c0, .unset, .unset, .unset, .unset, .unset, .unset, .unset, .unset, .unset, .unset, .unset, .unset] [(.int ((((p1.toUInt32 >>> ((8 : Int32) &&& 31).toUInt32).toInt32) &&& (255 : Int32)).toUInt32.toUInt16.toUInt32.toInt32))]) (fun _ k => XS.goto X0.here hx rfl (pc0 := 73) (pc' := 78) rfl (hb hby at_73) (by decide) (by decide) k) ?_
      exact jn14 ((((p1.toUInt32 >>> ((8 : Int32) &&& 31).toUInt32).toInt32) &&& (255 : Int32)).toUInt32.toUInt16.toUInt32.toInt32) (fun q => absurd q hj1) (fun _ => rfl)
  intro c1 hc1t hc1f
  have c8_c1 : own_C8 c1 := own_if8 hc1t hc1f c8_b1 (own_ch8 rfl)
  refine own_to (T' := s₁) (mkF m 80 #[iv p0, iv p1, iv p2, iv b0, iv b1, iv b2, iv b3, iv c0, iv c1, .unset, .unset, .unset, .unset, .unset, .unset, .unset, .unset, .unset, .unset, .unset] []) (fun _ k => XS.istore X0.here hx rfl (hb hby at_78) rfl (l' := #[iv p0, iv p1, iv p2, iv b0, iv b1, iv b2, iv b3, iv c0, iv c1, .unset, .unset, .unset, .unset, .unset, .unset, .unset, .unset, .unset, .unset, .unset]) rfl k) ?_
  refine own_to (T' := s₁) (mkF m 81 #[iv p0, iv p1, iv p2, iv b0, iv b1, iv b2, iv b3, iv c0, iv c1, .unset, .unset, .unset, .unset, .unset, .unset, .unset, .unset, .unset, .unset, .unset] [(.int p2)]) (fun _ k => XS.iloadN X0.here hx rfl (hb hby at_80) rfl k) ?_
  refine own_to (T' := s₁) (mkF m 82 #[iv p0, iv p1, iv p2, iv b0, iv b1, iv b2, iv b3, iv c0, iv c1, .unset, .unset, .unset, .unset, .unset, .unset, .unset, .unset, .unset, .unset, .unset] [(.int (4 : Int32)), (.int p2)]) (fun _ k => XS.iconst X0.here hx rfl (hb hby at_81) k) ?_
  refine own_to (T' := s₁) (mkF m 83 #[iv p0, iv p1, iv p2, iv b0, iv b1, iv b2, iv b3, iv c0, iv c1, .unset, .unset, .unset, .unset, .unset, .unset, .unset, .unset, .unset, .unset, .unset] [(.int (p2 &&& (4 : Int32)))]) (fun _ k => XS.iand X0.here hx rfl (hb hby at_82) rfl k) ?_
  suffices jn15 : ∀ c2 : Int32, ((p2 &&& (4 : Int32)) = (0 : Int32) → c2 = b2) → (¬ (p2 &&& (4 : Int32)) = (0 : Int32) → c2 = ((((p1.toUInt32 >>> ((16 : Int32) &&& 31).toUInt32).toInt32) &&& (255 : Int32)).toUInt32.toUInt16.toUInt32.toInt32)) → own_E p e below (own_FinW s (own_Q0 Z p0 p1 p2 G1 h0 n0) room_1.cells room_1.slots) s₁ (mkF m 100 #[iv p0, iv p1, iv p2, iv b0, iv b1, iv b2, iv b3, iv c0, iv c1, .unset, .unset, .unset, .unset, .unset, .unset, .unset, .unset, .unset, .unset, .unset] [(.int c2)]) from by
    by_cases hj2 : (p2 &&& (4 : Int32)) = (0 : Int32)
    · refine own_to (T' := s₁) (mkF m 98 #[iv p0, iv p1, iv p2, iv b0, iv b1, iv b2, iv b3, iv c0, iv c1, .unset, .unset, .unset, .unset, .unset, .unset, .unset, .unset, .unset, .unset, .unset] []) (fun _ k => XS.ifYes X0.here hx rfl (pc0 := 83) (pc' := 98) rfl (hb hby at_83) rfl ((if0 _ _).trans (teq hj2).1) (by decide) (by decide) k) ?_
      refine own_to (T' := s₁) (mkF m 100 #[iv p0, iv p1, iv p2, iv b0, iv b1, iv b2, iv b3, iv c0, iv c1, .unset, .unset, .unset, .unset, .unset, .unset, .unset, .unset, .unset, .unset, .unset] [(.int b2)]) (fun _ k => XS.iload X0.here hx rfl (hb hby at_98) rfl k) ?_
      exact jn15 b2 (fun _ => rfl) (fun q => absurd hj2 q)
    · refine own_to (T' := s₁) (mkF m 86 #[iv p0, iv p1, iv p2, iv b0, iv b1, iv b2, iv b3, iv c0, iv c1, .unset, .unset, .unset, .unset, .unset, .unset, .unset, .unset, .unset, .unset, .unset] []) (fun _ k => XS.ifNo X0.here hx rfl (hb hby at_83) rfl ((if0 _ _).trans (feq hj2).1) k) ?_
      refine own_to (T' := s₁) (mkF m 87 #[iv p0, iv p1, iv p2, iv b0, iv b1, iv b2, iv b3, iv c0, iv c1, .unset, .unset, .unset, .unset, .unset, .unset, .unset, .unset, .unset, .unset, .unset] [(.int p1)]) (fun _ k => XS.iloadN X0.here hx rfl (hb hby at_86) rfl k) ?_
      refine own_to (T' := s₁) (mkF m 89 #[iv p0, iv p1, iv p2, iv b0, iv b1, iv b2, iv b3, iv c0, iv c1, .unset, .unset, .unset, .unset, .unset, .unset, .unset, .unset, .unset, .unset, .unset] [(.int (16 : Int32)), (.int p1)]) (fun _ k => XS.bipush X0.here hx rfl (hb hby at_87) k) ?_
      refine own_to (T' := s₁) (mkF m 90 #[iv p0, iv p1, iv p2, iv b0, iv b1, iv b2, iv b3, iv c0, iv c1, .unset, .unset, .unset, .unset, .unset, .unset, .unset, .unset, .unset, .unset, .unset] [(.int ((p1.toUInt32 >>> ((16 : Int32) &&& 31).toUInt32).toInt32))]) (fun _ k => XS.iushr X0.here hx rfl (hb hby at_89) rfl k) ?_
      refine own_to (T' := s₁) (mkF m 93 #[iv p0, iv p1, iv p2, iv b0, iv b1, iv b2, iv b3, iv c0, iv c1, .unset, .unset, .unset, .unset, .unset, .unset, .unset, .unset, .unset, .unset, .unset] [(.int (255 : Int32)), (.int ((p1.toUInt32 >>> ((16 : Int32) &&& 31).toUInt32).toInt32))]) (fun _ k => XS.sipush X0.here hx rfl (hb hby at_90) k) ?_
      refine own_to (T' := s₁) (mkF m 94 #[iv p0, iv p1, iv p2, iv b0, iv b1, iv b2, iv b3, iv c0, iv c1, .unset, .unset, .unset, .unset, .unset, .unset, .unset, .unset, .unset, .unset, .unset] [(.int (((p1.toUInt32 >>> ((16 : Int32) &&& 31).toUInt32).toInt32) &&& (255 : Int32)))]) (fun _ k => XS.iand X0.here hx rfl (hb hby at_93) rfl k) ?_
      refine own_to (T' := s₁) (mkF m 95 #[iv p0, iv p1, iv p2, iv b0, iv b1, iv b2, iv b3, iv c0, iv c1, .unset, .unset, .unset, .unset, .unset, .unset, .unset, .unset, .unset, .unset, .unset] [(.int ((((p1.toUInt32 >>> ((16 : Int32) &&& 31).toUInt32).toInt32) &&& (255 : Int32)).toUInt32.toUInt16.toUInt32.toInt32))]) (fun _ k => XS.i2c X0.here hx rfl (hb hby at_94) rfl k) ?_
      refine own_to (T' := s₁) (mkF m 100 #[iv p0, iv p1, iv p2, iv b0, iv b1, iv b2, iv b3, iv c0, iv c1, .unset, .unset, .unset, .unset, .unset, .unset, .unset, .unset, .unset, .unset, .unset] [(.int ((((p1.toUInt32 >>> ((16 : Int32) &&& 31).toUInt32).toInt32) &&& (255 : Int32)).toUInt32.toUInt16.toUInt32.toInt32))]) (fun _ k => XS.goto X0.here hx rfl (pc0 := 95) (pc' := 100) rfl (hb hby at_95) (by decide) (by decide) k) ?_
      exact jn15 ((((p1.toUInt32 >>> ((16 : Int32) &&& 31).toUInt32).toInt32) &&& (255 : Int32)).toUInt32.toUInt16.toUInt32.toInt32) (fun q => absurd q hj2) (fun _ => rfl)
  intro c2 hc2t hc2f
  have c8_c2 : own_C8 c2 := own_if8 hc2t hc2f c8_b2 (own_ch8 rfl)
  refine own_to (T' := s₁) (mkF m 102 #[iv p0, iv p1, iv p2, iv b0, iv b1, iv b2, iv b3, iv c0, iv c1, iv c2, .unset, .unset, .unset, .unset, .unset, .unset, .unset, .unset, .unset, .unset] []) (fun _ k => XS.istore X0.here hx rfl (hb hby at_100) rfl (l' := #[iv p0, iv p1, iv p2, iv b0, iv b1, iv b2, iv b3, iv c0, iv c1, iv c2, .unset, .unset, .unset, .unset, .unset, .unset, .unset, .unset, .unset, .unset]) rfl k) ?_
  refine own_to (T' := s₁) (mkF m 103 #[iv p0, iv p1, iv p2, iv b0, iv b1, iv b2, iv b3, iv c0, iv c1, iv c2, .unset, .unset, .unset, .unset, .unset, .unset, .unset, .unset, .unset, .unset] [(.int p2)]) (fun _ k => XS.iloadN X0.here hx rfl (hb hby at_102) rfl k) ?_
  refine own_to (T' := s₁) (mkF m 105 #[iv p0, iv p1, iv p2, iv b0, iv b1, iv b2, iv b3, iv c0, iv c1, iv c2, .unset, .unset, .unset, .unset, .unset, .unset, .unset, .unset, .unset, .unset] [(.int (8 : Int32)), (.int p2)]) (fun _ k => XS.bipush X0.here hx rfl (hb hby at_103) k) ?_
  refine own_to (T' := s₁) (mkF m 106 #[iv p0, iv p1, iv p2, iv b0, iv b1, iv b2, iv b3, iv c0, iv c1, iv c2, .unset, .unset, .unset, .unset, .unset, .unset, .unset, .unset, .unset, .unset] [(.int (p2 &&& (8 : Int32)))]) (fun _ k => XS.iand X0.here hx rfl (hb hby at_105) rfl k) ?_
  suffices jn16 : ∀ c3 : Int32, ((p2 &&& (8 : Int32)) = (0 : Int32) → c3 = b3) → (¬ (p2 &&& (8 : Int32)) = (0 : Int32) → c3 = ((((p1.toUInt32 >>> ((24 : Int32) &&& 31).toUInt32).toInt32) &&& (255 : Int32)).toUInt32.toUInt16.toUInt32.toInt32)) → own_E p e below (own_FinW s (own_Q0 Z p0 p1 p2 G1 h0 n0) room_1.cells room_1.slots) s₁ (mkF m 123 #[iv p0, iv p1, iv p2, iv b0, iv b1, iv b2, iv b3, iv c0, iv c1, iv c2, .unset, .unset, .unset, .unset, .unset, .unset, .unset, .unset, .unset, .unset] [(.int c3)]) from by
    by_cases hj3 : (p2 &&& (8 : Int32)) = (0 : Int32)
    · refine own_to (T' := s₁) (mkF m 121 #[iv p0, iv p1, iv p2, iv b0, iv b1, iv b2, iv b3, iv c0, iv c1, iv c2, .unset, .unset, .unset, .unset, .unset, .unset, .unset, .unset, .unset, .unset] []) (fun _ k => XS.ifYes X0.here hx rfl (pc0 := 106) (pc' := 121) rfl (hb hby at_106) rfl ((if0 _ _).trans (teq hj3).1) (by decide) (by decide) k) ?_
      refine own_to (T' := s₁) (mkF m 123 #[iv p0, iv p1, iv p2, iv b0, iv b1, iv b2, iv b3, iv c0, iv c1, iv c2, .unset, .unset, .unset, .unset, .unset, .unset, .unset, .unset, .unset, .unset] [(.int b3)]) (fun _ k => XS.iload X0.here hx rfl (hb hby at_121) rfl k) ?_
      exact jn16 b3 (fun _ => rfl) (fun q => absurd hj3 q)
    · refine own_to (T' := s₁) (mkF m 109 #[iv p0, iv p1, iv p2, iv b0, iv b1, iv b2, iv b3, iv c0, iv c1, iv c2, .unset, .unset, .unset, .unset, .unset, .unset, .unset, .unset, .unset, .unset] []) (fun _ k => XS.ifNo X0.here hx rfl (hb hby at_106) rfl ((if0 _ _).trans (feq hj3).1) k) ?_
      refine own_to (T' := s₁) (mkF m 110 #[iv p0, iv p1, iv p2, iv b0, iv b1, iv b2, iv b3, iv c0, iv c1, iv c2, .unset, .unset, .unset, .unset, .unset, .unset, .unset, .unset, .unset, .unset] [(.int p1)]) (fun _ k => XS.iloadN X0.here hx rfl (hb hby at_109) rfl k) ?_
      refine own_to (T' := s₁) (mkF m 112 #[iv p0, iv p1, iv p2, iv b0, iv b1, iv b2, iv b3, iv c0, iv c1, iv c2, .unset, .unset, .unset, .unset, .unset, .unset, .unset, .unset, .unset, .unset] [(.int (24 : Int32)), (.int p1)]) (fun _ k => XS.bipush X0.here hx rfl (hb hby at_110) k) ?_
      refine own_to (T' := s₁) (mkF m 113 #[iv p0, iv p1, iv p2, iv b0, iv b1, iv b2, iv b3, iv c0, iv c1, iv c2, .unset, .unset, .unset, .unset, .unset, .unset, .unset, .unset, .unset, .unset] [(.int ((p1.toUInt32 >>> ((24 : Int32) &&& 31).toUInt32).toInt32))]) (fun _ k => XS.iushr X0.here hx rfl (hb hby at_112) rfl k) ?_
      refine own_to (T' := s₁) (mkF m 116 #[iv p0, iv p1, iv p2, iv b0, iv b1, iv b2, iv b3, iv c0, iv c1, iv c2, .unset, .unset, .unset, .unset, .unset, .unset, .unset, .unset, .unset, .unset] [(.int (255 : Int32)), (.int ((p1.toUInt32 >>> ((24 : Int32) &&& 31).toUInt32).toInt32))]) (fun _ k => XS.sipush X0.here hx rfl (hb hby at_113) k) ?_
      refine own_to (T' := s₁) (mkF m 117 #[iv p0, iv p1, iv p2, iv b0, iv b1, iv b2, iv b3, iv c0, iv c1, iv c2, .unset, .unset, .unset, .unset, .unset, .unset, .unset, .unset, .unset, .unset] [(.int (((p1.toUInt32 >>> ((24 : Int32) &&& 31).toUInt32).toInt32) &&& (255 : Int32)))]) (fun _ k => XS.iand X0.here hx rfl (hb hby at_116) rfl k) ?_
      refine own_to (T' := s₁) (mkF m 118 #[iv p0, iv p1, iv p2, iv b0, iv b1, iv b2, iv b3, iv c0, iv c1, iv c2, .unset, .unset, .unset, .unset, .unset, .unset, .unset, .unset, .unset, .unset] [(.int ((((p1.toUInt32 >>> ((24 : Int32) &&& 31).toUInt32).toInt32) &&& (255 : Int32)).toUInt32.toUInt16.toUInt32.toInt32))]) (fun _ k => XS.i2c X0.here hx rfl (hb hby at_117) rfl k) ?_
      refine own_to (T' := s₁) (mkF m 123 #[iv p0, iv p1, iv p2, iv b0, iv b1, iv b2, iv b3, iv c0, iv c1, iv c2, .unset, .unset, .unset, .unset, .unset, .unset, .unset, .unset, .unset, .unset] [(.int ((((p1.toUInt32 >>> ((24 : Int32) &&& 31).toUInt32).toInt32) &&& (255 : Int32)).toUInt32.toUInt16.toUInt32.toInt32))]) (fun _ k => XS.goto X0.here hx rfl (pc0 := 118) (pc' := 123) rfl (hb hby at_118) (by decide) (by decide) k) ?_
      exact jn16 ((((p1.toUInt32 >>> ((24 : Int32) &&& 31).toUInt32).toInt32) &&& (255 : Int32)).toUInt32.toUInt16.toUInt32.toInt32) (fun q => absurd q hj3) (fun _ => rfl)
  intro c3 hc3t hc3f
  have c8_c3 : own_C8 c3 := own_if8 hc3t hc3f c8_b3 (own_ch8 rfl)
  refine own_to (T' := s₁) (mkF m 125 #[iv p0, iv p1, iv p2, iv b0, iv b1, iv b2, iv b3, iv c0, iv c1, iv c2, iv c3, .unset, .unset, .unset, .unset, .unset, .unset, .unset, .unset, .unset] []) (fun _ k => XS.istore X0.here hx rfl (hb hby at_123) rfl (l' := #[iv p0, iv p1, iv p2, iv b0, iv b1, iv b2, iv b3, iv c0, iv c1, iv c2, iv c3, .unset, .unset, .unset, .unset, .unset, .unset, .unset, .unset, .unset]) rfl k) ?_
  refine own_to (T' := s₁) (mkF m 126 #[iv p0, iv p1, iv p2, iv b0, iv b1, iv b2, iv b3, iv c0, iv c1, iv c2, iv c3, .unset, .unset, .unset, .unset, .unset, .unset, .unset, .unset, .unset] [(.int p2)]) (fun _ k => XS.iloadN X0.here hx rfl (hb hby at_125) rfl k) ?_
  refine own_to (T' := s₁) (mkF m 128 #[iv p0, iv p1, iv p2, iv b0, iv b1, iv b2, iv b3, iv c0, iv c1, iv c2, iv c3, .unset, .unset, .unset, .unset, .unset, .unset, .unset, .unset, .unset] [(.int (8 : Int32)), (.int p2)]) (fun _ k => XS.bipush X0.here hx rfl (hb hby at_126) k) ?_
  refine own_to (T' := s₁) (mkF m 129 #[iv p0, iv p1, iv p2, iv b0, iv b1, iv b2, iv b3, iv c0, iv c1, iv c2, iv c3, .unset, .unset, .unset, .unset, .unset, .unset, .unset, .unset, .unset] [(.int ((p2.toUInt32 >>> ((8 : Int32) &&& 31).toUInt32).toInt32))]) (fun _ k => XS.iushr X0.here hx rfl (hb hby at_128) rfl k) ?_
  refine own_to (T' := s₁) (mkF m 132 #[iv p0, iv p1, iv p2, iv b0, iv b1, iv b2, iv b3, iv c0, iv c1, iv c2, iv c3, .unset, .unset, .unset, .unset, .unset, .unset, .unset, .unset, .unset] [(.int (255 : Int32)), (.int ((p2.toUInt32 >>> ((8 : Int32) &&& 31).toUInt32).toInt32))]) (fun _ k => XS.sipush X0.here hx rfl (hb hby at_129) k) ?_
  refine own_to (T' := s₁) (mkF m 133 #[iv p0, iv p1, iv p2, iv b0, iv b1, iv b2, iv b3, iv c0, iv c1, iv c2, iv c3, .unset, .unset, .unset, .unset, .unset, .unset, .unset, .unset, .unset] [(.int (((p2.toUInt32 >>> ((8 : Int32) &&& 31).toUInt32).toInt32) &&& (255 : Int32)))]) (fun _ k => XS.iand X0.here hx rfl (hb hby at_132) rfl k) ?_
  refine own_to (T' := s₁) (mkF m 134 #[iv p0, iv p1, iv p2, iv b0, iv b1, iv b2, iv b3, iv c0, iv c1, iv c2, iv c3, .unset, .unset, .unset, .unset, .unset, .unset, .unset, .unset, .unset] [(.int ((((p2.toUInt32 >>> ((8 : Int32) &&& 31).toUInt32).toInt32) &&& (255 : Int32)).toUInt32.toUInt16.toUInt32.toInt32))]) (fun _ k => XS.i2c X0.here hx rfl (hb hby at_133) rfl k) ?_
  generalize hcx : ((((p2.toUInt32 >>> ((8 : Int32) &&& 31).toUInt32).toInt32) &&& (255 : Int32)).toUInt32.toUInt16.toUInt32.toInt32) = cx
  have c8_cx : own_C8 cx := own_ch8 hcx
  refine own_to (T' := s₁) (mkF m 136 #[iv p0, iv p1, iv p2, iv b0, iv b1, iv b2, iv b3, iv c0, iv c1, iv c2, iv c3, iv cx, .unset, .unset, .unset, .unset, .unset, .unset, .unset, .unset] []) (fun _ k => XS.istore X0.here hx rfl (hb hby at_134) rfl (l' := #[iv p0, iv p1, iv p2, iv b0, iv b1, iv b2, iv b3, iv c0, iv c1, iv c2, iv c3, iv cx, .unset, .unset, .unset, .unset, .unset, .unset, .unset, .unset]) rfl k) ?_
  refine own_to (T' := s₁) (mkF m 137 #[iv p0, iv p1, iv p2, iv b0, iv b1, iv b2, iv b3, iv c0, iv c1, iv c2, iv c3, iv cx, .unset, .unset, .unset, .unset, .unset, .unset, .unset, .unset] [(.int p2)]) (fun _ k => XS.iloadN X0.here hx rfl (hb hby at_136) rfl k) ?_
  refine own_to (T' := s₁) (mkF m 139 #[iv p0, iv p1, iv p2, iv b0, iv b1, iv b2, iv b3, iv c0, iv c1, iv c2, iv c3, iv cx, .unset, .unset, .unset, .unset, .unset, .unset, .unset, .unset] [(.int (16 : Int32)), (.int p2)]) (fun _ k => XS.bipush X0.here hx rfl (hb hby at_137) k) ?_
  refine own_to (T' := s₁) (mkF m 140 #[iv p0, iv p1, iv p2, iv b0, iv b1, iv b2, iv b3, iv c0, iv c1, iv c2, iv c3, iv cx, .unset, .unset, .unset, .unset, .unset, .unset, .unset, .unset] [(.int (p2 &&& (16 : Int32)))]) (fun _ k => XS.iand X0.here hx rfl (hb hby at_139) rfl k) ?_
  suffices jn17 : ∀ d12 : Int32, ((p2 &&& (16 : Int32)) = (0 : Int32) → d12 = (0 : Int32)) → (¬ (p2 &&& (16 : Int32)) = (0 : Int32) → d12 = (1 : Int32)) → own_E p e below (own_FinW s (own_Q0 Z p0 p1 p2 G1 h0 n0) room_1.cells room_1.slots) s₁ (mkF m 148 #[iv p0, iv p1, iv p2, iv b0, iv b1, iv b2, iv b3, iv c0, iv c1, iv c2, iv c3, iv cx, .unset, .unset, .unset, .unset, .unset, .unset, .unset, .unset] [(.int d12)]) from by
    by_cases hfd12 : (p2 &&& (16 : Int32)) = (0 : Int32)
    · refine own_to (T' := s₁) (mkF m 147 #[iv p0, iv p1, iv p2, iv b0, iv b1, iv b2, iv b3, iv c0, iv c1, iv c2, iv c3, iv cx, .unset, .unset, .unset, .unset, .unset, .unset, .unset, .unset] []) (fun _ k => XS.ifYes X0.here hx rfl (pc0 := 140) (pc' := 147) rfl (hb hby at_140) rfl ((if0 _ _).trans (teq hfd12).1) (by decide) (by decide) k) ?_
      refine own_to (T' := s₁) (mkF m 148 #[iv p0, iv p1, iv p2, iv b0, iv b1, iv b2, iv b3, iv c0, iv c1, iv c2, iv c3, iv cx, .unset, .unset, .unset, .unset, .unset, .unset, .unset, .unset] [(.int (0 : Int32))]) (fun _ k => XS.iconst X0.here hx rfl (hb hby at_147) k) ?_
      exact jn17 (0 : Int32) (fun _ => rfl) (fun q => absurd hfd12 q)
    · refine own_to (T' := s₁) (mkF m 143 #[iv p0, iv p1, iv p2, iv b0, iv b1, iv b2, iv b3, iv c0, iv c1, iv c2, iv c3, iv cx, .unset, .unset, .unset, .unset, .unset, .unset, .unset, .unset] []) (fun _ k => XS.ifNo X0.here hx rfl (hb hby at_140) rfl ((if0 _ _).trans (feq hfd12).1) k) ?_
      refine own_to (T' := s₁) (mkF m 144 #[iv p0, iv p1, iv p2, iv b0, iv b1, iv b2, iv b3, iv c0, iv c1, iv c2, iv c3, iv cx, .unset, .unset, .unset, .unset, .unset, .unset, .unset, .unset] [(.int (1 : Int32))]) (fun _ k => XS.iconst X0.here hx rfl (hb hby at_143) k) ?_
      refine own_to (T' := s₁) (mkF m 148 #[iv p0, iv p1, iv p2, iv b0, iv b1, iv b2, iv b3, iv c0, iv c1, iv c2, iv c3, iv cx, .unset, .unset, .unset, .unset, .unset, .unset, .unset, .unset] [(.int (1 : Int32))]) (fun _ k => XS.goto X0.here hx rfl (pc0 := 144) (pc' := 148) rfl (hb hby at_144) (by decide) (by decide) k) ?_
      exact jn17 (1 : Int32) (fun q => absurd q hfd12) (fun _ => rfl)
  intro d12 hd12t hd12f
  refine own_to (T' := s₁) (mkF m 150 #[iv p0, iv p1, iv p2, iv b0, iv b1, iv b2, iv b3, iv c0, iv c1, iv c2, iv c3, iv cx, iv d12, .unset, .unset, .unset, .unset, .unset, .unset, .unset] []) (fun _ k => XS.istore X0.here hx rfl (hb hby at_148) rfl (l' := #[iv p0, iv p1, iv p2, iv b0, iv b1, iv b2, iv b3, iv c0, iv c1, iv c2, iv c3, iv cx, iv d12, .unset, .unset, .unset, .unset, .unset, .unset, .unset]) rfl k) ?_
  refine own_to (T' := s₁) (mkF m 151 #[iv p0, iv p1, iv p2, iv b0, iv b1, iv b2, iv b3, iv c0, iv c1, iv c2, iv c3, iv cx, iv d12, .unset, .unset, .unset, .unset, .unset, .unset, .unset] [(.int p2)]) (fun _ k => XS.iloadN X0.here hx rfl (hb hby at_150) rfl k) ?_
  refine own_to (T' := s₁) (mkF m 152 #[iv p0, iv p1, iv p2, iv b0, iv b1, iv b2, iv b3, iv c0, iv c1, iv c2, iv c3, iv cx, iv d12, .unset, .unset, .unset, .unset, .unset, .unset, .unset] [(.int (5 : Int32)), (.int p2)]) (fun _ k => XS.iconst X0.here hx rfl (hb hby at_151) k) ?_
  refine own_to (T' := s₁) (mkF m 153 #[iv p0, iv p1, iv p2, iv b0, iv b1, iv b2, iv b3, iv c0, iv c1, iv c2, iv c3, iv cx, iv d12, .unset, .unset, .unset, .unset, .unset, .unset, .unset] [(.int ((p2.toUInt32 >>> ((5 : Int32) &&& 31).toUInt32).toInt32))]) (fun _ k => XS.iushr X0.here hx rfl (hb hby at_152) rfl k) ?_
  refine own_to (T' := s₁) (mkF m 154 #[iv p0, iv p1, iv p2, iv b0, iv b1, iv b2, iv b3, iv c0, iv c1, iv c2, iv c3, iv cx, iv d12, .unset, .unset, .unset, .unset, .unset, .unset, .unset] [(.int (3 : Int32)), (.int ((p2.toUInt32 >>> ((5 : Int32) &&& 31).toUInt32).toInt32))]) (fun _ k => XS.iconst X0.here hx rfl (hb hby at_153) k) ?_
  refine own_to (T' := s₁) (mkF m 155 #[iv p0, iv p1, iv p2, iv b0, iv b1, iv b2, iv b3, iv c0, iv c1, iv c2, iv c3, iv cx, iv d12, .unset, .unset, .unset, .unset, .unset, .unset, .unset] [(.int (((p2.toUInt32 >>> ((5 : Int32) &&& 31).toUInt32).toInt32) &&& (3 : Int32)))]) (fun _ k => XS.iand X0.here hx rfl (hb hby at_154) rfl k) ?_
  generalize hsh : (((p2.toUInt32 >>> ((5 : Int32) &&& 31).toUInt32).toInt32) &&& (3 : Int32)) = sh
  refine own_to (T' := s₁) (mkF m 157 #[iv p0, iv p1, iv p2, iv b0, iv b1, iv b2, iv b3, iv c0, iv c1, iv c2, iv c3, iv cx, iv d12, iv sh, .unset, .unset, .unset, .unset, .unset, .unset] []) (fun _ k => XS.istore X0.here hx rfl (hb hby at_155) rfl (l' := #[iv p0, iv p1, iv p2, iv b0, iv b1, iv b2, iv b3, iv c0, iv c1, iv c2, iv c3, iv cx, iv d12, iv sh, .unset, .unset, .unset, .unset, .unset, .unset]) rfl k) ?_
  refine own_to (T' := s₁) (mkF m 158 #[iv p0, iv p1, iv p2, iv b0, iv b1, iv b2, iv b3, iv c0, iv c1, iv c2, iv c3, iv cx, iv d12, iv sh, .unset, .unset, .unset, .unset, .unset, .unset] [(.int p2)]) (fun _ k => XS.iloadN X0.here hx rfl (hb hby at_157) rfl k) ?_
  refine own_to (T' := s₁) (mkF m 160 #[iv p0, iv p1, iv p2, iv b0, iv b1, iv b2, iv b3, iv c0, iv c1, iv c2, iv c3, iv cx, iv d12, iv sh, .unset, .unset, .unset, .unset, .unset, .unset] [(.int (16 : Int32)), (.int p2)]) (fun _ k => XS.bipush X0.here hx rfl (hb hby at_158) k) ?_
  refine own_to (T' := s₁) (mkF m 161 #[iv p0, iv p1, iv p2, iv b0, iv b1, iv b2, iv b3, iv c0, iv c1, iv c2, iv c3, iv cx, iv d12, iv sh, .unset, .unset, .unset, .unset, .unset, .unset] [(.int ((p2.toUInt32 >>> ((16 : Int32) &&& 31).toUInt32).toInt32))]) (fun _ k => XS.iushr X0.here hx rfl (hb hby at_160) rfl k) ?_
  refine own_to (T' := s₁) (mkF m 162 #[iv p0, iv p1, iv p2, iv b0, iv b1, iv b2, iv b3, iv c0, iv c1, iv c2, iv c3, iv cx, iv d12, iv sh, .unset, .unset, .unset, .unset, .unset, .unset] [(.int (1 : Int32)), (.int ((p2.toUInt32 >>> ((16 : Int32) &&& 31).toUInt32).toInt32))]) (fun _ k => XS.iconst X0.here hx rfl (hb hby at_161) k) ?_
  refine own_to (T' := s₁) (mkF m 163 #[iv p0, iv p1, iv p2, iv b0, iv b1, iv b2, iv b3, iv c0, iv c1, iv c2, iv c3, iv cx, iv d12, iv sh, .unset, .unset, .unset, .unset, .unset, .unset] [(.int (((p2.toUInt32 >>> ((16 : Int32) &&& 31).toUInt32).toInt32) &&& (1 : Int32)))]) (fun _ k => XS.iand X0.here hx rfl (hb hby at_162) rfl k) ?_
  suffices jn18 : ∀ d14 : Int32, ((((p2.toUInt32 >>> ((16 : Int32) &&& 31).toUInt32).toInt32) &&& (1 : Int32)) = (0 : Int32) → d14 = (0 : Int32)) → (¬ (((p2.toUInt32 >>> ((16 : Int32) &&& 31).toUInt32).toInt32) &&& (1 : Int32)) = (0 : Int32) → d14 = (1 : Int32)) → own_E p e below (own_FinW s (own_Q0 Z p0 p1 p2 G1 h0 n0) room_1.cells room_1.slots) s₁ (mkF m 171 #[iv p0, iv p1, iv p2, iv b0, iv b1, iv b2, iv b3, iv c0, iv c1, iv c2, iv c3, iv cx, iv d12, iv sh, .unset, .unset, .unset, .unset, .unset, .unset] [(.int d14)]) from by
    by_cases hfd14 : (((p2.toUInt32 >>> ((16 : Int32) &&& 31).toUInt32).toInt32) &&& (1 : Int32)) = (0 : Int32)
    · refine own_to (T' := s₁) (mkF m 170 #[iv p0, iv p1, iv p2, iv b0, iv b1, iv b2, iv b3, iv c0, iv c1, iv c2, iv c3, iv cx, iv d12, iv sh, .unset, .unset, .unset, .unset, .unset, .unset] []) (fun _ k => XS.ifYes X0.here hx rfl (pc0 := 163) (pc' := 170) rfl (hb hby at_163) rfl ((if0 _ _).trans (teq hfd14).1) (by decide) (by decide) k) ?_
      refine own_to (T' := s₁) (mkF m 171 #[iv p0, iv p1, iv p2, iv b0, iv b1, iv b2, iv b3, iv c0, iv c1, iv c2, iv c3, iv cx, iv d12, iv sh, .unset, .unset, .unset, .unset, .unset, .unset] [(.int (0 : Int32))]) (fun _ k => XS.iconst X0.here hx rfl (hb hby at_170) k) ?_
      exact jn18 (0 : Int32) (fun _ => rfl) (fun q => absurd hfd14 q)
    · refine own_to (T' := s₁) (mkF m 166 #[iv p0, iv p1, iv p2, iv b0, iv b1, iv b2, iv b3, iv c0, iv c1, iv c2, iv c3, iv cx, iv d12, iv sh, .unset, .unset, .unset, .unset, .unset, .unset] []) (fun _ k => XS.ifNo X0.here hx rfl (hb hby at_163) rfl ((if0 _ _).trans (feq hfd14).1) k) ?_
      refine own_to (T' := s₁) (mkF m 167 #[iv p0, iv p1, iv p2, iv b0, iv b1, iv b2, iv b3, iv c0, iv c1, iv c2, iv c3, iv cx, iv d12, iv sh, .unset, .unset, .unset, .unset, .unset, .unset] [(.int (1 : Int32))]) (fun _ k => XS.iconst X0.here hx rfl (hb hby at_166) k) ?_
      refine own_to (T' := s₁) (mkF m 171 #[iv p0, iv p1, iv p2, iv b0, iv b1, iv b2, iv b3, iv c0, iv c1, iv c2, iv c3, iv cx, iv d12, iv sh, .unset, .unset, .unset, .unset, .unset, .unset] [(.int (1 : Int32))]) (fun _ k => XS.goto X0.here hx rfl (pc0 := 167) (pc' := 171) rfl (hb hby at_167) (by decide) (by decide) k) ?_
      exact jn18 (1 : Int32) (fun q => absurd q hfd14) (fun _ => rfl)
  intro d14 hd14t hd14f
  refine own_to (T' := s₁) (mkF m 173 #[iv p0, iv p1, iv p2, iv b0, iv b1, iv b2, iv b3, iv c0, iv c1, iv c2, iv c3, iv cx, iv d12, iv sh, iv d14, .unset, .unset, .unset, .unset, .unset] []) (fun _ k => XS.istore X0.here hx rfl (hb hby at_171) rfl (l' := #[iv p0, iv p1, iv p2, iv b0, iv b1, iv b2, iv b3, iv c0, iv c1, iv c2, iv c3, iv cx, iv d12, iv sh, iv d14, .unset, .unset, .unset, .unset, .unset]) rfl k) ?_
  rcases own_01 hd12t hd12f with q | q
  · subst q
    refine own_to (T' := s₁) (mkF m 175 #[iv p0, iv p1, iv p2, iv b0, iv b1, iv b2, iv b3, iv c0, iv c1, iv c2, iv c3, iv cx, iv 0, iv sh, iv d14, .unset, .unset, .unset, .unset, .unset] [(.int (0 : Int32))]) (fun _ k => XS.iload X0.here hx rfl (hb hby at_173) rfl k) ?_
    refine own_to (T' := s₁) (mkF m 182 #[iv p0, iv p1, iv p2, iv b0, iv b1, iv b2, iv b3, iv c0, iv c1, iv c2, iv c3, iv cx, iv 0, iv sh, iv d14, .unset, .unset, .unset, .unset, .unset] []) (fun _ k => XS.ifYes X0.here hx rfl (pc0 := 175) (pc' := 182) rfl (hb hby at_175) rfl ((if0 _ _).trans (teq (by decide : (0 : Int32) = (0 : Int32))).1) (by decide) (by decide) k) ?_
    obtain ⟨T19, h19, X19, e19, E19, A19, D19, -, st19⟩ := newO X0 hx hZ hown (hw _ (List.mem_of_getElem? (i := 0) rfl)) (hw _ (List.mem_of_getElem? (i := 1) rfl)) (hw _ (List.mem_of_getElem? (i := 2) rfl)) e0 (g := (mkF m 182 #[iv p0, iv p1, iv p2, iv b0, iv b1, iv b2, iv b3, iv c0, iv c1, iv c2, iv c3, iv cx, iv 0, iv sh, iv d14, .unset, .unset, .unset, .unset, .unset] [])) rfl (hb hby at_182) (by decide) (by decide)
    obtain ⟨b19, g19⟩ : ∃ z, z = h0.size := ⟨_, rfl⟩
    rw [← g19] at A19 D19 st19
    have sz_b19 : h0.size ≤ b19 := Nat.le_trans KP.1 (Nat.le_of_eq g19.symm)
    have ge_b19 : n0 ≤ b19 := Nat.le_trans Z0 sz_b19
    have OL := OL.ext E19
    have KP := KP.ext E19
    have hk1 := Nat.le_trans hk1 E19.1
    have E_b19 : Exa Z h19 b19 "java/lang/String" := A19
    have F_coder_b19 : Fld Z h19 b19 "java/lang/String" "coder" "B" (.int (0 : Int32)) := D19 (Or.inr (hw _ (List.mem_of_getElem? (i := 27) rfl))) (ty := .byte) (by decide)
    have F_value_b19 : Fld Z h19 b19 "java/lang/String" "value" "[B" .null := D19 (Or.inr (hw _ (List.mem_of_getElem? (i := 29) rfl))) (ty := (.array .byte)) (by decide)
    refine own_to (mkF m 185 #[iv p0, iv p1, iv p2, iv b0, iv b1, iv b2, iv b3, iv c0, iv c1, iv c2, iv c3, iv cx, iv 0, iv sh, iv d14, .unset, .unset, .unset, .unset, .unset] [(.ref b19)]) st19 ?_
    refine own_to (T' := T19) (mkF m 186 #[iv p0, iv p1, iv p2, iv b0, iv b1, iv b2, iv b3, iv c0, iv c1, iv c2, iv c3, iv cx, iv 0, iv sh, iv d14, .unset, .unset, .unset, .unset, .unset] [(.ref b19), (.ref b19)]) (fun _ k => XS.dup X19.here hx rfl (hb hby at_185) rfl rfl k) ?_
    refine own_to (T' := T19) (mkF m 187 #[iv p0, iv p1, iv p2, iv b0, iv b1, iv b2, iv b3, iv c0, iv c1, iv c2, iv c3, iv cx, iv 0, iv sh, iv d14, .unset, .unset, .unset, .unset, .unset] [(.int (4 : Int32)), (.ref b19), (.ref b19)]) (fun _ k => XS.iconst X19.here hx rfl (hb hby at_186) k) ?_
    obtain ⟨T20, h20, k20, X20, e20, E20, A20, B20, st20⟩ := newPE X19 hx hZ (hw _ (List.mem_of_getElem? (i := 3) rfl)) e19 (g := (mkF m 187 #[iv p0, iv p1, iv p2, iv b0, iv b1, iv b2, iv b3, iv c0, iv c1, iv c2, iv c3, iv cx, iv 0, iv sh, iv d14, .unset, .unset, .unset, .unset, .unset] [(.int (4 : Int32)), (.ref b19), (.ref b19)])) rfl (hb hby at_187) rfl (by decide) (cap := 4) (by decide) (by decide) (by decide) (by decide) (ad := "[C") (by decide)
    obtain ⟨b20, g20⟩ : ∃ z, z = h19.size := ⟨_, rfl⟩
    rw [← g20] at A20 B20 st20
    have sz_b20 : h0.size ≤ b20 := Nat.le_trans KP.1 (Nat.le_of_eq g20.symm)
    have ge_b20 : n0 ≤ b20 := Nat.le_trans Z0 sz_b20
    have ne_b19_b20 : b19 ≠ b20 := Nat.ne_of_lt (Nat.lt_of_lt_of_le E_b19.lt (Nat.le_of_eq g20.symm))
    have OL := OL.ext E20
    have KP := KP.ext E20
    have hk1 := Nat.le_trans hk1 E20.1
    have E_b19 := E_b19.ext E20
    have F_coder_b19 := F_coder_b19.ext E20
    have F_value_b19 := F_value_b19.ext E20
    have V_b20 : Arv Z h20 b20 k20 .char (4 : Int32) [(.int (0 : Int32)), (.int (0 : Int32)), (.int (0 : Int32)), (.int (0 : Int32))] (.int (0 : Int32)) := (Arv.new A20 (by decide)).pad (pad_rep [] (.int (0 : Int32)) 4)
    refine own_to (mkF m 189 #[iv p0, iv p1, iv p2, iv b0, iv b1, iv b2, iv b3, iv c0, iv c1, iv c2, iv c3, iv cx, iv 0, iv sh, iv d14, .unset, .unset, .unset, .unset, .unset] [(.ref b20), (.ref b19), (.ref b19)]) st20 ?_
    refine own_to (T' := T20) (mkF m 190 #[iv p0, iv p1, iv p2, iv b0, iv b1, iv b2, iv b3, iv c0, iv c1, iv c2, iv c3, iv cx, iv 0, iv sh, iv d14, .unset, .unset, .unset, .unset, .unset] [(.ref b20), (.ref b20), (.ref b19), (.ref b19)]) (fun _ k => XS.dup X20.here hx rfl (hb hby at_189) rfl rfl k) ?_
    refine own_to (T' := T20) (mkF m 191 #[iv p0, iv p1, iv p2, iv b0, iv b1, iv b2, iv b3, iv c0, iv c1, iv c2, iv c3, iv cx, iv 0, iv sh, iv d14, .unset, .unset, .unset, .unset, .unset] [(.int (0 : Int32)), (.ref b20), (.ref b20), (.ref b19), (.ref b19)]) (fun _ k => XS.iconst X20.here hx rfl (hb hby at_190) k) ?_
    refine own_to (T' := T20) (mkF m 192 #[iv p0, iv p1, iv p2, iv b0, iv b1, iv b2, iv b3, iv c0, iv c1, iv c2, iv c3, iv cx, iv 0, iv sh, iv d14, .unset, .unset, .unset, .unset, .unset] [(.int b0), (.int (0 : Int32)), (.ref b20), (.ref b20), (.ref b19), (.ref b19)]) (fun _ k => XS.iloadN X20.here hx rfl (hb hby at_191) rfl k) ?_
    obtain ⟨cl21, Ar21, q21, S21, M21, H21, G21⟩ := id V_b20
    obtain ⟨T21, h21, X21, e21, W21, st21⟩ := stC X20 hx hZ e20 Ar21 (j := (0 : Int32)) (inb_of S21 ⟨by decide, by decide⟩) (g := (mkF m 192 #[iv p0, iv p1, iv p2, iv b0, iv b1, iv b2, iv b3, iv c0, iv c1, iv c2, iv c3, iv cx, iv 0, iv sh, iv d14, .unset, .unset, .unset, .unset, .unset] [(.int b0), (.int (0 : Int32)), (.ref b20), (.ref b20), (.ref b19), (.ref b19)])) rfl rfl (hb hby at_192)
    refine own_to (mkF m 193 #[iv p0, iv p1, iv p2, iv b0, iv b1, iv b2, iv b3, iv c0, iv c1, iv c2, iv c3, iv cx, iv 0, iv sh, iv d14, .unset, .unset, .unset, .unset, .unset] [(.ref b20), (.ref b19), (.ref b19)]) st21 ?_
    have N21 := Fr.snoc X21 N0 ge_b20
    have tmp21 : Arv Z h21 b20 k20 .char (4 : Int32) [(.int (nar .char b0)), (.int (0 : Int32)), (.int (0 : Int32)), (.int (0 : Int32))] (.int (0 : Int32)) := Arv.set Ar21 q21 S21 M21 H21 G21 (fits_nar_char _) W21 0 rfl (Nat.le_of_ble_eq_true rfl)
    rw [own_nar8 c8_b0] at tmp21
    have OL := OL.wr W21 ge_b20
    have KP := KP.wr W21 (Or.inr sz_b20)
    have hk1 := Nat.le_trans hk1 (Keep.of_wr W21).1
    have E_b19 := E_b19.wr W21
    have F_coder_b19 := F_coder_b19.other W21 (Or.inl ne_b19_b20)
    have F_value_b19 := F_value_b19.other W21 (Or.inl ne_b19_b20)
    have V_b20 := tmp21
    refine own_to (T' := T21) (mkF m 194 #[iv p0, iv p1, iv p2, iv b0, iv b1, iv b2, iv b3, iv c0, iv c1, iv c2, iv c3, iv cx, iv 0, iv sh, iv d14, .unset, .unset, .unset, .unset, .unset] [(.ref b20), (.ref b20), (.ref b19), (.ref b19)]) (fun _ k => XS.dup X21.here hx rfl (hb hby at_193) rfl rfl k) ?_
    refine own_to (T' := T21) (mkF m 195 #[iv p0, iv p1, iv p2, iv b0, iv b1, iv b2, iv b3, iv c0, iv c1, iv c2, iv c3, iv cx, iv 0, iv sh, iv d14, .unset, .unset, .unset, .unset, .unset] [(.int (1 : Int32)), (.ref b20), (.ref b20), (.ref b19), (.ref b19)]) (fun _ k => XS.iconst X21.here hx rfl (hb hby at_194) k) ?_
    refine own_to (T' := T21) (mkF m 197 #[iv p0, iv p1, iv p2, iv b0, iv b1, iv b2, iv b3, iv c0, iv c1, iv c2, iv c3, iv cx, iv 0, iv sh, iv d14, .unset, .unset, .unset, .unset, .unset] [(.int b1), (.int (1 : Int32)), (.ref b20), (.ref b20), (.ref b19), (.ref b19)]) (fun _ k => XS.iload X21.here hx rfl (hb hby at_195) rfl k) ?_
    obtain ⟨cl22, Ar22, q22, S22, M22, H22, G22⟩ := id V_b20
    obtain ⟨T22, h22, X22, e22, W22, st22⟩ := stC X21 hx hZ e21 Ar22 (j := (1 : Int32)) (inb_of S22 ⟨by decide, by decide⟩) (g := (mkF m 197 #[iv p0, iv p1, iv p2, iv b0, iv b1, iv b2, iv b3, iv c0, iv c1, iv c2, iv c3, iv cx, iv 0, iv sh, iv d14, .unset, .unset, .unset, .unset, .unset] [(.int b1), (.int (1 : Int32)), (.ref b20), (.ref b20), (.ref b19), (.ref b19)])) rfl rfl (hb hby at_197)
    refine own_to (mkF m 198 #[iv p0, iv p1, iv p2, iv b0, iv b1, iv b2, iv b3, iv c0, iv c1, iv c2, iv c3, iv cx, iv 0, iv sh, iv d14, .unset, .unset, .unset, .unset, .unset] [(.ref b20), (.ref b19), (.ref b19)]) st22 ?_
    have N22 := Fr.snoc X22 N21 ge_b20
    have tmp22 : Arv Z h22 b20 k20 .char (4 : Int32) [(.int b0), (.int (nar .char b1)), (.int (0 : Int32)), (.int (0 : Int32))] (.int (0 : Int32)) := Arv.set Ar22 q22 S22 M22 H22 G22 (fits_nar_char _) W22 1 rfl (Nat.le_of_ble_eq_true rfl)
    rw [own_nar8 c8_b1] at tmp22
    have OL := OL.wr W22 ge_b20
    have KP := KP.wr W22 (Or.inr sz_b20)
    have hk1 := Nat.le_trans hk1 (Keep.of_wr W22).1
    have E_b19 := E_b19.wr W22
    have F_coder_b19 := F_coder_b19.other W22 (Or.inl ne_b19_b20)
    have F_value_b19 := F_value_b19.other W22 (Or.inl ne_b19_b20)
    have V_b20 := tmp22
    refine own_to (T' := T22) (mkF m 199 #[iv p0, iv p1, iv p2, iv b0, iv b1, iv b2, iv b3, iv c0, iv c1, iv c2, iv c3, iv cx, iv 0, iv sh, iv d14, .unset, .unset, .unset, .unset, .unset] [(.ref b20), (.ref b20), (.ref b19), (.ref b19)]) (fun _ k => XS.dup X22.here hx rfl (hb hby at_198) rfl rfl k) ?_
    refine own_to (T' := T22) (mkF m 200 #[iv p0, iv p1, iv p2, iv b0, iv b1, iv b2, iv b3, iv c0, iv c1, iv c2, iv c3, iv cx, iv 0, iv sh, iv d14, .unset, .unset, .unset, .unset, .unset] [(.int (2 : Int32)), (.ref b20), (.ref b20), (.ref b19), (.ref b19)]) (fun _ k => XS.iconst X22.here hx rfl (hb hby at_199) k) ?_
    refine own_to (T' := T22) (mkF m 202 #[iv p0, iv p1, iv p2, iv b0, iv b1, iv b2, iv b3, iv c0, iv c1, iv c2, iv c3, iv cx, iv 0, iv sh, iv d14, .unset, .unset, .unset, .unset, .unset] [(.int b2), (.int (2 : Int32)), (.ref b20), (.ref b20), (.ref b19), (.ref b19)]) (fun _ k => XS.iload X22.here hx rfl (hb hby at_200) rfl k) ?_
    obtain ⟨cl23, Ar23, q23, S23, M23, H23, G23⟩ := id V_b20
    obtain ⟨T23, h23, X23, e23, W23, st23⟩ := stC X22 hx hZ e22 Ar23 (j := (2 : Int32)) (inb_of S23 ⟨by decide, by decide⟩) (g := (mkF m 202 #[iv p0, iv p1, iv p2, iv b0, iv b1, iv b2, iv b3, iv c0, iv c1, iv c2, iv c3, iv cx, iv 0, iv sh, iv d14, .unset, .unset, .unset, .unset, .unset] [(.int b2), (.int (2 : Int32)), (.ref b20), (.ref b20), (.ref b19), (.ref b19)])) rfl rfl (hb hby at_202)
    refine own_to (mkF m 203 #[iv p0, iv p1, iv p2, iv b0, iv b1, iv b2, iv b3, iv c0, iv c1, iv c2, iv c3, iv cx, iv 0, iv sh, iv d14, .unset, .unset, .unset, .unset, .unset] [(.ref b20), (.ref b19), (.ref b19)]) st23 ?_
    have N23 := Fr.snoc X23 N22 ge_b20
    have tmp23 : Arv Z h23 b20 k20 .char (4 : Int32) [(.int b0), (.int b1), (.int (nar .char b2)), (.int (0 : Int32))] (.int (0 : Int32)) := Arv.set Ar23 q23 S23 M23 H23 G23 (fits_nar_char _) W23 2 rfl (Nat.le_of_ble_eq_true rfl)
    rw [own_nar8 c8_b2] at tmp23
    have OL := OL.wr W23 ge_b20
    have KP := KP.wr W23 (Or.inr sz_b20)
    have hk1 := Nat.le_trans hk1 (Keep.of_wr W23).1
    have E_b19 := E_b19.wr W23
    have F_coder_b19 := F_coder_b19.other W23 (Or.inl ne_b19_b20)
    have F_value_b19 := F_value_b19.other W23 (Or.inl ne_b19_b20)
    have V_b20 := tmp23
    refine own_to (T' := T23) (mkF m 204 #[iv p0, iv p1, iv p2, iv b0, iv b1, iv b2, iv b3, iv c0, iv c1, iv c2, iv c3, iv cx, iv 0, iv sh, iv d14, .unset, .unset, .unset, .unset, .unset] [(.ref b20), (.ref b20), (.ref b19), (.ref b19)]) (fun _ k => XS.dup X23.here hx rfl (hb hby at_203) rfl rfl k) ?_
    refine own_to (T' := T23) (mkF m 205 #[iv p0, iv p1, iv p2, iv b0, iv b1, iv b2, iv b3, iv c0, iv c1, iv c2, iv c3, iv cx, iv 0, iv sh, iv d14, .unset, .unset, .unset, .unset, .unset] [(.int (3 : Int32)), (.ref b20), (.ref b20), (.ref b19), (.ref b19)]) (fun _ k => XS.iconst X23.here hx rfl (hb hby at_204) k) ?_
    refine own_to (T' := T23) (mkF m 207 #[iv p0, iv p1, iv p2, iv b0, iv b1, iv b2, iv b3, iv c0, iv c1, iv c2, iv c3, iv cx, iv 0, iv sh, iv d14, .unset, .unset, .unset, .unset, .unset] [(.int b3), (.int (3 : Int32)), (.ref b20), (.ref b20), (.ref b19), (.ref b19)]) (fun _ k => XS.iload X23.here hx rfl (hb hby at_205) rfl k) ?_
    obtain ⟨cl24, Ar24, q24, S24, M24, H24, G24⟩ := id V_b20
    obtain ⟨T24, h24, X24, e24, W24, st24⟩ := stC X23 hx hZ e23 Ar24 (j := (3 : Int32)) (inb_of S24 ⟨by decide, by decide⟩) (g := (mkF m 207 #[iv p0, iv p1, iv p2, iv b0, iv b1, iv b2, iv b3, iv c0, iv c1, iv c2, iv c3, iv cx, iv 0, iv sh, iv d14, .unset, .unset, .unset, .unset, .unset] [(.int b3), (.int (3 : Int32)), (.ref b20), (.ref b20), (.ref b19), (.ref b19)])) rfl rfl (hb hby at_207)
    refine own_to (mkF m 208 #[iv p0, iv p1, iv p2, iv b0, iv b1, iv b2, iv b3, iv c0, iv c1, iv c2, iv c3, iv cx, iv 0, iv sh, iv d14, .unset, .unset, .unset, .unset, .unset] [(.ref b20), (.ref b19), (.ref b19)]) st24 ?_
    have N24 := Fr.snoc X24 N23 ge_b20
    have tmp24 : Arv Z h24 b20 k20 .char (4 : Int32) [(.int b0), (.int b1), (.int b2), (.int (nar .char b3))] (.int (0 : Int32)) := Arv.set Ar24 q24 S24 M24 H24 G24 (fits_nar_char _) W24 3 rfl (Nat.le_of_ble_eq_true rfl)
    rw [own_nar8 c8_b3] at tmp24
    have OL := OL.wr W24 ge_b20
    have KP := KP.wr W24 (Or.inr sz_b20)
    have hk1 := Nat.le_trans hk1 (Keep.of_wr W24).1
    have E_b19 := E_b19.wr W24
    have F_coder_b19 := F_coder_b19.other W24 (Or.inl ne_b19_b20)
    have F_value_b19 := F_value_b19.other W24 (Or.inl ne_b19_b20)
    have V_b20 := tmp24
    have hp25 : ∀ c ∈ ([b0, b1, b2, b3] : List Int32), ¬ c < 0 ∧ ¬ (255 : Int32) < c := (own_allS c8_b0 (own_allS c8_b1 (own_allS c8_b2 (own_allS c8_b3 own_all0))))
    have KP0 := KP
    have lt0_b19 := E_b19.lt
    have lt0_b20 := V_b20.lt
    obtain ⟨_, _, ⟨T26, L26, k26, n26⟩, -, X26, ⟨Lc26, hQ26, l26, y26, z26⟩, st26⟩ := X24.specialBack hx (y := (⟨"java/lang/String", "<init>", "([C)V"⟩ : MethodName)) rfl hown (mvT hZ (hw _ (List.mem_of_getElem? (i := 4) rfl))) (mvT hZ (hw _ (List.mem_of_getElem? (i := 5) rfl))) (mvT hZ (hw _ (List.mem_of_getElem? (i := 6) rfl))) (by decide) (StrChars.Road.backV (W := 1) hZ hwsV (kI := 4) (hw _ (List.mem_of_getElem? (i := 1) rfl)) (cs := ([b0, b1, b2, b3] : List Int32)) (bs := (([b0, b1, b2, b3] : List Int32)).map (fun c => c.toInt8.toInt32)) (n := 4) ge_b19 (Nat.le_trans Z0 KP.1) E_b19 F_value_b19 F_coder_b19 V_b20 (O2.ext OL.2) P5 rfl rfl (by decide) (by decide) hp25 rfl (by decide) (by decide)) (g := (mkF m 208 #[iv p0, iv p1, iv p2, iv b0, iv b1, iv b2, iv b3, iv c0, iv c1, iv c2, iv c3, iv cx, iv 0, iv sh, iv d14, .unset, .unset, .unset, .unset, .unset] [(.ref b20), (.ref b19), (.ref b19)])) rfl (by rw [hml]; rfl) (Steps.refl _) (a := b19) (argsL := [(.ref b20)]) (rest := [(.ref b19)]) (lenOf own_pd1 rfl) rfl (by show 2 * 0 + _ ≤ _; exact Nat.le_of_eq rfl) (hb hby at_208) (fun _ _ => ⟨rfl, e24, (by decide : 2 + 1 ≤ _), (by decide : 8 + 4 ≤ _)⟩)
    dsimp only [Pt.U, Pt.locs, Pt.cells, Pt.slots] at X26 l26 y26 z26 st26 hQ26
    subst l26 y26 z26
    obtain ⟨rfl, N26q, K26, Ex26, Cx26, t_br, kb_br, ge_t_br, sz0_t_br, ne_t_br_b19, Vx26, Kx26⟩ := hQ26
    have N26 := Fr.app N24 N26q
    have OL := OL.keep K26 (allS ge_b19 all0)
    have KP := KP.trans K26 (allS (Or.inr sz_b19) all0)
    have hk1 := Nat.le_trans hk1 K26.1
    have E_b19 := E_b19.keep K26
    have V_b20 := V_b20.keep K26 (ninS (Ne.symm ne_b19_b20) nin0)
    refine own_via (mkF m 211 #[iv p0, iv p1, iv p2, iv b0, iv b1, iv b2, iv b3, iv c0, iv c1, iv c2, iv c3, iv cx, iv 0, iv sh, iv d14, .unset, .unset, .unset, .unset, .unset] [(.ref b19)]) st26 ?_
    have sz_t_br : h0.size ≤ t_br := Nat.le_trans KP0.1 sz0_t_br
    have ne_b20_t_br : b20 ≠ t_br := Nat.ne_of_lt (Nat.lt_of_lt_of_le lt0_b20 sz0_t_br)
    have S_br : own_Str Z T26.heap b19 t_br kb_br ([b0, b1, b2, b3] : List Int32) := ⟨Ex26, Vx26, Cx26, Kx26, hp25, Nat.le_of_ble_eq_true rfl⟩
    refine own_to (T' := T26) (mkF m 213 #[iv p0, iv p1, iv p2, iv b0, iv b1, iv b2, iv b3, iv c0, iv c1, iv c2, iv c3, iv cx, iv 0, iv sh, iv d14, rv b19, .unset, .unset, .unset, .unset] []) (fun _ k => XS.astore X26.here hx rfl (hb hby at_211) rfl rfl (l' := #[iv p0, iv p1, iv p2, iv b0, iv b1, iv b2, iv b3, iv c0, iv c1, iv c2, iv c3, iv cx, iv 0, iv sh, iv d14, rv b19, .unset, .unset, .unset, .unset]) rfl k) ?_
    refine own_to (T' := T26) (mkF m 215 #[iv p0, iv p1, iv p2, iv b0, iv b1, iv b2, iv b3, iv c0, iv c1, iv c2, iv c3, iv cx, iv 0, iv sh, iv d14, rv b19, .unset, .unset, .unset, .unset] [(.int sh)]) (fun _ k => XS.iload X26.here hx rfl (hb hby at_213) rfl k) ?_
    refine own_to (T' := T26) (mkF m 216 #[iv p0, iv p1, iv p2, iv b0, iv b1, iv b2, iv b3, iv c0, iv c1, iv c2, iv c3, iv cx, iv 0, iv sh, iv d14, rv b19, .unset, .unset, .unset, .unset] [(.int (2 : Int32)), (.int sh)]) (fun _ k => XS.iconst X26.here hx rfl (hb hby at_215) k) ?_
    by_cases hs2 : sh = (2 : Int32)
    · refine own_to (T' := T26) (mkF m 219 #[iv p0, iv p1, iv p2, iv b0, iv b1, iv b2, iv b3, iv c0, iv c1, iv c2, iv c3, iv cx, iv 0, iv sh, iv d14, rv b19, .unset, .unset, .unset, .unset] []) (fun _ k => XS.icmpNo X26.here hx rfl (hb hby at_216) rfl (teq hs2).2 k) ?_
      obtain ⟨T27, h27, X27, e27, E27, A27, D27, -, st27⟩ := newO X26 hx hZ hown (hw _ (List.mem_of_getElem? (i := 0) rfl)) (hw _ (List.mem_of_getElem? (i := 1) rfl)) (hw _ (List.mem_of_getElem? (i := 2) rfl)) rfl (g := (mkF m 219 #[iv p0, iv p1, iv p2, iv b0, iv b1, iv b2, iv b3, iv c0, iv c1, iv c2, iv c3, iv cx, iv 0, iv sh, iv d14, rv b19, .unset, .unset, .unset, .unset] [])) rfl (hb hby at_219) (by decide) (by decide)
      obtain ⟨b27, g27⟩ : ∃ z, z = T26.heap.size := ⟨_, rfl⟩
      rw [← g27] at A27 D27 st27
      have sz_b27 : h0.size ≤ b27 := Nat.le_trans KP.1 (Nat.le_of_eq g27.symm)
      have ge_b27 : n0 ≤ b27 := Nat.le_trans Z0 sz_b27
      have ne_b20_b27 : b20 ≠ b27 := Nat.ne_of_lt (Nat.lt_of_lt_of_le V_b20.lt (Nat.le_of_eq g27.symm))
      have ne_b19_b27 : b19 ≠ b27 := Nat.ne_of_lt (Nat.lt_of_lt_of_le S_br.lt (Nat.le_of_eq g27.symm))
      have ne_t_br_b27 : t_br ≠ b27 := Nat.ne_of_lt (Nat.lt_of_lt_of_le S_br.ltT (Nat.le_of_eq g27.symm))
      have OL := OL.ext E27
      have KP := KP.ext E27
      have hk1 := Nat.le_trans hk1 E27.1
      have V_b20 := V_b20.ext E27
      have S_br := S_br.ext E27
      have E_b27 : Exa Z h27 b27 "java/lang/String" := A27
      have F_coder_b27 : Fld Z h27 b27 "java/lang/String" "coder" "B" (.int (0 : Int32)) := D27 (Or.inr (hw _ (List.mem_of_getElem? (i := 27) rfl))) (ty := .byte) (by decide)
      have F_value_b27 : Fld Z h27 b27 "java/lang/String" "value" "[B" .null := D27 (Or.inr (hw _ (List.mem_of_getElem? (i := 29) rfl))) (ty := (.array .byte)) (by decide)
      refine own_to (mkF m 222 #[iv p0, iv p1, iv p2, iv b0, iv b1, iv b2, iv b3, iv c0, iv c1, iv c2, iv c3, iv cx, iv 0, iv sh, iv d14, rv b19, .unset, .unset, .unset, .unset] [(.ref b27)]) st27 ?_
      refine own_to (T' := T27) (mkF m 223 #[iv p0, iv p1, iv p2, iv b0, iv b1, iv b2, iv b3, iv c0, iv c1, iv c2, iv c3, iv cx, iv 0, iv sh, iv d14, rv b19, .unset, .unset, .unset, .unset] [(.ref b27), (.ref b27)]) (fun _ k => XS.dup X27.here hx rfl (hb hby at_222) rfl rfl k) ?_
      refine own_to (T' := T27) (mkF m 224 #[iv p0, iv p1, iv p2, iv b0, iv b1, iv b2, iv b3, iv c0, iv c1, iv c2, iv c3, iv cx, iv 0, iv sh, iv d14, rv b19, .unset, .unset, .unset, .unset] [(.int (3 : Int32)), (.ref b27), (.ref b27)]) (fun _ k => XS.iconst X27.here hx rfl (hb hby at_223) k) ?_
      obtain ⟨T28, h28, k28, X28, e28, E28, A28, B28, st28⟩ := newPE X27 hx hZ (hw _ (List.mem_of_getElem? (i := 3) rfl)) e27 (g := (mkF m 224 #[iv p0, iv p1, iv p2, iv b0, iv b1, iv b2, iv b3, iv c0, iv c1, iv c2, iv c3, iv cx, iv 0, iv sh, iv d14, rv b19, .unset, .unset, .unset, .unset] [(.int (3 : Int32)), (.ref b27), (.ref b27)])) rfl (hb hby at_224) rfl (by decide) (cap := 3) (by decide) (by decide) (by decide) (by decide) (ad := "[C") (by decide)
      obtain ⟨b28, g28⟩ : ∃ z, z = h27.size := ⟨_, rfl⟩
      rw [← g28] at A28 B28 st28
      have sz_b28 : h0.size ≤ b28 := Nat.le_trans KP.1 (Nat.le_of_eq g28.symm)
      have ge_b28 : n0 ≤ b28 := Nat.le_trans Z0 sz_b28
      have ne_b20_b28 : b20 ≠ b28 := Nat.ne_of_lt (Nat.lt_of_lt_of_le V_b20.lt (Nat.le_of_eq g28.symm))
      have ne_b19_b28 : b19 ≠ b28 := Nat.ne_of_lt (Nat.lt_of_lt_of_le S_br.lt (Nat.le_of_eq g28.symm))
      have ne_t_br_b28 : t_br ≠ b28 := Nat.ne_of_lt (Nat.lt_of_lt_of_le S_br.ltT (Nat.le_of_eq g28.symm))
      have ne_b27_b28 : b27 ≠ b28 := Nat.ne_of_lt (Nat.lt_of_lt_of_le E_b27.lt (Nat.le_of_eq g28.symm))
      have OL := OL.ext E28
      have KP := KP.ext E28
      have hk1 := Nat.le_trans hk1 E28.1
      have V_b20 := V_b20.ext E28
      have S_br := S_br.ext E28
      have E_b27 := E_b27.ext E28
      have F_coder_b27 := F_coder_b27.ext E28
      have F_value_b27 := F_value_b27.ext E28
      have V_b28 : Arv Z h28 b28 k28 .char (3 : Int32) [(.int (0 : Int32)), (.int (0 : Int32)), (.int (0 : Int32))] (.int (0 : Int32)) := (Arv.new A28 (by decide)).pad (pad_rep [] (.int (0 : Int32)) 3)
      refine own_to (mkF m 226 #[iv p0, iv p1, iv p2, iv b0, iv b1, iv b2, iv b3, iv c0, iv c1, iv c2, iv c3, iv cx, iv 0, iv sh, iv d14, rv b19, .unset, .unset, .unset, .unset] [(.ref b28), (.ref b27), (.ref b27)]) st28 ?_
      refine own_to (T' := T28) (mkF m 227 #[iv p0, iv p1, iv p2, iv b0, iv b1, iv b2, iv b3, iv c0, iv c1, iv c2, iv c3, iv cx, iv 0, iv sh, iv d14, rv b19, .unset, .unset, .unset, .unset] [(.ref b28), (.ref b28), (.ref b27), (.ref b27)]) (fun _ k => XS.dup X28.here hx rfl (hb hby at_226) rfl rfl k) ?_
      refine own_to (T' := T28) (mkF m 228 #[iv p0, iv p1, iv p2, iv b0, iv b1, iv b2, iv b3, iv c0, iv c1, iv c2, iv c3, iv cx, iv 0, iv sh, iv d14, rv b19, .unset, .unset, .unset, .unset] [(.int (0 : Int32)), (.ref b28), (.ref b28), (.ref b27), (.ref b27)]) (fun _ k => XS.iconst X28.here hx rfl (hb hby at_227) k) ?_
      refine own_to (T' := T28) (mkF m 230 #[iv p0, iv p1, iv p2, iv b0, iv b1, iv b2, iv b3, iv c0, iv c1, iv c2, iv c3, iv cx, iv 0, iv sh, iv d14, rv b19, .unset, .unset, .unset, .unset] [(.int c0), (.int (0 : Int32)), (.ref b28), (.ref b28), (.ref b27), (.ref b27)]) (fun _ k => XS.iload X28.here hx rfl (hb hby at_228) rfl k) ?_
      obtain ⟨cl29, Ar29, q29, S29, M29, H29, G29⟩ := id V_b28
      obtain ⟨T29, h29, X29, e29, W29, st29⟩ := stC X28 hx hZ e28 Ar29 (j := (0 : Int32)) (inb_of S29 ⟨by decide, by decide⟩) (g := (mkF m 230 #[iv p0, iv p1, iv p2, iv b0, iv b1, iv b2, iv b3, iv c0, iv c1, iv c2, iv c3, iv cx, iv 0, iv sh, iv d14, rv b19, .unset, .unset, .unset, .unset] [(.int c0), (.int (0 : Int32)), (.ref b28), (.ref b28), (.ref b27), (.ref b27)])) rfl rfl (hb hby at_230)
      refine own_to (mkF m 231 #[iv p0, iv p1, iv p2, iv b0, iv b1, iv b2, iv b3, iv c0, iv c1, iv c2, iv c3, iv cx, iv 0, iv sh, iv d14, rv b19, .unset, .unset, .unset, .unset] [(.ref b28), (.ref b27), (.ref b27)]) st29 ?_
      have N29 := Fr.snoc X29 N26 ge_b28
      have tmp29 : Arv Z h29 b28 k28 .char (3 : Int32) [(.int (nar .char c0)), (.int (0 : Int32)), (.int (0 : Int32))] (.int (0 : Int32)) := Arv.set Ar29 q29 S29 M29 H29 G29 (fits_nar_char _) W29 0 rfl (Nat.le_of_ble_eq_true rfl)
      rw [own_nar8 c8_c0] at tmp29
      have OL := OL.wr W29 ge_b28
      have KP := KP.wr W29 (Or.inr sz_b28)
      have hk1 := Nat.le_trans hk1 (Keep.of_wr W29).1
      have V_b20 := V_b20.other W29 ne_b20_b28
      have S_br := S_br.wr W29 ne_b19_b28 ne_t_br_b28
      have E_b27 := E_b27.wr W29
      have F_coder_b27 := F_coder_b27.other W29 (Or.inl ne_b27_b28)
      have F_value_b27 := F_value_b27.other W29 (Or.inl ne_b27_b28)
      have V_b28 := tmp29
      refine own_to (T' := T29) (mkF m 232 #[iv p0, iv p1, iv p2, iv b0, iv b1, iv b2, iv b3, iv c0, iv c1, iv c2, iv c3, iv cx, iv 0, iv sh, iv d14, rv b19, .unset, .unset, .unset, .unset] [(.ref b28), (.ref b28), (.ref b27), (.ref b27)]) (fun _ k => XS.dup X29.here hx rfl (hb hby at_231) rfl rfl k) ?_
      refine own_to (T' := T29) (mkF m 233 #[iv p0, iv p1, iv p2, iv b0, iv b1, iv b2, iv b3, iv c0, iv c1, iv c2, iv c3, iv cx, iv 0, iv sh, iv d14, rv b19, .unset, .unset, .unset, .unset] [(.int (1 : Int32)), (.ref b28), (.ref b28), (.ref b27), (.ref b27)]) (fun _ k => XS.iconst X29.here hx rfl (hb hby at_232) k) ?_
      refine own_to (T' := T29) (mkF m 235 #[iv p0, iv p1, iv p2, iv b0, iv b1, iv b2, iv b3, iv c0, iv c1, iv c2, iv c3, iv cx, iv 0, iv sh, iv d14, rv b19, .unset, .unset, .unset, .unset] [(.int c1), (.int (1 : Int32)), (.ref b28), (.ref b28), (.ref b27), (.ref b27)]) (fun _ k => XS.iload X29.here hx rfl (hb hby at_233) rfl k) ?_
      obtain ⟨cl30, Ar30, q30, S30, M30, H30, G30⟩ := id V_b28
      obtain ⟨T30, h30, X30, e30, W30, st30⟩ := stC X29 hx hZ e29 Ar30 (j := (1 : Int32)) (inb_of S30 ⟨by decide, by decide⟩) (g := (mkF m 235 #[iv p0, iv p1, iv p2, iv b0, iv b1, iv b2, iv b3, iv c0, iv c1, iv c2, iv c3, iv cx, iv 0, iv sh, iv d14, rv b19, .unset, .unset, .unset, .unset] [(.int c1), (.int (1 : Int32)), (.ref b28), (.ref b28), (.ref b27), (.ref b27)])) rfl rfl (hb hby at_235)
      refine own_to (mkF m 236 #[iv p0, iv p1, iv p2, iv b0, iv b1, iv b2, iv b3, iv c0, iv c1, iv c2, iv c3, iv cx, iv 0, iv sh, iv d14, rv b19, .unset, .unset, .unset, .unset] [(.ref b28), (.ref b27), (.ref b27)]) st30 ?_
      have N30 := Fr.snoc X30 N29 ge_b28
      have tmp30 : Arv Z h30 b28 k28 .char (3 : Int32) [(.int c0), (.int (nar .char c1)), (.int (0 : Int32))] (.int (0 : Int32)) := Arv.set Ar30 q30 S30 M30 H30 G30 (fits_nar_char _) W30 1 rfl (Nat.le_of_ble_eq_true rfl)
      rw [own_nar8 c8_c1] at tmp30
      have OL := OL.wr W30 ge_b28
      have KP := KP.wr W30 (Or.inr sz_b28)
      have hk1 := Nat.le_trans hk1 (Keep.of_wr W30).1
      have V_b20 := V_b20.other W30 ne_b20_b28
      have S_br := S_br.wr W30 ne_b19_b28 ne_t_br_b28
      have E_b27 := E_b27.wr W30
      have F_coder_b27 := F_coder_b27.other W30 (Or.inl ne_b27_b28)
      have F_value_b27 := F_value_b27.other W30 (Or.inl ne_b27_b28)
      have V_b28 := tmp30
      refine own_to (T' := T30) (mkF m 237 #[iv p0, iv p1, iv p2, iv b0, iv b1, iv b2, iv b3, iv c0, iv c1, iv c2, iv c3, iv cx, iv 0, iv sh, iv d14, rv b19, .unset, .unset, .unset, .unset] [(.ref b28), (.ref b28), (.ref b27), (.ref b27)]) (fun _ k => XS.dup X30.here hx rfl (hb hby at_236) rfl rfl k) ?_
      refine own_to (T' := T30) (mkF m 238 #[iv p0, iv p1, iv p2, iv b0, iv b1, iv b2, iv b3, iv c0, iv c1, iv c2, iv c3, iv cx, iv 0, iv sh, iv d14, rv b19, .unset, .unset, .unset, .unset] [(.int (2 : Int32)), (.ref b28), (.ref b28), (.ref b27), (.ref b27)]) (fun _ k => XS.iconst X30.here hx rfl (hb hby at_237) k) ?_
      refine own_to (T' := T30) (mkF m 240 #[iv p0, iv p1, iv p2, iv b0, iv b1, iv b2, iv b3, iv c0, iv c1, iv c2, iv c3, iv cx, iv 0, iv sh, iv d14, rv b19, .unset, .unset, .unset, .unset] [(.int c2), (.int (2 : Int32)), (.ref b28), (.ref b28), (.ref b27), (.ref b27)]) (fun _ k => XS.iload X30.here hx rfl (hb hby at_238) rfl k) ?_
      obtain ⟨cl31, Ar31, q31, S31, M31, H31, G31⟩ := id V_b28
      obtain ⟨T31, h31, X31, e31, W31, st31⟩ := stC X30 hx hZ e30 Ar31 (j := (2 : Int32)) (inb_of S31 ⟨by decide, by decide⟩) (g := (mkF m 240 #[iv p0, iv p1, iv p2, iv b0, iv b1, iv b2, iv b3, iv c0, iv c1, iv c2, iv c3, iv cx, iv 0, iv sh, iv d14, rv b19, .unset, .unset, .unset, .unset] [(.int c2), (.int (2 : Int32)), (.ref b28), (.ref b28), (.ref b27), (.ref b27)])) rfl rfl (hb hby at_240)
      refine own_to (mkF m 241 #[iv p0, iv p1, iv p2, iv b0, iv b1, iv b2, iv b3, iv c0, iv c1, iv c2, iv c3, iv cx, iv 0, iv sh, iv d14, rv b19, .unset, .unset, .unset, .unset] [(.ref b28), (.ref b27), (.ref b27)]) st31 ?_
      have N31 := Fr.snoc X31 N30 ge_b28
      have tmp31 : Arv Z h31 b28 k28 .char (3 : Int32) [(.int c0), (.int c1), (.int (nar .char c2))] (.int (0 : Int32)) := Arv.set Ar31 q31 S31 M31 H31 G31 (fits_nar_char _) W31 2 rfl (Nat.le_of_ble_eq_true rfl)
      rw [own_nar8 c8_c2] at tmp31
      have OL := OL.wr W31 ge_b28
      have KP := KP.wr W31 (Or.inr sz_b28)
      have hk1 := Nat.le_trans hk1 (Keep.of_wr W31).1
      have V_b20 := V_b20.other W31 ne_b20_b28
      have S_br := S_br.wr W31 ne_b19_b28 ne_t_br_b28
      have E_b27 := E_b27.wr W31
      have F_coder_b27 := F_coder_b27.other W31 (Or.inl ne_b27_b28)
      have F_value_b27 := F_value_b27.other W31 (Or.inl ne_b27_b28)
      have V_b28 := tmp31
      have hp32 : ∀ c ∈ ([c0, c1, c2] : List Int32), ¬ c < 0 ∧ ¬ (255 : Int32) < c := (own_allS c8_c0 (own_allS c8_c1 (own_allS c8_c2 own_all0)))
      have KP0 := KP
      have lt0_b20 := V_b20.lt
      have lt0_b19 := S_br.lt
      have lt0_t_br := S_br.ltT
      have lt0_b27 := E_b27.lt
      have lt0_b28 := V_b28.lt
      obtain ⟨_, _, ⟨T33, L33, k33, n33⟩, -, X33, ⟨Lc33, hQ33, l33, y33, z33⟩, st33⟩ := X31.specialBack hx (y := (⟨"java/lang/String", "<init>", "([C)V"⟩ : MethodName)) rfl hown (mvT hZ (hw _ (List.mem_of_getElem? (i := 4) rfl))) (mvT hZ (hw _ (List.mem_of_getElem? (i := 5) rfl))) (mvT hZ (hw _ (List.mem_of_getElem? (i := 6) rfl))) (by decide) (StrChars.Road.backV (W := 1) hZ hwsV (kI := 4) (hw _ (List.mem_of_getElem? (i := 1) rfl)) (cs := ([c0, c1, c2] : List Int32)) (bs := (([c0, c1, c2] : List Int32)).map (fun c => c.toInt8.toInt32)) (n := 3) ge_b27 (Nat.le_trans Z0 KP.1) E_b27 F_value_b27 F_coder_b27 V_b28 (O2.ext OL.2) P5 rfl rfl (by decide) (by decide) hp32 rfl (by decide) (by decide)) (g := (mkF m 241 #[iv p0, iv p1, iv p2, iv b0, iv b1, iv b2, iv b3, iv c0, iv c1, iv c2, iv c3, iv cx, iv 0, iv sh, iv d14, rv b19, .unset, .unset, .unset, .unset] [(.ref b28), (.ref b27), (.ref b27)])) rfl (by rw [hml]; rfl) (Steps.refl _) (a := b27) (argsL := [(.ref b28)]) (rest := [(.ref b27)]) (lenOf own_pd1 rfl) rfl (by show 2 * 0 + _ ≤ _; exact Nat.le_of_eq rfl) (hb hby at_241) (fun _ _ => ⟨rfl, e31, (by decide : 5 + 1 ≤ _), (by decide : 19 + 3 ≤ _)⟩)
      dsimp only [Pt.U, Pt.locs, Pt.cells, Pt.slots] at X33 l33 y33 z33 st33 hQ33
      subst l33 y33 z33
      obtain ⟨rfl, N33q, K33, Ex33, Cx33, t_co, kb_co, ge_t_co, sz0_t_co, ne_t_co_b27, Vx33, Kx33⟩ := hQ33
      have N33 := Fr.app N31 N33q
      have OL := OL.keep K33 (allS ge_b27 all0)
      have KP := KP.trans K33 (allS (Or.inr sz_b27) all0)
      have hk1 := Nat.le_trans hk1 K33.1
      have V_b20 := V_b20.keep K33 (ninS ne_b20_b27 nin0)
      have S_br := S_br.keep K33 (ninS ne_b19_b27 nin0) (ninS ne_t_br_b27 nin0)
      have E_b27 := E_b27.keep K33
      have V_b28 := V_b28.keep K33 (ninS (Ne.symm ne_b27_b28) nin0)
      refine own_via (mkF m 244 #[iv p0, iv p1, iv p2, iv b0, iv b1, iv b2, iv b3, iv c0, iv c1, iv c2, iv c3, iv cx, iv 0, iv sh, iv d14, rv b19, .unset, .unset, .unset, .unset] [(.ref b27)]) st33 ?_
      have sz_t_co : h0.size ≤ t_co := Nat.le_trans KP0.1 sz0_t_co
      have ne_b20_t_co : b20 ≠ t_co := Nat.ne_of_lt (Nat.lt_of_lt_of_le lt0_b20 sz0_t_co)
      have ne_b19_t_co : b19 ≠ t_co := Nat.ne_of_lt (Nat.lt_of_lt_of_le lt0_b19 sz0_t_co)
      have ne_t_br_t_co : t_br ≠ t_co := Nat.ne_of_lt (Nat.lt_of_lt_of_le lt0_t_br sz0_t_co)
      have ne_b28_t_co : b28 ≠ t_co := Nat.ne_of_lt (Nat.lt_of_lt_of_le lt0_b28 sz0_t_co)
      have S_co : own_Str Z T33.heap b27 t_co kb_co ([c0, c1, c2] : List Int32) := ⟨Ex33, Vx33, Cx33, Kx33, hp32, Nat.le_of_ble_eq_true rfl⟩
      refine own_to (T' := T33) (mkF m 246 #[iv p0, iv p1, iv p2, iv b0, iv b1, iv b2, iv b3, iv c0, iv c1, iv c2, iv c3, iv cx, iv 0, iv sh, iv d14, rv b19, rv b27, .unset, .unset, .unset] []) (fun _ k => XS.astore X33.here hx rfl (hb hby at_244) rfl rfl (l' := #[iv p0, iv p1, iv p2, iv b0, iv b1, iv b2, iv b3, iv c0, iv c1, iv c2, iv c3, iv cx, iv 0, iv sh, iv d14, rv b19, rv b27, .unset, .unset, .unset]) rfl k) ?_
      refine own_to (T' := T33) (mkF m 247 #[iv p0, iv p1, iv p2, iv b0, iv b1, iv b2, iv b3, iv c0, iv c1, iv c2, iv c3, iv cx, iv 0, iv sh, iv d14, rv b19, rv b27, .unset, .unset, .unset] [(.int (3 : Int32))]) (fun _ k => XS.iconst X33.here hx rfl (hb hby at_246) k) ?_
      refine own_to (T' := T33) (mkF m 249 #[iv p0, iv p1, iv p2, iv b0, iv b1, iv b2, iv b3, iv c0, iv c1, iv c2, iv c3, iv cx, iv 0, iv sh, iv d14, rv b19, rv b27, iv 3, .unset, .unset] []) (fun _ k => XS.istore X33.here hx rfl (hb hby at_247) rfl (l' := #[iv p0, iv p1, iv p2, iv b0, iv b1, iv b2, iv b3, iv c0, iv c1, iv c2, iv c3, iv cx, iv 0, iv sh, iv d14, rv b19, rv b27, iv 3, .unset, .unset]) rfl k) ?_
      refine own_to (T' := T33) (mkF m 336 #[iv p0, iv p1, iv p2, iv b0, iv b1, iv b2, iv b3, iv c0, iv c1, iv c2, iv c3, iv cx, iv 0, iv sh, iv d14, rv b19, rv b27, iv 3, .unset, .unset] []) (fun _ k => XS.goto X33.here hx rfl (pc0 := 249) (pc' := 336) rfl (hb hby at_249) (by decide) (by decide) k) ?_
      refine own_to (T' := T33) (mkF m 338 #[iv p0, iv p1, iv p2, iv b0, iv b1, iv b2, iv b3, iv c0, iv c1, iv c2, iv c3, iv cx, iv 0, iv sh, iv d14, rv b19, rv b27, iv 3, .unset, .unset] [(.int (0 : Int32))]) (fun _ k => XS.iload X33.here hx rfl (hb hby at_336) rfl k) ?_
      refine own_to (T' := T33) (mkF m 347 #[iv p0, iv p1, iv p2, iv b0, iv b1, iv b2, iv b3, iv c0, iv c1, iv c2, iv c3, iv cx, iv 0, iv sh, iv d14, rv b19, rv b27, iv 3, .unset, .unset] []) (fun _ k => XS.ifYes X33.here hx rfl (pc0 := 338) (pc' := 347) rfl (hb hby at_338) rfl ((if0 _ _).trans (teq (by decide : (0 : Int32) = (0 : Int32))).1) (by decide) (by decide) k) ?_
      refine own_to (T' := T33) (mkF m 349 #[iv p0, iv p1, iv p2, iv b0, iv b1, iv b2, iv b3, iv c0, iv c1, iv c2, iv c3, iv cx, iv 0, iv sh, iv d14, rv b19, rv b27, iv 3, .unset, .unset] [(.int (3 : Int32))]) (fun _ k => XS.iload X33.here hx rfl (hb hby at_347) rfl k) ?_
      refine own_to (T' := T33) (mkF m 350 #[iv p0, iv p1, iv p2, iv b0, iv b1, iv b2, iv b3, iv c0, iv c1, iv c2, iv c3, iv cx, iv 0, iv sh, iv d14, rv b19, rv b27, iv 3, .unset, .unset] [(.int (4 : Int32)), (.int (3 : Int32))]) (fun _ k => XS.iconst X33.here hx rfl (hb hby at_349) k) ?_
      refine own_to (T' := T33) (mkF m 353 #[iv p0, iv p1, iv p2, iv b0, iv b1, iv b2, iv b3, iv c0, iv c1, iv c2, iv c3, iv cx, iv 0, iv sh, iv d14, rv b19, rv b27, iv 3, .unset, .unset] []) (fun _ k => XS.icmpNo X33.here hx rfl (hb hby at_350) rfl (feq (by decide : ¬ ((3 : Int32) = (4 : Int32)))).1 k) ?_
      refine own_to (T' := T33) (mkF m 354 #[iv p0, iv p1, iv p2, iv b0, iv b1, iv b2, iv b3, iv c0, iv c1, iv c2, iv c3, iv cx, iv 0, iv sh, iv d14, rv b19, rv b27, iv 3, .unset, .unset] [(.int (1 : Int32))]) (fun _ k => XS.iconst X33.here hx rfl (hb hby at_353) k) ?_
      refine own_to (T' := T33) (mkF m 356 #[iv p0, iv p1, iv p2, iv b0, iv b1, iv b2, iv b3, iv c0, iv c1, iv c2, iv c3, iv cx, iv 0, iv sh, iv d14, rv b19, rv b27, iv 3, iv 1, .unset] []) (fun _ k => XS.istore X33.here hx rfl (hb hby at_354) rfl (l' := #[iv p0, iv p1, iv p2, iv b0, iv b1, iv b2, iv b3, iv c0, iv c1, iv c2, iv c3, iv cx, iv 0, iv sh, iv d14, rv b19, rv b27, iv 3, iv 1, .unset]) rfl k) ?_
      refine own_to (T' := T33) (mkF m 393 #[iv p0, iv p1, iv p2, iv b0, iv b1, iv b2, iv b3, iv c0, iv c1, iv c2, iv c3, iv cx, iv 0, iv sh, iv d14, rv b19, rv b27, iv 3, iv 1, .unset] []) (fun _ k => XS.goto X33.here hx rfl (pc0 := 356) (pc' := 393) rfl (hb hby at_356) (by decide) (by decide) k) ?_
      obtain ⟨T34, h34, X34, e34, E34, A34, D34, -, st34⟩ := newO X33 hx hZ hown (hw _ (List.mem_of_getElem? (i := 30) rfl)) (hw _ (List.mem_of_getElem? (i := 31) rfl)) (hw _ (List.mem_of_getElem? (i := 32) rfl)) rfl (g := (mkF m 393 #[iv p0, iv p1, iv p2, iv b0, iv b1, iv b2, iv b3, iv c0, iv c1, iv c2, iv c3, iv cx, iv 0, iv sh, iv d14, rv b19, rv b27, iv 3, iv 1, .unset] [])) rfl (hb hby at_393) (by decide) (by decide)
      obtain ⟨b34, g34⟩ : ∃ z, z = T33.heap.size := ⟨_, rfl⟩
      rw [← g34] at A34 D34 st34
      have sz_b34 : h0.size ≤ b34 := Nat.le_trans KP.1 (Nat.le_of_eq g34.symm)
      have ge_b34 : n0 ≤ b34 := Nat.le_trans Z0 sz_b34
      have ne_b20_b34 : b20 ≠ b34 := Nat.ne_of_lt (Nat.lt_of_lt_of_le V_b20.lt (Nat.le_of_eq g34.symm))
      have ne_b19_b34 : b19 ≠ b34 := Nat.ne_of_lt (Nat.lt_of_lt_of_le S_br.lt (Nat.le_of_eq g34.symm))
      have ne_t_br_b34 : t_br ≠ b34 := Nat.ne_of_lt (Nat.lt_of_lt_of_le S_br.ltT (Nat.le_of_eq g34.symm))
      have ne_b28_b34 : b28 ≠ b34 := Nat.ne_of_lt (Nat.lt_of_lt_of_le V_b28.lt (Nat.le_of_eq g34.symm))
      have ne_b27_b34 : b27 ≠ b34 := Nat.ne_of_lt (Nat.lt_of_lt_of_le S_co.lt (Nat.le_of_eq g34.symm))
      have ne_t_co_b34 : t_co ≠ b34 := Nat.ne_of_lt (Nat.lt_of_lt_of_le S_co.ltT (Nat.le_of_eq g34.symm))
      have OL := OL.ext E34
      have KP := KP.ext E34
      have hk1 := Nat.le_trans hk1 E34.1
      have V_b20 := V_b20.ext E34
      have S_br := S_br.ext E34
      have V_b28 := V_b28.ext E34
      have S_co := S_co.ext E34
      have E_b34 : Exa Z h34 b34 "com/example/saldera/saldera/coupon/Cashier" := A34
      have F_username_b34 : Fld Z h34 b34 "com/example/saldera/saldera/coupon/Cashier" "username" "Ljava/lang/String;" .null := D34 (Or.inr (hw _ (List.mem_of_getElem? (i := 41) rfl))) (ty := (.object "java/lang/String")) (by decide)
      have F_branch_b34 : Fld Z h34 b34 "com/example/saldera/saldera/coupon/Cashier" "branch" "Ljava/lang/String;" .null := D34 (Or.inr (hw _ (List.mem_of_getElem? (i := 43) rfl))) (ty := (.object "java/lang/String")) (by decide)
      have F_crossBranch_b34 : Fld Z h34 b34 "com/example/saldera/saldera/coupon/Cashier" "crossBranch" "Z" (.int (0 : Int32)) := D34 (Or.inr (hw _ (List.mem_of_getElem? (i := 45) rfl))) (ty := .boolean) (by decide)
      refine own_to (mkF m 396 #[iv p0, iv p1, iv p2, iv b0, iv b1, iv b2, iv b3, iv c0, iv c1, iv c2, iv c3, iv cx, iv 0, iv sh, iv d14, rv b19, rv b27, iv 3, iv 1, .unset] [(.ref b34)]) st34 ?_
      refine own_to (T' := T34) (mkF m 397 #[iv p0, iv p1, iv p2, iv b0, iv b1, iv b2, iv b3, iv c0, iv c1, iv c2, iv c3, iv cx, iv 0, iv sh, iv d14, rv b19, rv b27, iv 3, iv 1, .unset] [(.ref b34), (.ref b34)]) (fun _ k => XS.dup X34.here hx rfl (hb hby at_396) rfl rfl k) ?_
      obtain ⟨aU, T35, h35, k1, X35, e35, E35, hS, hk2, hZ, hown, st35⟩ := ldcS (s := s) (vm0 := s.vm) X34 hx hZ hown (hw _ (List.mem_of_getElem? (i := 33) rfl)) hwsS e34 hS hk1 (g := (mkF m 397 #[iv p0, iv p1, iv p2, iv b0, iv b1, iv b2, iv b3, iv c0, iv c1, iv c2, iv c3, iv cx, iv 0, iv sh, iv d14, rv b19, rv b27, iv 3, iv 1, .unset] [(.ref b34), (.ref b34)])) rfl (hb hby at_397) (n := 4) (by decide) (by decide) (by decide) (by decide)
      have OL := OL.ext E35
      have KP := KP.ext E35
      have V_b20 := V_b20.ext E35
      have S_br := S_br.ext E35
      have V_b28 := V_b28.ext E35
      have S_co := S_co.ext E35
      have E_b34 := E_b34.ext E35
      have F_username_b34 := F_username_b34.ext E35
      have F_branch_b34 := F_branch_b34.ext E35
      have F_crossBranch_b34 := F_crossBranch_b34.ext E35
      have hk1 := hk2
      refine own_to (mkF m 399 #[iv p0, iv p1, iv p2, iv b0, iv b1, iv b2, iv b3, iv c0, iv c1, iv c2, iv c3, iv cx, iv 0, iv sh, iv d14, rv b19, rv b27, iv 3, iv 1, .unset] [(.ref aU), (.ref b34), (.ref b34)]) st35 ?_
      refine own_to (T' := T35) (mkF m 401 #[iv p0, iv p1, iv p2, iv b0, iv b1, iv b2, iv b3, iv c0, iv c1, iv c2, iv c3, iv cx, iv 0, iv sh, iv d14, rv b19, rv b27, iv 3, iv 1, .unset] [(.ref b19), (.ref aU), (.ref b34), (.ref b34)]) (fun _ k => XS.aload X35.here hx rfl (hb hby at_399) rfl rfl k) ?_
      refine own_to (T' := T35) (mkF m 403 #[iv p0, iv p1, iv p2, iv b0, iv b1, iv b2, iv b3, iv c0, iv c1, iv c2, iv c3, iv cx, iv 0, iv sh, iv d14, rv b19, rv b27, iv 3, iv 1, .unset] [(.int d14), (.ref b19), (.ref aU), (.ref b34), (.ref b34)]) (fun _ k => XS.iload X35.here hx rfl (hb hby at_401) rfl k) ?_
      obtain ⟨_, _, ⟨T36, L36, k36, n36⟩, -, X36, ⟨Lc36, hQ36, l36, y36, z36⟩, st36⟩ := X35.specialBack hx (y := (⟨"com/example/saldera/saldera/coupon/Cashier", "<init>", "(Ljava/lang/String;Ljava/lang/String;Z)V"⟩ : MethodName)) rfl hown (mvT hZ (hw _ (List.mem_of_getElem? (i := 36) rfl))) (mvT hZ (hw _ (List.mem_of_getElem? (i := 37) rfl))) (mvT hZ (hw _ (List.mem_of_getElem? (i := 38) rfl))) (by decide) (backOf (W := 1) (own_rmCB l Z a0 hw [] b34 aU b19 d14 h35 n0 (Nat.le_trans Z0 KP.1) OL E_b34 ge_b34 F_username_b34 F_branch_b34 F_crossBranch_b34) hZ (hw _ (List.mem_of_getElem? (i := 38) rfl)) (hw _ (List.mem_of_getElem? (i := 32) rfl)) (by decide) (by decide)) (g := (mkF m 403 #[iv p0, iv p1, iv p2, iv b0, iv b1, iv b2, iv b3, iv c0, iv c1, iv c2, iv c3, iv cx, iv 0, iv sh, iv d14, rv b19, rv b27, iv 3, iv 1, .unset] [(.int d14), (.ref b19), (.ref aU), (.ref b34), (.ref b34)])) rfl (by rw [hml]; rfl) (Steps.refl _) (a := b34) (argsL := [(.ref aU), (.ref b19), (.int d14)]) (rest := [(.ref b34)]) (lenOf own_pd2 rfl) rfl (by show 2 * 0 + _ ≤ _; exact Nat.le_of_eq rfl) (hb hby at_403) (fun _ _ => ⟨rfl, e35, (by decide : 9 + 0 ≤ _), (by decide : 33 + 0 ≤ _)⟩)
      dsimp only [Pt.U, Pt.locs, Pt.cells, Pt.slots] at X36 l36 y36 z36 st36 hQ36
      subst l36 y36 z36
      obtain ⟨rfl, N36q, K36, Ea36, Fb36, Fx36⟩ := hQ36
      have N36 := Fr.app N33 N36q
      have OL := OL.keep K36 (allS ge_b34 all0)
      have KP := KP.trans K36 (allS (Or.inr sz_b34) all0)
      have hk1 := Nat.le_trans hk1 K36.1
      have V_b20 := V_b20.keep K36 (ninS ne_b20_b34 nin0)
      have S_br := S_br.keep K36 (ninS ne_b19_b34 nin0) (ninS ne_t_br_b34 nin0)
      have V_b28 := V_b28.keep K36 (ninS ne_b28_b34 nin0)
      have S_co := S_co.keep K36 (ninS ne_b27_b34 nin0) (ninS ne_t_co_b34 nin0)
      have E_b34 := E_b34.keep K36
      refine own_via (mkF m 406 #[iv p0, iv p1, iv p2, iv b0, iv b1, iv b2, iv b3, iv c0, iv c1, iv c2, iv c3, iv cx, iv 0, iv sh, iv d14, rv b19, rv b27, iv 3, iv 1, .unset] [(.ref b34)]) st36 ?_
      have EC : Exa Z T36.heap b34 "com/example/saldera/saldera/coupon/Cashier" := Ea36
      have FB : Fld Z T36.heap b34 "com/example/saldera/saldera/coupon/Cashier" "branch" "Ljava/lang/String;" (.ref b19) := Fb36
      refine own_to (T' := T36) (mkF m 408 #[iv p0, iv p1, iv p2, iv b0, iv b1, iv b2, iv b3, iv c0, iv c1, iv c2, iv c3, iv cx, iv 0, iv sh, iv d14, rv b19, rv b27, iv 3, iv 1, rv b34] []) (fun _ k => XS.astore X36.here hx rfl (hb hby at_406) rfl rfl (l' := #[iv p0, iv p1, iv p2, iv b0, iv b1, iv b2, iv b3, iv c0, iv c1, iv c2, iv c3, iv cx, iv 0, iv sh, iv d14, rv b19, rv b27, iv 3, iv 1, rv b34]) rfl k) ?_
      refine own_to (T' := T36) (mkF m 410 #[iv p0, iv p1, iv p2, iv b0, iv b1, iv b2, iv b3, iv c0, iv c1, iv c2, iv c3, iv cx, iv 0, iv sh, iv d14, rv b19, rv b27, iv 3, iv 1, rv b34] [(.ref b34)]) (fun _ k => XS.aload X36.here hx rfl (hb hby at_408) rfl rfl k) ?_
      refine own_to (T' := T36) (mkF m 412 #[iv p0, iv p1, iv p2, iv b0, iv b1, iv b2, iv b3, iv c0, iv c1, iv c2, iv c3, iv cx, iv 0, iv sh, iv d14, rv b19, rv b27, iv 3, iv 1, rv b34] [(.ref b27), (.ref b34)]) (fun _ k => XS.aload X36.here hx rfl (hb hby at_410) rfl rfl k) ?_
      obtain ⟨cq37, kq37, q37a, q37b, q37c⟩ := isOf hZ rfl EC
      obtain ⟨_, _, ⟨T37, L37, k37, n37⟩, -, X37, ⟨Lc37, hQ37, l37, y37, z37⟩, st37⟩ := X36.virtualBack hx (y := (⟨"com/example/saldera/saldera/coupon/Cashier", "isOtherBranch", "(Ljava/lang/String;)Z"⟩ : MethodName)) (z := (⟨"com/example/saldera/saldera/coupon/Cashier", "isOtherBranch", "(Ljava/lang/String;)Z"⟩ : MethodName)) hown (mvT hZ (hw _ (List.mem_of_getElem? (i := 46) rfl))) (mvT hZ (hw _ (List.mem_of_getElem? (i := 47) rfl))) (notFace_of_selects (args := #[]) (mvT hZ (hw _ (List.mem_of_getElem? (i := 49) rfl)))) (mvT hZ (hw _ (List.mem_of_getElem? (i := 49) rfl))) (mvT hZ (hw _ (List.mem_of_getElem? (i := 48) rfl))) (by decide) (backOf (W := 0) (own_rmOB l Z a0 hw [] G1 b34 b27 t_co kb_co ([c0, c1, c2] : List Int32) b19 t_br kb_br ([b0, b1, b2, b3] : List Int32) T36.heap n0 (Nat.le_trans Z0 KP.1) OL FB S_co S_br O2 P5) hZ (hw _ (List.mem_of_getElem? (i := 50) rfl)) (hw _ (List.mem_of_getElem? (i := 32) rfl)) (by decide) (by decide)) q37a q37c (g := (mkF m 412 #[iv p0, iv p1, iv p2, iv b0, iv b1, iv b2, iv b3, iv c0, iv c1, iv c2, iv c3, iv cx, iv 0, iv sh, iv d14, rv b19, rv b27, iv 3, iv 1, rv b34] [(.ref b27), (.ref b34)])) rfl (by rw [hml]; rfl) (Steps.refl _) (argsL := [(.ref b27)]) (rest := []) (lenOf own_pd3 rfl) rfl (by show 2 * 0 + _ ≤ _; exact Nat.le_of_eq rfl) (hb hby at_412) (fun _ _ => ⟨rfl, rfl, (by decide : 9 + 0 ≤ _), (by decide : 33 + 0 ≤ _)⟩)
      dsimp only [Pt.U, Pt.locs, Pt.cells, Pt.slots] at X37 l37 y37 z37 st37 hQ37
      subst l37 y37 z37
      obtain ⟨r37, rfl, h037, h137, N37q, e37⟩ := hQ37
      have N37 := Fr.app N36 N37q
      refine own_via (mkF m 415 #[iv p0, iv p1, iv p2, iv b0, iv b1, iv b2, iv b3, iv c0, iv c1, iv c2, iv c3, iv cx, iv 0, iv sh, iv d14, rv b19, rv b27, iv 3, iv 1, rv b34] [(.int r37)]) st37 ?_
      have hr37 : r37 = (1 : Int32) := h137 (by simp)
      subst hr37
      refine own_to (T' := T37) (mkF m 417 #[iv p0, iv p1, iv p2, iv b0, iv b1, iv b2, iv b3, iv c0, iv c1, iv c2, iv c3, iv cx, iv 0, iv sh, iv d14, rv b19, rv b27, iv 3, iv 1, rv b34] [(.int (1 : Int32)), (.int (1 : Int32))]) (fun _ k => XS.iload X37.here hx rfl (hb hby at_415) rfl k) ?_
      refine own_to (T' := T37) (mkF m 420 #[iv p0, iv p1, iv p2, iv b0, iv b1, iv b2, iv b3, iv c0, iv c1, iv c2, iv c3, iv cx, iv 0, iv sh, iv d14, rv b19, rv b27, iv 3, iv 1, rv b34] []) (fun _ k => XS.icmpNo X37.here hx rfl (hb hby at_417) rfl (teq (by decide : (1 : Int32) = (1 : Int32))).2 k) ?_
      refine own_to (T' := T37) (mkF m 421 #[iv p0, iv p1, iv p2, iv b0, iv b1, iv b2, iv b3, iv c0, iv c1, iv c2, iv c3, iv cx, iv 0, iv sh, iv d14, rv b19, rv b27, iv 3, iv 1, rv b34] [(.int (1 : Int32))]) (fun _ k => XS.iconst X37.here hx rfl (hb hby at_420) k) ?_
      refine own_to (T' := T37) (mkF m 425 #[iv p0, iv p1, iv p2, iv b0, iv b1, iv b2, iv b3, iv c0, iv c1, iv c2, iv c3, iv cx, iv 0, iv sh, iv d14, rv b19, rv b27, iv 3, iv 1, rv b34] [(.int (1 : Int32))]) (fun _ k => XS.goto X37.here hx rfl (pc0 := 421) (pc' := 425) rfl (hb hby at_421) (by decide) (by decide) k) ?_
      exact own_retNW (s := s) (vm₁ := T35.vm) X37 hS (by rw [e37]; exact hk1) hx (t := .boolean) Bd.returns (by simp) hlk (hb hby at_425) (by decide) (by decide) (by rw [e37]; exact ⟨rfl, N37⟩)
    · refine own_to (T' := T26) (mkF m 252 #[iv p0, iv p1, iv p2, iv b0, iv b1, iv b2, iv b3, iv c0, iv c1, iv c2, iv c3, iv cx, iv 0, iv sh, iv d14, rv b19, .unset, .unset, .unset, .unset] []) (fun _ k => XS.icmpYes X26.here hx rfl (pc0 := 216) (pc' := 252) rfl (hb hby at_216) rfl (feq hs2).2 (by decide) (by decide) k) ?_
      refine own_to (T' := T26) (mkF m 254 #[iv p0, iv p1, iv p2, iv b0, iv b1, iv b2, iv b3, iv c0, iv c1, iv c2, iv c3, iv cx, iv 0, iv sh, iv d14, rv b19, .unset, .unset, .unset, .unset] [(.int sh)]) (fun _ k => XS.iload X26.here hx rfl (hb hby at_252) rfl k) ?_
      refine own_to (T' := T26) (mkF m 255 #[iv p0, iv p1, iv p2, iv b0, iv b1, iv b2, iv b3, iv c0, iv c1, iv c2, iv c3, iv cx, iv 0, iv sh, iv d14, rv b19, .unset, .unset, .unset, .unset] [(.int (3 : Int32)), (.int sh)]) (fun _ k => XS.iconst X26.here hx rfl (hb hby at_254) k) ?_
      by_cases hs3 : sh = (3 : Int32)
      · refine own_to (T' := T26) (mkF m 258 #[iv p0, iv p1, iv p2, iv b0, iv b1, iv b2, iv b3, iv c0, iv c1, iv c2, iv c3, iv cx, iv 0, iv sh, iv d14, rv b19, .unset, .unset, .unset, .unset] []) (fun _ k => XS.icmpNo X26.here hx rfl (hb hby at_255) rfl (teq hs3).2 k) ?_
        obtain ⟨T38, h38, X38, e38, E38, A38, D38, -, st38⟩ := newO X26 hx hZ hown (hw _ (List.mem_of_getElem? (i := 0) rfl)) (hw _ (List.mem_of_getElem? (i := 1) rfl)) (hw _ (List.mem_of_getElem? (i := 2) rfl)) rfl (g := (mkF m 258 #[iv p0, iv p1, iv p2, iv b0, iv b1, iv b2, iv b3, iv c0, iv c1, iv c2, iv c3, iv cx, iv 0, iv sh, iv d14, rv b19, .unset, .unset, .unset, .unset] [])) rfl (hb hby at_258) (by decide) (by decide)
        obtain ⟨b38, g38⟩ : ∃ z, z = T26.heap.size := ⟨_, rfl⟩
        rw [← g38] at A38 D38 st38
        have sz_b38 : h0.size ≤ b38 := Nat.le_trans KP.1 (Nat.le_of_eq g38.symm)
        have ge_b38 : n0 ≤ b38 := Nat.le_trans Z0 sz_b38
        have ne_b20_b38 : b20 ≠ b38 := Nat.ne_of_lt (Nat.lt_of_lt_of_le V_b20.lt (Nat.le_of_eq g38.symm))
        have ne_b19_b38 : b19 ≠ b38 := Nat.ne_of_lt (Nat.lt_of_lt_of_le S_br.lt (Nat.le_of_eq g38.symm))
        have ne_t_br_b38 : t_br ≠ b38 := Nat.ne_of_lt (Nat.lt_of_lt_of_le S_br.ltT (Nat.le_of_eq g38.symm))
        have OL := OL.ext E38
        have KP := KP.ext E38
        have hk1 := Nat.le_trans hk1 E38.1
        have V_b20 := V_b20.ext E38
        have S_br := S_br.ext E38
        have E_b38 : Exa Z h38 b38 "java/lang/String" := A38
        have F_coder_b38 : Fld Z h38 b38 "java/lang/String" "coder" "B" (.int (0 : Int32)) := D38 (Or.inr (hw _ (List.mem_of_getElem? (i := 27) rfl))) (ty := .byte) (by decide)
        have F_value_b38 : Fld Z h38 b38 "java/lang/String" "value" "[B" .null := D38 (Or.inr (hw _ (List.mem_of_getElem? (i := 29) rfl))) (ty := (.array .byte)) (by decide)
        refine own_to (mkF m 261 #[iv p0, iv p1, iv p2, iv b0, iv b1, iv b2, iv b3, iv c0, iv c1, iv c2, iv c3, iv cx, iv 0, iv sh, iv d14, rv b19, .unset, .unset, .unset, .unset] [(.ref b38)]) st38 ?_
        refine own_to (T' := T38) (mkF m 262 #[iv p0, iv p1, iv p2, iv b0, iv b1, iv b2, iv b3, iv c0, iv c1, iv c2, iv c3, iv cx, iv 0, iv sh, iv d14, rv b19, .unset, .unset, .unset, .unset] [(.ref b38), (.ref b38)]) (fun _ k => XS.dup X38.here hx rfl (hb hby at_261) rfl rfl k) ?_
        refine own_to (T' := T38) (mkF m 263 #[iv p0, iv p1, iv p2, iv b0, iv b1, iv b2, iv b3, iv c0, iv c1, iv c2, iv c3, iv cx, iv 0, iv sh, iv d14, rv b19, .unset, .unset, .unset, .unset] [(.int (5 : Int32)), (.ref b38), (.ref b38)]) (fun _ k => XS.iconst X38.here hx rfl (hb hby at_262) k) ?_
        obtain ⟨T39, h39, k39, X39, e39, E39, A39, B39, st39⟩ := newPE X38 hx hZ (hw _ (List.mem_of_getElem? (i := 3) rfl)) e38 (g := (mkF m 263 #[iv p0, iv p1, iv p2, iv b0, iv b1, iv b2, iv b3, iv c0, iv c1, iv c2, iv c3, iv cx, iv 0, iv sh, iv d14, rv b19, .unset, .unset, .unset, .unset] [(.int (5 : Int32)), (.ref b38), (.ref b38)])) rfl (hb hby at_263) rfl (by decide) (cap := 5) (by decide) (by decide) (by decide) (by decide) (ad := "[C") (by decide)
        obtain ⟨b39, g39⟩ : ∃ z, z = h38.size := ⟨_, rfl⟩
        rw [← g39] at A39 B39 st39
        have sz_b39 : h0.size ≤ b39 := Nat.le_trans KP.1 (Nat.le_of_eq g39.symm)
        have ge_b39 : n0 ≤ b39 := Nat.le_trans Z0 sz_b39
        have ne_b20_b39 : b20 ≠ b39 := Nat.ne_of_lt (Nat.lt_of_lt_of_le V_b20.lt (Nat.le_of_eq g39.symm))
        have ne_b19_b39 : b19 ≠ b39 := Nat.ne_of_lt (Nat.lt_of_lt_of_le S_br.lt (Nat.le_of_eq g39.symm))
        have ne_t_br_b39 : t_br ≠ b39 := Nat.ne_of_lt (Nat.lt_of_lt_of_le S_br.ltT (Nat.le_of_eq g39.symm))
        have ne_b38_b39 : b38 ≠ b39 := Nat.ne_of_lt (Nat.lt_of_lt_of_le E_b38.lt (Nat.le_of_eq g39.symm))
        have OL := OL.ext E39
        have KP := KP.ext E39
        have hk1 := Nat.le_trans hk1 E39.1
        have V_b20 := V_b20.ext E39
        have S_br := S_br.ext E39
        have E_b38 := E_b38.ext E39
        have F_coder_b38 := F_coder_b38.ext E39
        have F_value_b38 := F_value_b38.ext E39
        have V_b39 : Arv Z h39 b39 k39 .char (5 : Int32) [(.int (0 : Int32)), (.int (0 : Int32)), (.int (0 : Int32)), (.int (0 : Int32)), (.int (0 : Int32))] (.int (0 : Int32)) := (Arv.new A39 (by decide)).pad (pad_rep [] (.int (0 : Int32)) 5)
        refine own_to (mkF m 265 #[iv p0, iv p1, iv p2, iv b0, iv b1, iv b2, iv b3, iv c0, iv c1, iv c2, iv c3, iv cx, iv 0, iv sh, iv d14, rv b19, .unset, .unset, .unset, .unset] [(.ref b39), (.ref b38), (.ref b38)]) st39 ?_
        refine own_to (T' := T39) (mkF m 266 #[iv p0, iv p1, iv p2, iv b0, iv b1, iv b2, iv b3, iv c0, iv c1, iv c2, iv c3, iv cx, iv 0, iv sh, iv d14, rv b19, .unset, .unset, .unset, .unset] [(.ref b39), (.ref b39), (.ref b38), (.ref b38)]) (fun _ k => XS.dup X39.here hx rfl (hb hby at_265) rfl rfl k) ?_
        refine own_to (T' := T39) (mkF m 267 #[iv p0, iv p1, iv p2, iv b0, iv b1, iv b2, iv b3, iv c0, iv c1, iv c2, iv c3, iv cx, iv 0, iv sh, iv d14, rv b19, .unset, .unset, .unset, .unset] [(.int (0 : Int32)), (.ref b39), (.ref b39), (.ref b38), (.ref b38)]) (fun _ k => XS.iconst X39.here hx rfl (hb hby at_266) k) ?_
        refine own_to (T' := T39) (mkF m 269 #[iv p0, iv p1, iv p2, iv b0, iv b1, iv b2, iv b3, iv c0, iv c1, iv c2, iv c3, iv cx, iv 0, iv sh, iv d14, rv b19, .unset, .unset, .unset, .unset] [(.int c0), (.int (0 : Int32)), (.ref b39), (.ref b39), (.ref b38), (.ref b38)]) (fun _ k => XS.iload X39.here hx rfl (hb hby at_267) rfl k) ?_
        obtain ⟨cl40, Ar40, q40, S40, M40, H40, G40⟩ := id V_b39
        obtain ⟨T40, h40, X40, e40, W40, st40⟩ := stC X39 hx hZ e39 Ar40 (j := (0 : Int32)) (inb_of S40 ⟨by decide, by decide⟩) (g := (mkF m 269 #[iv p0, iv p1, iv p2, iv b0, iv b1, iv b2, iv b3, iv c0, iv c1, iv c2, iv c3, iv cx, iv 0, iv sh, iv d14, rv b19, .unset, .unset, .unset, .unset] [(.int c0), (.int (0 : Int32)), (.ref b39), (.ref b39), (.ref b38), (.ref b38)])) rfl rfl (hb hby at_269)
        refine own_to (mkF m 270 #[iv p0, iv p1, iv p2, iv b0, iv b1, iv b2, iv b3, iv c0, iv c1, iv c2, iv c3, iv cx, iv 0, iv sh, iv d14, rv b19, .unset, .unset, .unset, .unset] [(.ref b39), (.ref b38), (.ref b38)]) st40 ?_
        have N40 := Fr.snoc X40 N26 ge_b39
        have tmp40 : Arv Z h40 b39 k39 .char (5 : Int32) [(.int (nar .char c0)), (.int (0 : Int32)), (.int (0 : Int32)), (.int (0 : Int32)), (.int (0 : Int32))] (.int (0 : Int32)) := Arv.set Ar40 q40 S40 M40 H40 G40 (fits_nar_char _) W40 0 rfl (Nat.le_of_ble_eq_true rfl)
        rw [own_nar8 c8_c0] at tmp40
        have OL := OL.wr W40 ge_b39
        have KP := KP.wr W40 (Or.inr sz_b39)
        have hk1 := Nat.le_trans hk1 (Keep.of_wr W40).1
        have V_b20 := V_b20.other W40 ne_b20_b39
        have S_br := S_br.wr W40 ne_b19_b39 ne_t_br_b39
        have E_b38 := E_b38.wr W40
        have F_coder_b38 := F_coder_b38.other W40 (Or.inl ne_b38_b39)
        have F_value_b38 := F_value_b38.other W40 (Or.inl ne_b38_b39)
        have V_b39 := tmp40
        refine own_to (T' := T40) (mkF m 271 #[iv p0, iv p1, iv p2, iv b0, iv b1, iv b2, iv b3, iv c0, iv c1, iv c2, iv c3, iv cx, iv 0, iv sh, iv d14, rv b19, .unset, .unset, .unset, .unset] [(.ref b39), (.ref b39), (.ref b38), (.ref b38)]) (fun _ k => XS.dup X40.here hx rfl (hb hby at_270) rfl rfl k) ?_
        refine own_to (T' := T40) (mkF m 272 #[iv p0, iv p1, iv p2, iv b0, iv b1, iv b2, iv b3, iv c0, iv c1, iv c2, iv c3, iv cx, iv 0, iv sh, iv d14, rv b19, .unset, .unset, .unset, .unset] [(.int (1 : Int32)), (.ref b39), (.ref b39), (.ref b38), (.ref b38)]) (fun _ k => XS.iconst X40.here hx rfl (hb hby at_271) k) ?_
        refine own_to (T' := T40) (mkF m 274 #[iv p0, iv p1, iv p2, iv b0, iv b1, iv b2, iv b3, iv c0, iv c1, iv c2, iv c3, iv cx, iv 0, iv sh, iv d14, rv b19, .unset, .unset, .unset, .unset] [(.int c1), (.int (1 : Int32)), (.ref b39), (.ref b39), (.ref b38), (.ref b38)]) (fun _ k => XS.iload X40.here hx rfl (hb hby at_272) rfl k) ?_
        obtain ⟨cl41, Ar41, q41, S41, M41, H41, G41⟩ := id V_b39
        obtain ⟨T41, h41, X41, e41, W41, st41⟩ := stC X40 hx hZ e40 Ar41 (j := (1 : Int32)) (inb_of S41 ⟨by decide, by decide⟩) (g := (mkF m 274 #[iv p0, iv p1, iv p2, iv b0, iv b1, iv b2, iv b3, iv c0, iv c1, iv c2, iv c3, iv cx, iv 0, iv sh, iv d14, rv b19, .unset, .unset, .unset, .unset] [(.int c1), (.int (1 : Int32)), (.ref b39), (.ref b39), (.ref b38), (.ref b38)])) rfl rfl (hb hby at_274)
        refine own_to (mkF m 275 #[iv p0, iv p1, iv p2, iv b0, iv b1, iv b2, iv b3, iv c0, iv c1, iv c2, iv c3, iv cx, iv 0, iv sh, iv d14, rv b19, .unset, .unset, .unset, .unset] [(.ref b39), (.ref b38), (.ref b38)]) st41 ?_
        have N41 := Fr.snoc X41 N40 ge_b39
        have tmp41 : Arv Z h41 b39 k39 .char (5 : Int32) [(.int c0), (.int (nar .char c1)), (.int (0 : Int32)), (.int (0 : Int32)), (.int (0 : Int32))] (.int (0 : Int32)) := Arv.set Ar41 q41 S41 M41 H41 G41 (fits_nar_char _) W41 1 rfl (Nat.le_of_ble_eq_true rfl)
        rw [own_nar8 c8_c1] at tmp41
        have OL := OL.wr W41 ge_b39
        have KP := KP.wr W41 (Or.inr sz_b39)
        have hk1 := Nat.le_trans hk1 (Keep.of_wr W41).1
        have V_b20 := V_b20.other W41 ne_b20_b39
        have S_br := S_br.wr W41 ne_b19_b39 ne_t_br_b39
        have E_b38 := E_b38.wr W41
        have F_coder_b38 := F_coder_b38.other W41 (Or.inl ne_b38_b39)
        have F_value_b38 := F_value_b38.other W41 (Or.inl ne_b38_b39)
        have V_b39 := tmp41
        refine own_to (T' := T41) (mkF m 276 #[iv p0, iv p1, iv p2, iv b0, iv b1, iv b2, iv b3, iv c0, iv c1, iv c2, iv c3, iv cx, iv 0, iv sh, iv d14, rv b19, .unset, .unset, .unset, .unset] [(.ref b39), (.ref b39), (.ref b38), (.ref b38)]) (fun _ k => XS.dup X41.here hx rfl (hb hby at_275) rfl rfl k) ?_
        refine own_to (T' := T41) (mkF m 277 #[iv p0, iv p1, iv p2, iv b0, iv b1, iv b2, iv b3, iv c0, iv c1, iv c2, iv c3, iv cx, iv 0, iv sh, iv d14, rv b19, .unset, .unset, .unset, .unset] [(.int (2 : Int32)), (.ref b39), (.ref b39), (.ref b38), (.ref b38)]) (fun _ k => XS.iconst X41.here hx rfl (hb hby at_276) k) ?_
        refine own_to (T' := T41) (mkF m 279 #[iv p0, iv p1, iv p2, iv b0, iv b1, iv b2, iv b3, iv c0, iv c1, iv c2, iv c3, iv cx, iv 0, iv sh, iv d14, rv b19, .unset, .unset, .unset, .unset] [(.int c2), (.int (2 : Int32)), (.ref b39), (.ref b39), (.ref b38), (.ref b38)]) (fun _ k => XS.iload X41.here hx rfl (hb hby at_277) rfl k) ?_
        obtain ⟨cl42, Ar42, q42, S42, M42, H42, G42⟩ := id V_b39
        obtain ⟨T42, h42, X42, e42, W42, st42⟩ := stC X41 hx hZ e41 Ar42 (j := (2 : Int32)) (inb_of S42 ⟨by decide, by decide⟩) (g := (mkF m 279 #[iv p0, iv p1, iv p2, iv b0, iv b1, iv b2, iv b3, iv c0, iv c1, iv c2, iv c3, iv cx, iv 0, iv sh, iv d14, rv b19, .unset, .unset, .unset, .unset] [(.int c2), (.int (2 : Int32)), (.ref b39), (.ref b39), (.ref b38), (.ref b38)])) rfl rfl (hb hby at_279)
        refine own_to (mkF m 280 #[iv p0, iv p1, iv p2, iv b0, iv b1, iv b2, iv b3, iv c0, iv c1, iv c2, iv c3, iv cx, iv 0, iv sh, iv d14, rv b19, .unset, .unset, .unset, .unset] [(.ref b39), (.ref b38), (.ref b38)]) st42 ?_
        have N42 := Fr.snoc X42 N41 ge_b39
        have tmp42 : Arv Z h42 b39 k39 .char (5 : Int32) [(.int c0), (.int c1), (.int (nar .char c2)), (.int (0 : Int32)), (.int (0 : Int32))] (.int (0 : Int32)) := Arv.set Ar42 q42 S42 M42 H42 G42 (fits_nar_char _) W42 2 rfl (Nat.le_of_ble_eq_true rfl)
        rw [own_nar8 c8_c2] at tmp42
        have OL := OL.wr W42 ge_b39
        have KP := KP.wr W42 (Or.inr sz_b39)
        have hk1 := Nat.le_trans hk1 (Keep.of_wr W42).1
        have V_b20 := V_b20.other W42 ne_b20_b39
        have S_br := S_br.wr W42 ne_b19_b39 ne_t_br_b39
        have E_b38 := E_b38.wr W42
        have F_coder_b38 := F_coder_b38.other W42 (Or.inl ne_b38_b39)
        have F_value_b38 := F_value_b38.other W42 (Or.inl ne_b38_b39)
        have V_b39 := tmp42
        refine own_to (T' := T42) (mkF m 281 #[iv p0, iv p1, iv p2, iv b0, iv b1, iv b2, iv b3, iv c0, iv c1, iv c2, iv c3, iv cx, iv 0, iv sh, iv d14, rv b19, .unset, .unset, .unset, .unset] [(.ref b39), (.ref b39), (.ref b38), (.ref b38)]) (fun _ k => XS.dup X42.here hx rfl (hb hby at_280) rfl rfl k) ?_
        refine own_to (T' := T42) (mkF m 282 #[iv p0, iv p1, iv p2, iv b0, iv b1, iv b2, iv b3, iv c0, iv c1, iv c2, iv c3, iv cx, iv 0, iv sh, iv d14, rv b19, .unset, .unset, .unset, .unset] [(.int (3 : Int32)), (.ref b39), (.ref b39), (.ref b38), (.ref b38)]) (fun _ k => XS.iconst X42.here hx rfl (hb hby at_281) k) ?_
        refine own_to (T' := T42) (mkF m 284 #[iv p0, iv p1, iv p2, iv b0, iv b1, iv b2, iv b3, iv c0, iv c1, iv c2, iv c3, iv cx, iv 0, iv sh, iv d14, rv b19, .unset, .unset, .unset, .unset] [(.int c3), (.int (3 : Int32)), (.ref b39), (.ref b39), (.ref b38), (.ref b38)]) (fun _ k => XS.iload X42.here hx rfl (hb hby at_282) rfl k) ?_
        obtain ⟨cl43, Ar43, q43, S43, M43, H43, G43⟩ := id V_b39
        obtain ⟨T43, h43, X43, e43, W43, st43⟩ := stC X42 hx hZ e42 Ar43 (j := (3 : Int32)) (inb_of S43 ⟨by decide, by decide⟩) (g := (mkF m 284 #[iv p0, iv p1, iv p2, iv b0, iv b1, iv b2, iv b3, iv c0, iv c1, iv c2, iv c3, iv cx, iv 0, iv sh, iv d14, rv b19, .unset, .unset, .unset, .unset] [(.int c3), (.int (3 : Int32)), (.ref b39), (.ref b39), (.ref b38), (.ref b38)])) rfl rfl (hb hby at_284)
        refine own_to (mkF m 285 #[iv p0, iv p1, iv p2, iv b0, iv b1, iv b2, iv b3, iv c0, iv c1, iv c2, iv c3, iv cx, iv 0, iv sh, iv d14, rv b19, .unset, .unset, .unset, .unset] [(.ref b39), (.ref b38), (.ref b38)]) st43 ?_
        have N43 := Fr.snoc X43 N42 ge_b39
        have tmp43 : Arv Z h43 b39 k39 .char (5 : Int32) [(.int c0), (.int c1), (.int c2), (.int (nar .char c3)), (.int (0 : Int32))] (.int (0 : Int32)) := Arv.set Ar43 q43 S43 M43 H43 G43 (fits_nar_char _) W43 3 rfl (Nat.le_of_ble_eq_true rfl)
        rw [own_nar8 c8_c3] at tmp43
        have OL := OL.wr W43 ge_b39
        have KP := KP.wr W43 (Or.inr sz_b39)
        have hk1 := Nat.le_trans hk1 (Keep.of_wr W43).1
        have V_b20 := V_b20.other W43 ne_b20_b39
        have S_br := S_br.wr W43 ne_b19_b39 ne_t_br_b39
        have E_b38 := E_b38.wr W43
        have F_coder_b38 := F_coder_b38.other W43 (Or.inl ne_b38_b39)
        have F_value_b38 := F_value_b38.other W43 (Or.inl ne_b38_b39)
        have V_b39 := tmp43
        refine own_to (T' := T43) (mkF m 286 #[iv p0, iv p1, iv p2, iv b0, iv b1, iv b2, iv b3, iv c0, iv c1, iv c2, iv c3, iv cx, iv 0, iv sh, iv d14, rv b19, .unset, .unset, .unset, .unset] [(.ref b39), (.ref b39), (.ref b38), (.ref b38)]) (fun _ k => XS.dup X43.here hx rfl (hb hby at_285) rfl rfl k) ?_
        refine own_to (T' := T43) (mkF m 287 #[iv p0, iv p1, iv p2, iv b0, iv b1, iv b2, iv b3, iv c0, iv c1, iv c2, iv c3, iv cx, iv 0, iv sh, iv d14, rv b19, .unset, .unset, .unset, .unset] [(.int (4 : Int32)), (.ref b39), (.ref b39), (.ref b38), (.ref b38)]) (fun _ k => XS.iconst X43.here hx rfl (hb hby at_286) k) ?_
        refine own_to (T' := T43) (mkF m 289 #[iv p0, iv p1, iv p2, iv b0, iv b1, iv b2, iv b3, iv c0, iv c1, iv c2, iv c3, iv cx, iv 0, iv sh, iv d14, rv b19, .unset, .unset, .unset, .unset] [(.int cx), (.int (4 : Int32)), (.ref b39), (.ref b39), (.ref b38), (.ref b38)]) (fun _ k => XS.iload X43.here hx rfl (hb hby at_287) rfl k) ?_
        obtain ⟨cl44, Ar44, q44, S44, M44, H44, G44⟩ := id V_b39
        obtain ⟨T44, h44, X44, e44, W44, st44⟩ := stC X43 hx hZ e43 Ar44 (j := (4 : Int32)) (inb_of S44 ⟨by decide, by decide⟩) (g := (mkF m 289 #[iv p0, iv p1, iv p2, iv b0, iv b1, iv b2, iv b3, iv c0, iv c1, iv c2, iv c3, iv cx, iv 0, iv sh, iv d14, rv b19, .unset, .unset, .unset, .unset] [(.int cx), (.int (4 : Int32)), (.ref b39), (.ref b39), (.ref b38), (.ref b38)])) rfl rfl (hb hby at_289)
        refine own_to (mkF m 290 #[iv p0, iv p1, iv p2, iv b0, iv b1, iv b2, iv b3, iv c0, iv c1, iv c2, iv c3, iv cx, iv 0, iv sh, iv d14, rv b19, .unset, .unset, .unset, .unset] [(.ref b39), (.ref b38), (.ref b38)]) st44 ?_
        have N44 := Fr.snoc X44 N43 ge_b39
        have tmp44 : Arv Z h44 b39 k39 .char (5 : Int32) [(.int c0), (.int c1), (.int c2), (.int c3), (.int (nar .char cx))] (.int (0 : Int32)) := Arv.set Ar44 q44 S44 M44 H44 G44 (fits_nar_char _) W44 4 rfl (Nat.le_of_ble_eq_true rfl)
        rw [own_nar8 c8_cx] at tmp44
        have OL := OL.wr W44 ge_b39
        have KP := KP.wr W44 (Or.inr sz_b39)
        have hk1 := Nat.le_trans hk1 (Keep.of_wr W44).1
        have V_b20 := V_b20.other W44 ne_b20_b39
        have S_br := S_br.wr W44 ne_b19_b39 ne_t_br_b39
        have E_b38 := E_b38.wr W44
        have F_coder_b38 := F_coder_b38.other W44 (Or.inl ne_b38_b39)
        have F_value_b38 := F_value_b38.other W44 (Or.inl ne_b38_b39)
        have V_b39 := tmp44
        have hp45 : ∀ c ∈ ([c0, c1, c2, c3, cx] : List Int32), ¬ c < 0 ∧ ¬ (255 : Int32) < c := (own_allS c8_c0 (own_allS c8_c1 (own_allS c8_c2 (own_allS c8_c3 (own_allS c8_cx own_all0)))))
        have KP0 := KP
        have lt0_b20 := V_b20.lt
        have lt0_b19 := S_br.lt
        have lt0_t_br := S_br.ltT
        have lt0_b38 := E_b38.lt
        have lt0_b39 := V_b39.lt
        obtain ⟨_, _, ⟨T46, L46, k46, n46⟩, -, X46, ⟨Lc46, hQ46, l46, y46, z46⟩, st46⟩ := X44.specialBack hx (y := (⟨"java/lang/String", "<init>", "([C)V"⟩ : MethodName)) rfl hown (mvT hZ (hw _ (List.mem_of_getElem? (i := 4) rfl))) (mvT hZ (hw _ (List.mem_of_getElem? (i := 5) rfl))) (mvT hZ (hw _ (List.mem_of_getElem? (i := 6) rfl))) (by decide) (StrChars.Road.backV (W := 1) hZ hwsV (kI := 4) (hw _ (List.mem_of_getElem? (i := 1) rfl)) (cs := ([c0, c1, c2, c3, cx] : List Int32)) (bs := (([c0, c1, c2, c3, cx] : List Int32)).map (fun c => c.toInt8.toInt32)) (n := 5) ge_b38 (Nat.le_trans Z0 KP.1) E_b38 F_value_b38 F_coder_b38 V_b39 (O2.ext OL.2) P5 rfl rfl (by decide) (by decide) hp45 rfl (by decide) (by decide)) (g := (mkF m 290 #[iv p0, iv p1, iv p2, iv b0, iv b1, iv b2, iv b3, iv c0, iv c1, iv c2, iv c3, iv cx, iv 0, iv sh, iv d14, rv b19, .unset, .unset, .unset, .unset] [(.ref b39), (.ref b38), (.ref b38)])) rfl (by rw [hml]; rfl) (Steps.refl _) (a := b38) (argsL := [(.ref b39)]) (rest := [(.ref b38)]) (lenOf own_pd1 rfl) rfl (by show 2 * 0 + _ ≤ _; exact Nat.le_of_eq rfl) (hb hby at_290) (fun _ _ => ⟨rfl, e44, (by decide : 5 + 1 ≤ _), (by decide : 21 + 5 ≤ _)⟩)
        dsimp only [Pt.U, Pt.locs, Pt.cells, Pt.slots] at X46 l46 y46 z46 st46 hQ46
        subst l46 y46 z46
        obtain ⟨rfl, N46q, K46, Ex46, Cx46, t_co, kb_co, ge_t_co, sz0_t_co, ne_t_co_b38, Vx46, Kx46⟩ := hQ46
        have N46 := Fr.app N44 N46q
        have OL := OL.keep K46 (allS ge_b38 all0)
        have KP := KP.trans K46 (allS (Or.inr sz_b38) all0)
        have hk1 := Nat.le_trans hk1 K46.1
        have V_b20 := V_b20.keep K46 (ninS ne_b20_b38 nin0)
        have S_br := S_br.keep K46 (ninS ne_b19_b38 nin0) (ninS ne_t_br_b38 nin0)
        have E_b38 := E_b38.keep K46
        have V_b39 := V_b39.keep K46 (ninS (Ne.symm ne_b38_b39) nin0)
        refine own_via (mkF m 293 #[iv p0, iv p1, iv p2, iv b0, iv b1, iv b2, iv b3, iv c0, iv c1, iv c2, iv c3, iv cx, iv 0, iv sh, iv d14, rv b19, .unset, .unset, .unset, .unset] [(.ref b38)]) st46 ?_
        have sz_t_co : h0.size ≤ t_co := Nat.le_trans KP0.1 sz0_t_co
        have ne_b20_t_co : b20 ≠ t_co := Nat.ne_of_lt (Nat.lt_of_lt_of_le lt0_b20 sz0_t_co)
        have ne_b19_t_co : b19 ≠ t_co := Nat.ne_of_lt (Nat.lt_of_lt_of_le lt0_b19 sz0_t_co)
        have ne_t_br_t_co : t_br ≠ t_co := Nat.ne_of_lt (Nat.lt_of_lt_of_le lt0_t_br sz0_t_co)
        have ne_b39_t_co : b39 ≠ t_co := Nat.ne_of_lt (Nat.lt_of_lt_of_le lt0_b39 sz0_t_co)
        have S_co : own_Str Z T46.heap b38 t_co kb_co ([c0, c1, c2, c3, cx] : List Int32) := ⟨Ex46, Vx46, Cx46, Kx46, hp45, Nat.le_of_ble_eq_true rfl⟩
        refine own_to (T' := T46) (mkF m 295 #[iv p0, iv p1, iv p2, iv b0, iv b1, iv b2, iv b3, iv c0, iv c1, iv c2, iv c3, iv cx, iv 0, iv sh, iv d14, rv b19, rv b38, .unset, .unset, .unset] []) (fun _ k => XS.astore X46.here hx rfl (hb hby at_293) rfl rfl (l' := #[iv p0, iv p1, iv p2, iv b0, iv b1, iv b2, iv b3, iv c0, iv c1, iv c2, iv c3, iv cx, iv 0, iv sh, iv d14, rv b19, rv b38, .unset, .unset, .unset]) rfl k) ?_
        refine own_to (T' := T46) (mkF m 296 #[iv p0, iv p1, iv p2, iv b0, iv b1, iv b2, iv b3, iv c0, iv c1, iv c2, iv c3, iv cx, iv 0, iv sh, iv d14, rv b19, rv b38, .unset, .unset, .unset] [(.int (5 : Int32))]) (fun _ k => XS.iconst X46.here hx rfl (hb hby at_295) k) ?_
        refine own_to (T' := T46) (mkF m 298 #[iv p0, iv p1, iv p2, iv b0, iv b1, iv b2, iv b3, iv c0, iv c1, iv c2, iv c3, iv cx, iv 0, iv sh, iv d14, rv b19, rv b38, iv 5, .unset, .unset] []) (fun _ k => XS.istore X46.here hx rfl (hb hby at_296) rfl (l' := #[iv p0, iv p1, iv p2, iv b0, iv b1, iv b2, iv b3, iv c0, iv c1, iv c2, iv c3, iv cx, iv 0, iv sh, iv d14, rv b19, rv b38, iv 5, .unset, .unset]) rfl k) ?_
        refine own_to (T' := T46) (mkF m 336 #[iv p0, iv p1, iv p2, iv b0, iv b1, iv b2, iv b3, iv c0, iv c1, iv c2, iv c3, iv cx, iv 0, iv sh, iv d14, rv b19, rv b38, iv 5, .unset, .unset] []) (fun _ k => XS.goto X46.here hx rfl (pc0 := 298) (pc' := 336) rfl (hb hby at_298) (by decide) (by decide) k) ?_
        refine own_to (T' := T46) (mkF m 338 #[iv p0, iv p1, iv p2, iv b0, iv b1, iv b2, iv b3, iv c0, iv c1, iv c2, iv c3, iv cx, iv 0, iv sh, iv d14, rv b19, rv b38, iv 5, .unset, .unset] [(.int (0 : Int32))]) (fun _ k => XS.iload X46.here hx rfl (hb hby at_336) rfl k) ?_
        refine own_to (T' := T46) (mkF m 347 #[iv p0, iv p1, iv p2, iv b0, iv b1, iv b2, iv b3, iv c0, iv c1, iv c2, iv c3, iv cx, iv 0, iv sh, iv d14, rv b19, rv b38, iv 5, .unset, .unset] []) (fun _ k => XS.ifYes X46.here hx rfl (pc0 := 338) (pc' := 347) rfl (hb hby at_338) rfl ((if0 _ _).trans (teq (by decide : (0 : Int32) = (0 : Int32))).1) (by decide) (by decide) k) ?_
        refine own_to (T' := T46) (mkF m 349 #[iv p0, iv p1, iv p2, iv b0, iv b1, iv b2, iv b3, iv c0, iv c1, iv c2, iv c3, iv cx, iv 0, iv sh, iv d14, rv b19, rv b38, iv 5, .unset, .unset] [(.int (5 : Int32))]) (fun _ k => XS.iload X46.here hx rfl (hb hby at_347) rfl k) ?_
        refine own_to (T' := T46) (mkF m 350 #[iv p0, iv p1, iv p2, iv b0, iv b1, iv b2, iv b3, iv c0, iv c1, iv c2, iv c3, iv cx, iv 0, iv sh, iv d14, rv b19, rv b38, iv 5, .unset, .unset] [(.int (4 : Int32)), (.int (5 : Int32))]) (fun _ k => XS.iconst X46.here hx rfl (hb hby at_349) k) ?_
        refine own_to (T' := T46) (mkF m 353 #[iv p0, iv p1, iv p2, iv b0, iv b1, iv b2, iv b3, iv c0, iv c1, iv c2, iv c3, iv cx, iv 0, iv sh, iv d14, rv b19, rv b38, iv 5, .unset, .unset] []) (fun _ k => XS.icmpNo X46.here hx rfl (hb hby at_350) rfl (feq (by decide : ¬ ((5 : Int32) = (4 : Int32)))).1 k) ?_
        refine own_to (T' := T46) (mkF m 354 #[iv p0, iv p1, iv p2, iv b0, iv b1, iv b2, iv b3, iv c0, iv c1, iv c2, iv c3, iv cx, iv 0, iv sh, iv d14, rv b19, rv b38, iv 5, .unset, .unset] [(.int (1 : Int32))]) (fun _ k => XS.iconst X46.here hx rfl (hb hby at_353) k) ?_
        refine own_to (T' := T46) (mkF m 356 #[iv p0, iv p1, iv p2, iv b0, iv b1, iv b2, iv b3, iv c0, iv c1, iv c2, iv c3, iv cx, iv 0, iv sh, iv d14, rv b19, rv b38, iv 5, iv 1, .unset] []) (fun _ k => XS.istore X46.here hx rfl (hb hby at_354) rfl (l' := #[iv p0, iv p1, iv p2, iv b0, iv b1, iv b2, iv b3, iv c0, iv c1, iv c2, iv c3, iv cx, iv 0, iv sh, iv d14, rv b19, rv b38, iv 5, iv 1, .unset]) rfl k) ?_
        refine own_to (T' := T46) (mkF m 393 #[iv p0, iv p1, iv p2, iv b0, iv b1, iv b2, iv b3, iv c0, iv c1, iv c2, iv c3, iv cx, iv 0, iv sh, iv d14, rv b19, rv b38, iv 5, iv 1, .unset] []) (fun _ k => XS.goto X46.here hx rfl (pc0 := 356) (pc' := 393) rfl (hb hby at_356) (by decide) (by decide) k) ?_
        obtain ⟨T47, h47, X47, e47, E47, A47, D47, -, st47⟩ := newO X46 hx hZ hown (hw _ (List.mem_of_getElem? (i := 30) rfl)) (hw _ (List.mem_of_getElem? (i := 31) rfl)) (hw _ (List.mem_of_getElem? (i := 32) rfl)) rfl (g := (mkF m 393 #[iv p0, iv p1, iv p2, iv b0, iv b1, iv b2, iv b3, iv c0, iv c1, iv c2, iv c3, iv cx, iv 0, iv sh, iv d14, rv b19, rv b38, iv 5, iv 1, .unset] [])) rfl (hb hby at_393) (by decide) (by decide)
        obtain ⟨b47, g47⟩ : ∃ z, z = T46.heap.size := ⟨_, rfl⟩
        rw [← g47] at A47 D47 st47
        have sz_b47 : h0.size ≤ b47 := Nat.le_trans KP.1 (Nat.le_of_eq g47.symm)
        have ge_b47 : n0 ≤ b47 := Nat.le_trans Z0 sz_b47
        have ne_b20_b47 : b20 ≠ b47 := Nat.ne_of_lt (Nat.lt_of_lt_of_le V_b20.lt (Nat.le_of_eq g47.symm))
        have ne_b19_b47 : b19 ≠ b47 := Nat.ne_of_lt (Nat.lt_of_lt_of_le S_br.lt (Nat.le_of_eq g47.symm))
        have ne_t_br_b47 : t_br ≠ b47 := Nat.ne_of_lt (Nat.lt_of_lt_of_le S_br.ltT (Nat.le_of_eq g47.symm))
        have ne_b39_b47 : b39 ≠ b47 := Nat.ne_of_lt (Nat.lt_of_lt_of_le V_b39.lt (Nat.le_of_eq g47.symm))
        have ne_b38_b47 : b38 ≠ b47 := Nat.ne_of_lt (Nat.lt_of_lt_of_le S_co.lt (Nat.le_of_eq g47.symm))
        have ne_t_co_b47 : t_co ≠ b47 := Nat.ne_of_lt (Nat.lt_of_lt_of_le S_co.ltT (Nat.le_of_eq g47.symm))
        have OL := OL.ext E47
        have KP := KP.ext E47
        have hk1 := Nat.le_trans hk1 E47.1
        have V_b20 := V_b20.ext E47
        have S_br := S_br.ext E47
        have V_b39 := V_b39.ext E47
        have S_co := S_co.ext E47
        have E_b47 : Exa Z h47 b47 "com/example/saldera/saldera/coupon/Cashier" := A47
        have F_username_b47 : Fld Z h47 b47 "com/example/saldera/saldera/coupon/Cashier" "username" "Ljava/lang/String;" .null := D47 (Or.inr (hw _ (List.mem_of_getElem? (i := 41) rfl))) (ty := (.object "java/lang/String")) (by decide)
        have F_branch_b47 : Fld Z h47 b47 "com/example/saldera/saldera/coupon/Cashier" "branch" "Ljava/lang/String;" .null := D47 (Or.inr (hw _ (List.mem_of_getElem? (i := 43) rfl))) (ty := (.object "java/lang/String")) (by decide)
        have F_crossBranch_b47 : Fld Z h47 b47 "com/example/saldera/saldera/coupon/Cashier" "crossBranch" "Z" (.int (0 : Int32)) := D47 (Or.inr (hw _ (List.mem_of_getElem? (i := 45) rfl))) (ty := .boolean) (by decide)
        refine own_to (mkF m 396 #[iv p0, iv p1, iv p2, iv b0, iv b1, iv b2, iv b3, iv c0, iv c1, iv c2, iv c3, iv cx, iv 0, iv sh, iv d14, rv b19, rv b38, iv 5, iv 1, .unset] [(.ref b47)]) st47 ?_
        refine own_to (T' := T47) (mkF m 397 #[iv p0, iv p1, iv p2, iv b0, iv b1, iv b2, iv b3, iv c0, iv c1, iv c2, iv c3, iv cx, iv 0, iv sh, iv d14, rv b19, rv b38, iv 5, iv 1, .unset] [(.ref b47), (.ref b47)]) (fun _ k => XS.dup X47.here hx rfl (hb hby at_396) rfl rfl k) ?_
        obtain ⟨aU, T48, h48, k1, X48, e48, E48, hS, hk2, hZ, hown, st48⟩ := ldcS (s := s) (vm0 := s.vm) X47 hx hZ hown (hw _ (List.mem_of_getElem? (i := 33) rfl)) hwsS e47 hS hk1 (g := (mkF m 397 #[iv p0, iv p1, iv p2, iv b0, iv b1, iv b2, iv b3, iv c0, iv c1, iv c2, iv c3, iv cx, iv 0, iv sh, iv d14, rv b19, rv b38, iv 5, iv 1, .unset] [(.ref b47), (.ref b47)])) rfl (hb hby at_397) (n := 4) (by decide) (by decide) (by decide) (by decide)
        have OL := OL.ext E48
        have KP := KP.ext E48
        have V_b20 := V_b20.ext E48
        have S_br := S_br.ext E48
        have V_b39 := V_b39.ext E48
        have S_co := S_co.ext E48
        have E_b47 := E_b47.ext E48
        have F_username_b47 := F_username_b47.ext E48
        have F_branch_b47 := F_branch_b47.ext E48
        have F_crossBranch_b47 := F_crossBranch_b47.ext E48
        have hk1 := hk2
        refine own_to (mkF m 399 #[iv p0, iv p1, iv p2, iv b0, iv b1, iv b2, iv b3, iv c0, iv c1, iv c2, iv c3, iv cx, iv 0, iv sh, iv d14, rv b19, rv b38, iv 5, iv 1, .unset] [(.ref aU), (.ref b47), (.ref b47)]) st48 ?_
        refine own_to (T' := T48) (mkF m 401 #[iv p0, iv p1, iv p2, iv b0, iv b1, iv b2, iv b3, iv c0, iv c1, iv c2, iv c3, iv cx, iv 0, iv sh, iv d14, rv b19, rv b38, iv 5, iv 1, .unset] [(.ref b19), (.ref aU), (.ref b47), (.ref b47)]) (fun _ k => XS.aload X48.here hx rfl (hb hby at_399) rfl rfl k) ?_
        refine own_to (T' := T48) (mkF m 403 #[iv p0, iv p1, iv p2, iv b0, iv b1, iv b2, iv b3, iv c0, iv c1, iv c2, iv c3, iv cx, iv 0, iv sh, iv d14, rv b19, rv b38, iv 5, iv 1, .unset] [(.int d14), (.ref b19), (.ref aU), (.ref b47), (.ref b47)]) (fun _ k => XS.iload X48.here hx rfl (hb hby at_401) rfl k) ?_
        obtain ⟨_, _, ⟨T49, L49, k49, n49⟩, -, X49, ⟨Lc49, hQ49, l49, y49, z49⟩, st49⟩ := X48.specialBack hx (y := (⟨"com/example/saldera/saldera/coupon/Cashier", "<init>", "(Ljava/lang/String;Ljava/lang/String;Z)V"⟩ : MethodName)) rfl hown (mvT hZ (hw _ (List.mem_of_getElem? (i := 36) rfl))) (mvT hZ (hw _ (List.mem_of_getElem? (i := 37) rfl))) (mvT hZ (hw _ (List.mem_of_getElem? (i := 38) rfl))) (by decide) (backOf (W := 1) (own_rmCB l Z a0 hw [] b47 aU b19 d14 h48 n0 (Nat.le_trans Z0 KP.1) OL E_b47 ge_b47 F_username_b47 F_branch_b47 F_crossBranch_b47) hZ (hw _ (List.mem_of_getElem? (i := 38) rfl)) (hw _ (List.mem_of_getElem? (i := 32) rfl)) (by decide) (by decide)) (g := (mkF m 403 #[iv p0, iv p1, iv p2, iv b0, iv b1, iv b2, iv b3, iv c0, iv c1, iv c2, iv c3, iv cx, iv 0, iv sh, iv d14, rv b19, rv b38, iv 5, iv 1, .unset] [(.int d14), (.ref b19), (.ref aU), (.ref b47), (.ref b47)])) rfl (by rw [hml]; rfl) (Steps.refl _) (a := b47) (argsL := [(.ref aU), (.ref b19), (.int d14)]) (rest := [(.ref b47)]) (lenOf own_pd2 rfl) rfl (by show 2 * 0 + _ ≤ _; exact Nat.le_of_eq rfl) (hb hby at_403) (fun _ _ => ⟨rfl, e48, (by decide : 9 + 0 ≤ _), (by decide : 37 + 0 ≤ _)⟩)
        dsimp only [Pt.U, Pt.locs, Pt.cells, Pt.slots] at X49 l49 y49 z49 st49 hQ49
        subst l49 y49 z49
        obtain ⟨rfl, N49q, K49, Ea49, Fb49, Fx49⟩ := hQ49
        have N49 := Fr.app N46 N49q
        have OL := OL.keep K49 (allS ge_b47 all0)
        have KP := KP.trans K49 (allS (Or.inr sz_b47) all0)
        have hk1 := Nat.le_trans hk1 K49.1
        have V_b20 := V_b20.keep K49 (ninS ne_b20_b47 nin0)
        have S_br := S_br.keep K49 (ninS ne_b19_b47 nin0) (ninS ne_t_br_b47 nin0)
        have V_b39 := V_b39.keep K49 (ninS ne_b39_b47 nin0)
        have S_co := S_co.keep K49 (ninS ne_b38_b47 nin0) (ninS ne_t_co_b47 nin0)
        have E_b47 := E_b47.keep K49
        refine own_via (mkF m 406 #[iv p0, iv p1, iv p2, iv b0, iv b1, iv b2, iv b3, iv c0, iv c1, iv c2, iv c3, iv cx, iv 0, iv sh, iv d14, rv b19, rv b38, iv 5, iv 1, .unset] [(.ref b47)]) st49 ?_
        have EC : Exa Z T49.heap b47 "com/example/saldera/saldera/coupon/Cashier" := Ea49
        have FB : Fld Z T49.heap b47 "com/example/saldera/saldera/coupon/Cashier" "branch" "Ljava/lang/String;" (.ref b19) := Fb49
        refine own_to (T' := T49) (mkF m 408 #[iv p0, iv p1, iv p2, iv b0, iv b1, iv b2, iv b3, iv c0, iv c1, iv c2, iv c3, iv cx, iv 0, iv sh, iv d14, rv b19, rv b38, iv 5, iv 1, rv b47] []) (fun _ k => XS.astore X49.here hx rfl (hb hby at_406) rfl rfl (l' := #[iv p0, iv p1, iv p2, iv b0, iv b1, iv b2, iv b3, iv c0, iv c1, iv c2, iv c3, iv cx, iv 0, iv sh, iv d14, rv b19, rv b38, iv 5, iv 1, rv b47]) rfl k) ?_
        refine own_to (T' := T49) (mkF m 410 #[iv p0, iv p1, iv p2, iv b0, iv b1, iv b2, iv b3, iv c0, iv c1, iv c2, iv c3, iv cx, iv 0, iv sh, iv d14, rv b19, rv b38, iv 5, iv 1, rv b47] [(.ref b47)]) (fun _ k => XS.aload X49.here hx rfl (hb hby at_408) rfl rfl k) ?_
        refine own_to (T' := T49) (mkF m 412 #[iv p0, iv p1, iv p2, iv b0, iv b1, iv b2, iv b3, iv c0, iv c1, iv c2, iv c3, iv cx, iv 0, iv sh, iv d14, rv b19, rv b38, iv 5, iv 1, rv b47] [(.ref b38), (.ref b47)]) (fun _ k => XS.aload X49.here hx rfl (hb hby at_410) rfl rfl k) ?_
        obtain ⟨cq50, kq50, q50a, q50b, q50c⟩ := isOf hZ rfl EC
        obtain ⟨_, _, ⟨T50, L50, k50, n50⟩, -, X50, ⟨Lc50, hQ50, l50, y50, z50⟩, st50⟩ := X49.virtualBack hx (y := (⟨"com/example/saldera/saldera/coupon/Cashier", "isOtherBranch", "(Ljava/lang/String;)Z"⟩ : MethodName)) (z := (⟨"com/example/saldera/saldera/coupon/Cashier", "isOtherBranch", "(Ljava/lang/String;)Z"⟩ : MethodName)) hown (mvT hZ (hw _ (List.mem_of_getElem? (i := 46) rfl))) (mvT hZ (hw _ (List.mem_of_getElem? (i := 47) rfl))) (notFace_of_selects (args := #[]) (mvT hZ (hw _ (List.mem_of_getElem? (i := 49) rfl)))) (mvT hZ (hw _ (List.mem_of_getElem? (i := 49) rfl))) (mvT hZ (hw _ (List.mem_of_getElem? (i := 48) rfl))) (by decide) (backOf (W := 0) (own_rmOB l Z a0 hw [] G1 b47 b38 t_co kb_co ([c0, c1, c2, c3, cx] : List Int32) b19 t_br kb_br ([b0, b1, b2, b3] : List Int32) T49.heap n0 (Nat.le_trans Z0 KP.1) OL FB S_co S_br O2 P5) hZ (hw _ (List.mem_of_getElem? (i := 50) rfl)) (hw _ (List.mem_of_getElem? (i := 32) rfl)) (by decide) (by decide)) q50a q50c (g := (mkF m 412 #[iv p0, iv p1, iv p2, iv b0, iv b1, iv b2, iv b3, iv c0, iv c1, iv c2, iv c3, iv cx, iv 0, iv sh, iv d14, rv b19, rv b38, iv 5, iv 1, rv b47] [(.ref b38), (.ref b47)])) rfl (by rw [hml]; rfl) (Steps.refl _) (argsL := [(.ref b38)]) (rest := []) (lenOf own_pd3 rfl) rfl (by show 2 * 0 + _ ≤ _; exact Nat.le_of_eq rfl) (hb hby at_412) (fun _ _ => ⟨rfl, rfl, (by decide : 9 + 0 ≤ _), (by decide : 37 + 0 ≤ _)⟩)
        dsimp only [Pt.U, Pt.locs, Pt.cells, Pt.slots] at X50 l50 y50 z50 st50 hQ50
        subst l50 y50 z50
        obtain ⟨r50, rfl, h050, h150, N50q, e50⟩ := hQ50
        have N50 := Fr.app N49 N50q
        refine own_via (mkF m 415 #[iv p0, iv p1, iv p2, iv b0, iv b1, iv b2, iv b3, iv c0, iv c1, iv c2, iv c3, iv cx, iv 0, iv sh, iv d14, rv b19, rv b38, iv 5, iv 1, rv b47] [(.int r50)]) st50 ?_
        have hr50 : r50 = (1 : Int32) := h150 (by simp)
        subst hr50
        refine own_to (T' := T50) (mkF m 417 #[iv p0, iv p1, iv p2, iv b0, iv b1, iv b2, iv b3, iv c0, iv c1, iv c2, iv c3, iv cx, iv 0, iv sh, iv d14, rv b19, rv b38, iv 5, iv 1, rv b47] [(.int (1 : Int32)), (.int (1 : Int32))]) (fun _ k => XS.iload X50.here hx rfl (hb hby at_415) rfl k) ?_
        refine own_to (T' := T50) (mkF m 420 #[iv p0, iv p1, iv p2, iv b0, iv b1, iv b2, iv b3, iv c0, iv c1, iv c2, iv c3, iv cx, iv 0, iv sh, iv d14, rv b19, rv b38, iv 5, iv 1, rv b47] []) (fun _ k => XS.icmpNo X50.here hx rfl (hb hby at_417) rfl (teq (by decide : (1 : Int32) = (1 : Int32))).2 k) ?_
        refine own_to (T' := T50) (mkF m 421 #[iv p0, iv p1, iv p2, iv b0, iv b1, iv b2, iv b3, iv c0, iv c1, iv c2, iv c3, iv cx, iv 0, iv sh, iv d14, rv b19, rv b38, iv 5, iv 1, rv b47] [(.int (1 : Int32))]) (fun _ k => XS.iconst X50.here hx rfl (hb hby at_420) k) ?_
        refine own_to (T' := T50) (mkF m 425 #[iv p0, iv p1, iv p2, iv b0, iv b1, iv b2, iv b3, iv c0, iv c1, iv c2, iv c3, iv cx, iv 0, iv sh, iv d14, rv b19, rv b38, iv 5, iv 1, rv b47] [(.int (1 : Int32))]) (fun _ k => XS.goto X50.here hx rfl (pc0 := 421) (pc' := 425) rfl (hb hby at_421) (by decide) (by decide) k) ?_
        exact own_retNW (s := s) (vm₁ := T48.vm) X50 hS (by rw [e50]; exact hk1) hx (t := .boolean) Bd.returns (by simp) hlk (hb hby at_425) (by decide) (by decide) (by rw [e50]; exact ⟨rfl, N50⟩)
      · refine own_to (T' := T26) (mkF m 301 #[iv p0, iv p1, iv p2, iv b0, iv b1, iv b2, iv b3, iv c0, iv c1, iv c2, iv c3, iv cx, iv 0, iv sh, iv d14, rv b19, .unset, .unset, .unset, .unset] []) (fun _ k => XS.icmpYes X26.here hx rfl (pc0 := 255) (pc' := 301) rfl (hb hby at_255) rfl (feq hs3).2 (by decide) (by decide) k) ?_
        obtain ⟨T51, h51, X51, e51, E51, A51, D51, -, st51⟩ := newO X26 hx hZ hown (hw _ (List.mem_of_getElem? (i := 0) rfl)) (hw _ (List.mem_of_getElem? (i := 1) rfl)) (hw _ (List.mem_of_getElem? (i := 2) rfl)) rfl (g := (mkF m 301 #[iv p0, iv p1, iv p2, iv b0, iv b1, iv b2, iv b3, iv c0, iv c1, iv c2, iv c3, iv cx, iv 0, iv sh, iv d14, rv b19, .unset, .unset, .unset, .unset] [])) rfl (hb hby at_301) (by decide) (by decide)
        obtain ⟨b51, g51⟩ : ∃ z, z = T26.heap.size := ⟨_, rfl⟩
        rw [← g51] at A51 D51 st51
        have sz_b51 : h0.size ≤ b51 := Nat.le_trans KP.1 (Nat.le_of_eq g51.symm)
        have ge_b51 : n0 ≤ b51 := Nat.le_trans Z0 sz_b51
        have ne_b20_b51 : b20 ≠ b51 := Nat.ne_of_lt (Nat.lt_of_lt_of_le V_b20.lt (Nat.le_of_eq g51.symm))
        have ne_b19_b51 : b19 ≠ b51 := Nat.ne_of_lt (Nat.lt_of_lt_of_le S_br.lt (Nat.le_of_eq g51.symm))
        have ne_t_br_b51 : t_br ≠ b51 := Nat.ne_of_lt (Nat.lt_of_lt_of_le S_br.ltT (Nat.le_of_eq g51.symm))
        have OL := OL.ext E51
        have KP := KP.ext E51
        have hk1 := Nat.le_trans hk1 E51.1
        have V_b20 := V_b20.ext E51
        have S_br := S_br.ext E51
        have E_b51 : Exa Z h51 b51 "java/lang/String" := A51
        have F_coder_b51 : Fld Z h51 b51 "java/lang/String" "coder" "B" (.int (0 : Int32)) := D51 (Or.inr (hw _ (List.mem_of_getElem? (i := 27) rfl))) (ty := .byte) (by decide)
        have F_value_b51 : Fld Z h51 b51 "java/lang/String" "value" "[B" .null := D51 (Or.inr (hw _ (List.mem_of_getElem? (i := 29) rfl))) (ty := (.array .byte)) (by decide)
        refine own_to (mkF m 304 #[iv p0, iv p1, iv p2, iv b0, iv b1, iv b2, iv b3, iv c0, iv c1, iv c2, iv c3, iv cx, iv 0, iv sh, iv d14, rv b19, .unset, .unset, .unset, .unset] [(.ref b51)]) st51 ?_
        refine own_to (T' := T51) (mkF m 305 #[iv p0, iv p1, iv p2, iv b0, iv b1, iv b2, iv b3, iv c0, iv c1, iv c2, iv c3, iv cx, iv 0, iv sh, iv d14, rv b19, .unset, .unset, .unset, .unset] [(.ref b51), (.ref b51)]) (fun _ k => XS.dup X51.here hx rfl (hb hby at_304) rfl rfl k) ?_
        refine own_to (T' := T51) (mkF m 306 #[iv p0, iv p1, iv p2, iv b0, iv b1, iv b2, iv b3, iv c0, iv c1, iv c2, iv c3, iv cx, iv 0, iv sh, iv d14, rv b19, .unset, .unset, .unset, .unset] [(.int (4 : Int32)), (.ref b51), (.ref b51)]) (fun _ k => XS.iconst X51.here hx rfl (hb hby at_305) k) ?_
        obtain ⟨T52, h52, k52, X52, e52, E52, A52, B52, st52⟩ := newPE X51 hx hZ (hw _ (List.mem_of_getElem? (i := 3) rfl)) e51 (g := (mkF m 306 #[iv p0, iv p1, iv p2, iv b0, iv b1, iv b2, iv b3, iv c0, iv c1, iv c2, iv c3, iv cx, iv 0, iv sh, iv d14, rv b19, .unset, .unset, .unset, .unset] [(.int (4 : Int32)), (.ref b51), (.ref b51)])) rfl (hb hby at_306) rfl (by decide) (cap := 4) (by decide) (by decide) (by decide) (by decide) (ad := "[C") (by decide)
        obtain ⟨b52, g52⟩ : ∃ z, z = h51.size := ⟨_, rfl⟩
        rw [← g52] at A52 B52 st52
        have sz_b52 : h0.size ≤ b52 := Nat.le_trans KP.1 (Nat.le_of_eq g52.symm)
        have ge_b52 : n0 ≤ b52 := Nat.le_trans Z0 sz_b52
        have ne_b20_b52 : b20 ≠ b52 := Nat.ne_of_lt (Nat.lt_of_lt_of_le V_b20.lt (Nat.le_of_eq g52.symm))
        have ne_b19_b52 : b19 ≠ b52 := Nat.ne_of_lt (Nat.lt_of_lt_of_le S_br.lt (Nat.le_of_eq g52.symm))
        have ne_t_br_b52 : t_br ≠ b52 := Nat.ne_of_lt (Nat.lt_of_lt_of_le S_br.ltT (Nat.le_of_eq g52.symm))
        have ne_b51_b52 : b51 ≠ b52 := Nat.ne_of_lt (Nat.lt_of_lt_of_le E_b51.lt (Nat.le_of_eq g52.symm))
        have OL := OL.ext E52
        have KP := KP.ext E52
        have hk1 := Nat.le_trans hk1 E52.1
        have V_b20 := V_b20.ext E52
        have S_br := S_br.ext E52
        have E_b51 := E_b51.ext E52
        have F_coder_b51 := F_coder_b51.ext E52
        have F_value_b51 := F_value_b51.ext E52
        have V_b52 : Arv Z h52 b52 k52 .char (4 : Int32) [(.int (0 : Int32)), (.int (0 : Int32)), (.int (0 : Int32)), (.int (0 : Int32))] (.int (0 : Int32)) := (Arv.new A52 (by decide)).pad (pad_rep [] (.int (0 : Int32)) 4)
        refine own_to (mkF m 308 #[iv p0, iv p1, iv p2, iv b0, iv b1, iv b2, iv b3, iv c0, iv c1, iv c2, iv c3, iv cx, iv 0, iv sh, iv d14, rv b19, .unset, .unset, .unset, .unset] [(.ref b52), (.ref b51), (.ref b51)]) st52 ?_
        refine own_to (T' := T52) (mkF m 309 #[iv p0, iv p1, iv p2, iv b0, iv b1, iv b2, iv b3, iv c0, iv c1, iv c2, iv c3, iv cx, iv 0, iv sh, iv d14, rv b19, .unset, .unset, .unset, .unset] [(.ref b52), (.ref b52), (.ref b51), (.ref b51)]) (fun _ k => XS.dup X52.here hx rfl (hb hby at_308) rfl rfl k) ?_
        refine own_to (T' := T52) (mkF m 310 #[iv p0, iv p1, iv p2, iv b0, iv b1, iv b2, iv b3, iv c0, iv c1, iv c2, iv c3, iv cx, iv 0, iv sh, iv d14, rv b19, .unset, .unset, .unset, .unset] [(.int (0 : Int32)), (.ref b52), (.ref b52), (.ref b51), (.ref b51)]) (fun _ k => XS.iconst X52.here hx rfl (hb hby at_309) k) ?_
        refine own_to (T' := T52) (mkF m 312 #[iv p0, iv p1, iv p2, iv b0, iv b1, iv b2, iv b3, iv c0, iv c1, iv c2, iv c3, iv cx, iv 0, iv sh, iv d14, rv b19, .unset, .unset, .unset, .unset] [(.int c0), (.int (0 : Int32)), (.ref b52), (.ref b52), (.ref b51), (.ref b51)]) (fun _ k => XS.iload X52.here hx rfl (hb hby at_310) rfl k) ?_
        obtain ⟨cl53, Ar53, q53, S53, M53, H53, G53⟩ := id V_b52
        obtain ⟨T53, h53, X53, e53, W53, st53⟩ := stC X52 hx hZ e52 Ar53 (j := (0 : Int32)) (inb_of S53 ⟨by decide, by decide⟩) (g := (mkF m 312 #[iv p0, iv p1, iv p2, iv b0, iv b1, iv b2, iv b3, iv c0, iv c1, iv c2, iv c3, iv cx, iv 0, iv sh, iv d14, rv b19, .unset, .unset, .unset, .unset] [(.int c0), (.int (0 : Int32)), (.ref b52), (.ref b52), (.ref b51), (.ref b51)])) rfl rfl (hb hby at_312)
        refine own_to (mkF m 313 #[iv p0, iv p1, iv p2, iv b0, iv b1, iv b2, iv b3, iv c0, iv c1, iv c2, iv c3, iv cx, iv 0, iv sh, iv d14, rv b19, .unset, .unset, .unset, .unset] [(.ref b52), (.ref b51), (.ref b51)]) st53 ?_
        have N53 := Fr.snoc X53 N26 ge_b52
        have tmp53 : Arv Z h53 b52 k52 .char (4 : Int32) [(.int (nar .char c0)), (.int (0 : Int32)), (.int (0 : Int32)), (.int (0 : Int32))] (.int (0 : Int32)) := Arv.set Ar53 q53 S53 M53 H53 G53 (fits_nar_char _) W53 0 rfl (Nat.le_of_ble_eq_true rfl)
        rw [own_nar8 c8_c0] at tmp53
        have OL := OL.wr W53 ge_b52
        have KP := KP.wr W53 (Or.inr sz_b52)
        have hk1 := Nat.le_trans hk1 (Keep.of_wr W53).1
        have V_b20 := V_b20.other W53 ne_b20_b52
        have S_br := S_br.wr W53 ne_b19_b52 ne_t_br_b52
        have E_b51 := E_b51.wr W53
        have F_coder_b51 := F_coder_b51.other W53 (Or.inl ne_b51_b52)
        have F_value_b51 := F_value_b51.other W53 (Or.inl ne_b51_b52)
        have V_b52 := tmp53
        refine own_to (T' := T53) (mkF m 314 #[iv p0, iv p1, iv p2, iv b0, iv b1, iv b2, iv b3, iv c0, iv c1, iv c2, iv c3, iv cx, iv 0, iv sh, iv d14, rv b19, .unset, .unset, .unset, .unset] [(.ref b52), (.ref b52), (.ref b51), (.ref b51)]) (fun _ k => XS.dup X53.here hx rfl (hb hby at_313) rfl rfl k) ?_
        refine own_to (T' := T53) (mkF m 315 #[iv p0, iv p1, iv p2, iv b0, iv b1, iv b2, iv b3, iv c0, iv c1, iv c2, iv c3, iv cx, iv 0, iv sh, iv d14, rv b19, .unset, .unset, .unset, .unset] [(.int (1 : Int32)), (.ref b52), (.ref b52), (.ref b51), (.ref b51)]) (fun _ k => XS.iconst X53.here hx rfl (hb hby at_314) k) ?_
        refine own_to (T' := T53) (mkF m 317 #[iv p0, iv p1, iv p2, iv b0, iv b1, iv b2, iv b3, iv c0, iv c1, iv c2, iv c3, iv cx, iv 0, iv sh, iv d14, rv b19, .unset, .unset, .unset, .unset] [(.int c1), (.int (1 : Int32)), (.ref b52), (.ref b52), (.ref b51), (.ref b51)]) (fun _ k => XS.iload X53.here hx rfl (hb hby at_315) rfl k) ?_
        obtain ⟨cl54, Ar54, q54, S54, M54, H54, G54⟩ := id V_b52
        obtain ⟨T54, h54, X54, e54, W54, st54⟩ := stC X53 hx hZ e53 Ar54 (j := (1 : Int32)) (inb_of S54 ⟨by decide, by decide⟩) (g := (mkF m 317 #[iv p0, iv p1, iv p2, iv b0, iv b1, iv b2, iv b3, iv c0, iv c1, iv c2, iv c3, iv cx, iv 0, iv sh, iv d14, rv b19, .unset, .unset, .unset, .unset] [(.int c1), (.int (1 : Int32)), (.ref b52), (.ref b52), (.ref b51), (.ref b51)])) rfl rfl (hb hby at_317)
        refine own_to (mkF m 318 #[iv p0, iv p1, iv p2, iv b0, iv b1, iv b2, iv b3, iv c0, iv c1, iv c2, iv c3, iv cx, iv 0, iv sh, iv d14, rv b19, .unset, .unset, .unset, .unset] [(.ref b52), (.ref b51), (.ref b51)]) st54 ?_
        have N54 := Fr.snoc X54 N53 ge_b52
        have tmp54 : Arv Z h54 b52 k52 .char (4 : Int32) [(.int c0), (.int (nar .char c1)), (.int (0 : Int32)), (.int (0 : Int32))] (.int (0 : Int32)) := Arv.set Ar54 q54 S54 M54 H54 G54 (fits_nar_char _) W54 1 rfl (Nat.le_of_ble_eq_true rfl)
        rw [own_nar8 c8_c1] at tmp54
        have OL := OL.wr W54 ge_b52
        have KP := KP.wr W54 (Or.inr sz_b52)
        have hk1 := Nat.le_trans hk1 (Keep.of_wr W54).1
        have V_b20 := V_b20.other W54 ne_b20_b52
        have S_br := S_br.wr W54 ne_b19_b52 ne_t_br_b52
        have E_b51 := E_b51.wr W54
        have F_coder_b51 := F_coder_b51.other W54 (Or.inl ne_b51_b52)
        have F_value_b51 := F_value_b51.other W54 (Or.inl ne_b51_b52)
        have V_b52 := tmp54
        refine own_to (T' := T54) (mkF m 319 #[iv p0, iv p1, iv p2, iv b0, iv b1, iv b2, iv b3, iv c0, iv c1, iv c2, iv c3, iv cx, iv 0, iv sh, iv d14, rv b19, .unset, .unset, .unset, .unset] [(.ref b52), (.ref b52), (.ref b51), (.ref b51)]) (fun _ k => XS.dup X54.here hx rfl (hb hby at_318) rfl rfl k) ?_
        refine own_to (T' := T54) (mkF m 320 #[iv p0, iv p1, iv p2, iv b0, iv b1, iv b2, iv b3, iv c0, iv c1, iv c2, iv c3, iv cx, iv 0, iv sh, iv d14, rv b19, .unset, .unset, .unset, .unset] [(.int (2 : Int32)), (.ref b52), (.ref b52), (.ref b51), (.ref b51)]) (fun _ k => XS.iconst X54.here hx rfl (hb hby at_319) k) ?_
        refine own_to (T' := T54) (mkF m 322 #[iv p0, iv p1, iv p2, iv b0, iv b1, iv b2, iv b3, iv c0, iv c1, iv c2, iv c3, iv cx, iv 0, iv sh, iv d14, rv b19, .unset, .unset, .unset, .unset] [(.int c2), (.int (2 : Int32)), (.ref b52), (.ref b52), (.ref b51), (.ref b51)]) (fun _ k => XS.iload X54.here hx rfl (hb hby at_320) rfl k) ?_
        obtain ⟨cl55, Ar55, q55, S55, M55, H55, G55⟩ := id V_b52
        obtain ⟨T55, h55, X55, e55, W55, st55⟩ := stC X54 hx hZ e54 Ar55 (j := (2 : Int32)) (inb_of S55 ⟨by decide, by decide⟩) (g := (mkF m 322 #[iv p0, iv p1, iv p2, iv b0, iv b1, iv b2, iv b3, iv c0, iv c1, iv c2, iv c3, iv cx, iv 0, iv sh, iv d14, rv b19, .unset, .unset, .unset, .unset] [(.int c2), (.int (2 : Int32)), (.ref b52), (.ref b52), (.ref b51), (.ref b51)])) rfl rfl (hb hby at_322)
        refine own_to (mkF m 323 #[iv p0, iv p1, iv p2, iv b0, iv b1, iv b2, iv b3, iv c0, iv c1, iv c2, iv c3, iv cx, iv 0, iv sh, iv d14, rv b19, .unset, .unset, .unset, .unset] [(.ref b52), (.ref b51), (.ref b51)]) st55 ?_
        have N55 := Fr.snoc X55 N54 ge_b52
        have tmp55 : Arv Z h55 b52 k52 .char (4 : Int32) [(.int c0), (.int c1), (.int (nar .char c2)), (.int (0 : Int32))] (.int (0 : Int32)) := Arv.set Ar55 q55 S55 M55 H55 G55 (fits_nar_char _) W55 2 rfl (Nat.le_of_ble_eq_true rfl)
        rw [own_nar8 c8_c2] at tmp55
        have OL := OL.wr W55 ge_b52
        have KP := KP.wr W55 (Or.inr sz_b52)
        have hk1 := Nat.le_trans hk1 (Keep.of_wr W55).1
        have V_b20 := V_b20.other W55 ne_b20_b52
        have S_br := S_br.wr W55 ne_b19_b52 ne_t_br_b52
        have E_b51 := E_b51.wr W55
        have F_coder_b51 := F_coder_b51.other W55 (Or.inl ne_b51_b52)
        have F_value_b51 := F_value_b51.other W55 (Or.inl ne_b51_b52)
        have V_b52 := tmp55
        refine own_to (T' := T55) (mkF m 324 #[iv p0, iv p1, iv p2, iv b0, iv b1, iv b2, iv b3, iv c0, iv c1, iv c2, iv c3, iv cx, iv 0, iv sh, iv d14, rv b19, .unset, .unset, .unset, .unset] [(.ref b52), (.ref b52), (.ref b51), (.ref b51)]) (fun _ k => XS.dup X55.here hx rfl (hb hby at_323) rfl rfl k) ?_
        refine own_to (T' := T55) (mkF m 325 #[iv p0, iv p1, iv p2, iv b0, iv b1, iv b2, iv b3, iv c0, iv c1, iv c2, iv c3, iv cx, iv 0, iv sh, iv d14, rv b19, .unset, .unset, .unset, .unset] [(.int (3 : Int32)), (.ref b52), (.ref b52), (.ref b51), (.ref b51)]) (fun _ k => XS.iconst X55.here hx rfl (hb hby at_324) k) ?_
        refine own_to (T' := T55) (mkF m 327 #[iv p0, iv p1, iv p2, iv b0, iv b1, iv b2, iv b3, iv c0, iv c1, iv c2, iv c3, iv cx, iv 0, iv sh, iv d14, rv b19, .unset, .unset, .unset, .unset] [(.int c3), (.int (3 : Int32)), (.ref b52), (.ref b52), (.ref b51), (.ref b51)]) (fun _ k => XS.iload X55.here hx rfl (hb hby at_325) rfl k) ?_
        obtain ⟨cl56, Ar56, q56, S56, M56, H56, G56⟩ := id V_b52
        obtain ⟨T56, h56, X56, e56, W56, st56⟩ := stC X55 hx hZ e55 Ar56 (j := (3 : Int32)) (inb_of S56 ⟨by decide, by decide⟩) (g := (mkF m 327 #[iv p0, iv p1, iv p2, iv b0, iv b1, iv b2, iv b3, iv c0, iv c1, iv c2, iv c3, iv cx, iv 0, iv sh, iv d14, rv b19, .unset, .unset, .unset, .unset] [(.int c3), (.int (3 : Int32)), (.ref b52), (.ref b52), (.ref b51), (.ref b51)])) rfl rfl (hb hby at_327)
        refine own_to (mkF m 328 #[iv p0, iv p1, iv p2, iv b0, iv b1, iv b2, iv b3, iv c0, iv c1, iv c2, iv c3, iv cx, iv 0, iv sh, iv d14, rv b19, .unset, .unset, .unset, .unset] [(.ref b52), (.ref b51), (.ref b51)]) st56 ?_
        have N56 := Fr.snoc X56 N55 ge_b52
        have tmp56 : Arv Z h56 b52 k52 .char (4 : Int32) [(.int c0), (.int c1), (.int c2), (.int (nar .char c3))] (.int (0 : Int32)) := Arv.set Ar56 q56 S56 M56 H56 G56 (fits_nar_char _) W56 3 rfl (Nat.le_of_ble_eq_true rfl)
        rw [own_nar8 c8_c3] at tmp56
        have OL := OL.wr W56 ge_b52
        have KP := KP.wr W56 (Or.inr sz_b52)
        have hk1 := Nat.le_trans hk1 (Keep.of_wr W56).1
        have V_b20 := V_b20.other W56 ne_b20_b52
        have S_br := S_br.wr W56 ne_b19_b52 ne_t_br_b52
        have E_b51 := E_b51.wr W56
        have F_coder_b51 := F_coder_b51.other W56 (Or.inl ne_b51_b52)
        have F_value_b51 := F_value_b51.other W56 (Or.inl ne_b51_b52)
        have V_b52 := tmp56
        have hp57 : ∀ c ∈ ([c0, c1, c2, c3] : List Int32), ¬ c < 0 ∧ ¬ (255 : Int32) < c := (own_allS c8_c0 (own_allS c8_c1 (own_allS c8_c2 (own_allS c8_c3 own_all0))))
        have KP0 := KP
        have lt0_b20 := V_b20.lt
        have lt0_b19 := S_br.lt
        have lt0_t_br := S_br.ltT
        have lt0_b51 := E_b51.lt
        have lt0_b52 := V_b52.lt
        obtain ⟨_, _, ⟨T58, L58, k58, n58⟩, -, X58, ⟨Lc58, hQ58, l58, y58, z58⟩, st58⟩ := X56.specialBack hx (y := (⟨"java/lang/String", "<init>", "([C)V"⟩ : MethodName)) rfl hown (mvT hZ (hw _ (List.mem_of_getElem? (i := 4) rfl))) (mvT hZ (hw _ (List.mem_of_getElem? (i := 5) rfl))) (mvT hZ (hw _ (List.mem_of_getElem? (i := 6) rfl))) (by decide) (StrChars.Road.backV (W := 1) hZ hwsV (kI := 4) (hw _ (List.mem_of_getElem? (i := 1) rfl)) (cs := ([c0, c1, c2, c3] : List Int32)) (bs := (([c0, c1, c2, c3] : List Int32)).map (fun c => c.toInt8.toInt32)) (n := 4) ge_b51 (Nat.le_trans Z0 KP.1) E_b51 F_value_b51 F_coder_b51 V_b52 (O2.ext OL.2) P5 rfl rfl (by decide) (by decide) hp57 rfl (by decide) (by decide)) (g := (mkF m 328 #[iv p0, iv p1, iv p2, iv b0, iv b1, iv b2, iv b3, iv c0, iv c1, iv c2, iv c3, iv cx, iv 0, iv sh, iv d14, rv b19, .unset, .unset, .unset, .unset] [(.ref b52), (.ref b51), (.ref b51)])) rfl (by rw [hml]; rfl) (Steps.refl _) (a := b51) (argsL := [(.ref b52)]) (rest := [(.ref b51)]) (lenOf own_pd1 rfl) rfl (by show 2 * 0 + _ ≤ _; exact Nat.le_of_eq rfl) (hb hby at_328) (fun _ _ => ⟨rfl, e56, (by decide : 5 + 1 ≤ _), (by decide : 20 + 4 ≤ _)⟩)
        dsimp only [Pt.U, Pt.locs, Pt.cells, Pt.slots] at X58 l58 y58 z58 st58 hQ58
        subst l58 y58 z58
        obtain ⟨rfl, N58q, K58, Ex58, Cx58, t_co, kb_co, ge_t_co, sz0_t_co, ne_t_co_b51, Vx58, Kx58⟩ := hQ58
        have N58 := Fr.app N56 N58q
        have OL := OL.keep K58 (allS ge_b51 all0)
        have KP := KP.trans K58 (allS (Or.inr sz_b51) all0)
        have hk1 := Nat.le_trans hk1 K58.1
        have V_b20 := V_b20.keep K58 (ninS ne_b20_b51 nin0)
        have S_br := S_br.keep K58 (ninS ne_b19_b51 nin0) (ninS ne_t_br_b51 nin0)
        have E_b51 := E_b51.keep K58
        have V_b52 := V_b52.keep K58 (ninS (Ne.symm ne_b51_b52) nin0)
        refine own_via (mkF m 331 #[iv p0, iv p1, iv p2, iv b0, iv b1, iv b2, iv b3, iv c0, iv c1, iv c2, iv c3, iv cx, iv 0, iv sh, iv d14, rv b19, .unset, .unset, .unset, .unset] [(.ref b51)]) st58 ?_
        have sz_t_co : h0.size ≤ t_co := Nat.le_trans KP0.1 sz0_t_co
        have ne_b20_t_co : b20 ≠ t_co := Nat.ne_of_lt (Nat.lt_of_lt_of_le lt0_b20 sz0_t_co)
        have ne_b19_t_co : b19 ≠ t_co := Nat.ne_of_lt (Nat.lt_of_lt_of_le lt0_b19 sz0_t_co)
        have ne_t_br_t_co : t_br ≠ t_co := Nat.ne_of_lt (Nat.lt_of_lt_of_le lt0_t_br sz0_t_co)
        have ne_b52_t_co : b52 ≠ t_co := Nat.ne_of_lt (Nat.lt_of_lt_of_le lt0_b52 sz0_t_co)
        have S_co : own_Str Z T58.heap b51 t_co kb_co ([c0, c1, c2, c3] : List Int32) := ⟨Ex58, Vx58, Cx58, Kx58, hp57, Nat.le_of_ble_eq_true rfl⟩
        refine own_to (T' := T58) (mkF m 333 #[iv p0, iv p1, iv p2, iv b0, iv b1, iv b2, iv b3, iv c0, iv c1, iv c2, iv c3, iv cx, iv 0, iv sh, iv d14, rv b19, rv b51, .unset, .unset, .unset] []) (fun _ k => XS.astore X58.here hx rfl (hb hby at_331) rfl rfl (l' := #[iv p0, iv p1, iv p2, iv b0, iv b1, iv b2, iv b3, iv c0, iv c1, iv c2, iv c3, iv cx, iv 0, iv sh, iv d14, rv b19, rv b51, .unset, .unset, .unset]) rfl k) ?_
        refine own_to (T' := T58) (mkF m 334 #[iv p0, iv p1, iv p2, iv b0, iv b1, iv b2, iv b3, iv c0, iv c1, iv c2, iv c3, iv cx, iv 0, iv sh, iv d14, rv b19, rv b51, .unset, .unset, .unset] [(.int (4 : Int32))]) (fun _ k => XS.iconst X58.here hx rfl (hb hby at_333) k) ?_
        refine own_to (T' := T58) (mkF m 336 #[iv p0, iv p1, iv p2, iv b0, iv b1, iv b2, iv b3, iv c0, iv c1, iv c2, iv c3, iv cx, iv 0, iv sh, iv d14, rv b19, rv b51, iv 4, .unset, .unset] []) (fun _ k => XS.istore X58.here hx rfl (hb hby at_334) rfl (l' := #[iv p0, iv p1, iv p2, iv b0, iv b1, iv b2, iv b3, iv c0, iv c1, iv c2, iv c3, iv cx, iv 0, iv sh, iv d14, rv b19, rv b51, iv 4, .unset, .unset]) rfl k) ?_
        refine own_to (T' := T58) (mkF m 338 #[iv p0, iv p1, iv p2, iv b0, iv b1, iv b2, iv b3, iv c0, iv c1, iv c2, iv c3, iv cx, iv 0, iv sh, iv d14, rv b19, rv b51, iv 4, .unset, .unset] [(.int (0 : Int32))]) (fun _ k => XS.iload X58.here hx rfl (hb hby at_336) rfl k) ?_
        refine own_to (T' := T58) (mkF m 347 #[iv p0, iv p1, iv p2, iv b0, iv b1, iv b2, iv b3, iv c0, iv c1, iv c2, iv c3, iv cx, iv 0, iv sh, iv d14, rv b19, rv b51, iv 4, .unset, .unset] []) (fun _ k => XS.ifYes X58.here hx rfl (pc0 := 338) (pc' := 347) rfl (hb hby at_338) rfl ((if0 _ _).trans (teq (by decide : (0 : Int32) = (0 : Int32))).1) (by decide) (by decide) k) ?_
        refine own_to (T' := T58) (mkF m 349 #[iv p0, iv p1, iv p2, iv b0, iv b1, iv b2, iv b3, iv c0, iv c1, iv c2, iv c3, iv cx, iv 0, iv sh, iv d14, rv b19, rv b51, iv 4, .unset, .unset] [(.int (4 : Int32))]) (fun _ k => XS.iload X58.here hx rfl (hb hby at_347) rfl k) ?_
        refine own_to (T' := T58) (mkF m 350 #[iv p0, iv p1, iv p2, iv b0, iv b1, iv b2, iv b3, iv c0, iv c1, iv c2, iv c3, iv cx, iv 0, iv sh, iv d14, rv b19, rv b51, iv 4, .unset, .unset] [(.int (4 : Int32)), (.int (4 : Int32))]) (fun _ k => XS.iconst X58.here hx rfl (hb hby at_349) k) ?_
        refine own_to (T' := T58) (mkF m 359 #[iv p0, iv p1, iv p2, iv b0, iv b1, iv b2, iv b3, iv c0, iv c1, iv c2, iv c3, iv cx, iv 0, iv sh, iv d14, rv b19, rv b51, iv 4, .unset, .unset] []) (fun _ k => XS.icmpYes X58.here hx rfl (pc0 := 350) (pc' := 359) rfl (hb hby at_350) rfl (teq (by decide : (4 : Int32) = (4 : Int32))).1 (by decide) (by decide) k) ?_
        refine own_to (T' := T58) (mkF m 361 #[iv p0, iv p1, iv p2, iv b0, iv b1, iv b2, iv b3, iv c0, iv c1, iv c2, iv c3, iv cx, iv 0, iv sh, iv d14, rv b19, rv b51, iv 4, .unset, .unset] [(.int c0)]) (fun _ k => XS.iload X58.here hx rfl (hb hby at_359) rfl k) ?_
        refine own_to (T' := T58) (mkF m 362 #[iv p0, iv p1, iv p2, iv b0, iv b1, iv b2, iv b3, iv c0, iv c1, iv c2, iv c3, iv cx, iv 0, iv sh, iv d14, rv b19, rv b51, iv 4, .unset, .unset] [(.int b0), (.int c0)]) (fun _ k => XS.iloadN X58.here hx rfl (hb hby at_361) rfl k) ?_
        by_cases hq0 : c0 = b0
        · refine own_to (T' := T58) (mkF m 365 #[iv p0, iv p1, iv p2, iv b0, iv b1, iv b2, iv b3, iv c0, iv c1, iv c2, iv c3, iv cx, iv 0, iv sh, iv d14, rv b19, rv b51, iv 4, .unset, .unset] []) (fun _ k => XS.icmpNo X58.here hx rfl (hb hby at_362) rfl (teq hq0).2 k) ?_
          refine own_to (T' := T58) (mkF m 367 #[iv p0, iv p1, iv p2, iv b0, iv b1, iv b2, iv b3, iv c0, iv c1, iv c2, iv c3, iv cx, iv 0, iv sh, iv d14, rv b19, rv b51, iv 4, .unset, .unset] [(.int c1)]) (fun _ k => XS.iload X58.here hx rfl (hb hby at_365) rfl k) ?_
          refine own_to (T' := T58) (mkF m 369 #[iv p0, iv p1, iv p2, iv b0, iv b1, iv b2, iv b3, iv c0, iv c1, iv c2, iv c3, iv cx, iv 0, iv sh, iv d14, rv b19, rv b51, iv 4, .unset, .unset] [(.int b1), (.int c1)]) (fun _ k => XS.iload X58.here hx rfl (hb hby at_367) rfl k) ?_
          by_cases hq1 : c1 = b1
          · refine own_to (T' := T58) (mkF m 372 #[iv p0, iv p1, iv p2, iv b0, iv b1, iv b2, iv b3, iv c0, iv c1, iv c2, iv c3, iv cx, iv 0, iv sh, iv d14, rv b19, rv b51, iv 4, .unset, .unset] []) (fun _ k => XS.icmpNo X58.here hx rfl (hb hby at_369) rfl (teq hq1).2 k) ?_
            refine own_to (T' := T58) (mkF m 374 #[iv p0, iv p1, iv p2, iv b0, iv b1, iv b2, iv b3, iv c0, iv c1, iv c2, iv c3, iv cx, iv 0, iv sh, iv d14, rv b19, rv b51, iv 4, .unset, .unset] [(.int c2)]) (fun _ k => XS.iload X58.here hx rfl (hb hby at_372) rfl k) ?_
            refine own_to (T' := T58) (mkF m 376 #[iv p0, iv p1, iv p2, iv b0, iv b1, iv b2, iv b3, iv c0, iv c1, iv c2, iv c3, iv cx, iv 0, iv sh, iv d14, rv b19, rv b51, iv 4, .unset, .unset] [(.int b2), (.int c2)]) (fun _ k => XS.iload X58.here hx rfl (hb hby at_374) rfl k) ?_
            by_cases hq2 : c2 = b2
            · refine own_to (T' := T58) (mkF m 379 #[iv p0, iv p1, iv p2, iv b0, iv b1, iv b2, iv b3, iv c0, iv c1, iv c2, iv c3, iv cx, iv 0, iv sh, iv d14, rv b19, rv b51, iv 4, .unset, .unset] []) (fun _ k => XS.icmpNo X58.here hx rfl (hb hby at_376) rfl (teq hq2).2 k) ?_
              refine own_to (T' := T58) (mkF m 381 #[iv p0, iv p1, iv p2, iv b0, iv b1, iv b2, iv b3, iv c0, iv c1, iv c2, iv c3, iv cx, iv 0, iv sh, iv d14, rv b19, rv b51, iv 4, .unset, .unset] [(.int c3)]) (fun _ k => XS.iload X58.here hx rfl (hb hby at_379) rfl k) ?_
              refine own_to (T' := T58) (mkF m 383 #[iv p0, iv p1, iv p2, iv b0, iv b1, iv b2, iv b3, iv c0, iv c1, iv c2, iv c3, iv cx, iv 0, iv sh, iv d14, rv b19, rv b51, iv 4, .unset, .unset] [(.int b3), (.int c3)]) (fun _ k => XS.iload X58.here hx rfl (hb hby at_381) rfl k) ?_
              by_cases hq3 : c3 = b3
              · refine own_to (T' := T58) (mkF m 390 #[iv p0, iv p1, iv p2, iv b0, iv b1, iv b2, iv b3, iv c0, iv c1, iv c2, iv c3, iv cx, iv 0, iv sh, iv d14, rv b19, rv b51, iv 4, .unset, .unset] []) (fun _ k => XS.icmpYes X58.here hx rfl (pc0 := 383) (pc' := 390) rfl (hb hby at_383) rfl (teq hq3).1 (by decide) (by decide) k) ?_
                refine own_to (T' := T58) (mkF m 391 #[iv p0, iv p1, iv p2, iv b0, iv b1, iv b2, iv b3, iv c0, iv c1, iv c2, iv c3, iv cx, iv 0, iv sh, iv d14, rv b19, rv b51, iv 4, .unset, .unset] [(.int (0 : Int32))]) (fun _ k => XS.iconst X58.here hx rfl (hb hby at_390) k) ?_
                refine own_to (T' := T58) (mkF m 393 #[iv p0, iv p1, iv p2, iv b0, iv b1, iv b2, iv b3, iv c0, iv c1, iv c2, iv c3, iv cx, iv 0, iv sh, iv d14, rv b19, rv b51, iv 4, iv 0, .unset] []) (fun _ k => XS.istore X58.here hx rfl (hb hby at_391) rfl (l' := #[iv p0, iv p1, iv p2, iv b0, iv b1, iv b2, iv b3, iv c0, iv c1, iv c2, iv c3, iv cx, iv 0, iv sh, iv d14, rv b19, rv b51, iv 4, iv 0, .unset]) rfl k) ?_
                obtain ⟨T75, h75, X75, e75, E75, A75, D75, -, st75⟩ := newO X58 hx hZ hown (hw _ (List.mem_of_getElem? (i := 30) rfl)) (hw _ (List.mem_of_getElem? (i := 31) rfl)) (hw _ (List.mem_of_getElem? (i := 32) rfl)) rfl (g := (mkF m 393 #[iv p0, iv p1, iv p2, iv b0, iv b1, iv b2, iv b3, iv c0, iv c1, iv c2, iv c3, iv cx, iv 0, iv sh, iv d14, rv b19, rv b51, iv 4, iv 0, .unset] [])) rfl (hb hby at_393) (by decide) (by decide)
                obtain ⟨b75, g75⟩ : ∃ z, z = T58.heap.size := ⟨_, rfl⟩
                rw [← g75] at A75 D75 st75
                have sz_b75 : h0.size ≤ b75 := Nat.le_trans KP.1 (Nat.le_of_eq g75.symm)
                have ge_b75 : n0 ≤ b75 := Nat.le_trans Z0 sz_b75
                have ne_b20_b75 : b20 ≠ b75 := Nat.ne_of_lt (Nat.lt_of_lt_of_le V_b20.lt (Nat.le_of_eq g75.symm))
                have ne_b19_b75 : b19 ≠ b75 := Nat.ne_of_lt (Nat.lt_of_lt_of_le S_br.lt (Nat.le_of_eq g75.symm))
                have ne_t_br_b75 : t_br ≠ b75 := Nat.ne_of_lt (Nat.lt_of_lt_of_le S_br.ltT (Nat.le_of_eq g75.symm))
                have ne_b52_b75 : b52 ≠ b75 := Nat.ne_of_lt (Nat.lt_of_lt_of_le V_b52.lt (Nat.le_of_eq g75.symm))
                have ne_b51_b75 : b51 ≠ b75 := Nat.ne_of_lt (Nat.lt_of_lt_of_le S_co.lt (Nat.le_of_eq g75.symm))
                have ne_t_co_b75 : t_co ≠ b75 := Nat.ne_of_lt (Nat.lt_of_lt_of_le S_co.ltT (Nat.le_of_eq g75.symm))
                have OL := OL.ext E75
                have KP := KP.ext E75
                have hk1 := Nat.le_trans hk1 E75.1
                have V_b20 := V_b20.ext E75
                have S_br := S_br.ext E75
                have V_b52 := V_b52.ext E75
                have S_co := S_co.ext E75
                have E_b75 : Exa Z h75 b75 "com/example/saldera/saldera/coupon/Cashier" := A75
                have F_username_b75 : Fld Z h75 b75 "com/example/saldera/saldera/coupon/Cashier" "username" "Ljava/lang/String;" .null := D75 (Or.inr (hw _ (List.mem_of_getElem? (i := 41) rfl))) (ty := (.object "java/lang/String")) (by decide)
                have F_branch_b75 : Fld Z h75 b75 "com/example/saldera/saldera/coupon/Cashier" "branch" "Ljava/lang/String;" .null := D75 (Or.inr (hw _ (List.mem_of_getElem? (i := 43) rfl))) (ty := (.object "java/lang/String")) (by decide)
                have F_crossBranch_b75 : Fld Z h75 b75 "com/example/saldera/saldera/coupon/Cashier" "crossBranch" "Z" (.int (0 : Int32)) := D75 (Or.inr (hw _ (List.mem_of_getElem? (i := 45) rfl))) (ty := .boolean) (by decide)
                refine own_to (mkF m 396 #[iv p0, iv p1, iv p2, iv b0, iv b1, iv b2, iv b3, iv c0, iv c1, iv c2, iv c3, iv cx, iv 0, iv sh, iv d14, rv b19, rv b51, iv 4, iv 0, .unset] [(.ref b75)]) st75 ?_
                refine own_to (T' := T75) (mkF m 397 #[iv p0, iv p1, iv p2, iv b0, iv b1, iv b2, iv b3, iv c0, iv c1, iv c2, iv c3, iv cx, iv 0, iv sh, iv d14, rv b19, rv b51, iv 4, iv 0, .unset] [(.ref b75), (.ref b75)]) (fun _ k => XS.dup X75.here hx rfl (hb hby at_396) rfl rfl k) ?_
                obtain ⟨aU, T76, h76, k1, X76, e76, E76, hS, hk2, hZ, hown, st76⟩ := ldcS (s := s) (vm0 := s.vm) X75 hx hZ hown (hw _ (List.mem_of_getElem? (i := 33) rfl)) hwsS e75 hS hk1 (g := (mkF m 397 #[iv p0, iv p1, iv p2, iv b0, iv b1, iv b2, iv b3, iv c0, iv c1, iv c2, iv c3, iv cx, iv 0, iv sh, iv d14, rv b19, rv b51, iv 4, iv 0, .unset] [(.ref b75), (.ref b75)])) rfl (hb hby at_397) (n := 4) (by decide) (by decide) (by decide) (by decide)
                have OL := OL.ext E76
                have KP := KP.ext E76
                have V_b20 := V_b20.ext E76
                have S_br := S_br.ext E76
                have V_b52 := V_b52.ext E76
                have S_co := S_co.ext E76
                have E_b75 := E_b75.ext E76
                have F_username_b75 := F_username_b75.ext E76
                have F_branch_b75 := F_branch_b75.ext E76
                have F_crossBranch_b75 := F_crossBranch_b75.ext E76
                have hk1 := hk2
                refine own_to (mkF m 399 #[iv p0, iv p1, iv p2, iv b0, iv b1, iv b2, iv b3, iv c0, iv c1, iv c2, iv c3, iv cx, iv 0, iv sh, iv d14, rv b19, rv b51, iv 4, iv 0, .unset] [(.ref aU), (.ref b75), (.ref b75)]) st76 ?_
                refine own_to (T' := T76) (mkF m 401 #[iv p0, iv p1, iv p2, iv b0, iv b1, iv b2, iv b3, iv c0, iv c1, iv c2, iv c3, iv cx, iv 0, iv sh, iv d14, rv b19, rv b51, iv 4, iv 0, .unset] [(.ref b19), (.ref aU), (.ref b75), (.ref b75)]) (fun _ k => XS.aload X76.here hx rfl (hb hby at_399) rfl rfl k) ?_
                refine own_to (T' := T76) (mkF m 403 #[iv p0, iv p1, iv p2, iv b0, iv b1, iv b2, iv b3, iv c0, iv c1, iv c2, iv c3, iv cx, iv 0, iv sh, iv d14, rv b19, rv b51, iv 4, iv 0, .unset] [(.int d14), (.ref b19), (.ref aU), (.ref b75), (.ref b75)]) (fun _ k => XS.iload X76.here hx rfl (hb hby at_401) rfl k) ?_
                obtain ⟨_, _, ⟨T77, L77, k77, n77⟩, -, X77, ⟨Lc77, hQ77, l77, y77, z77⟩, st77⟩ := X76.specialBack hx (y := (⟨"com/example/saldera/saldera/coupon/Cashier", "<init>", "(Ljava/lang/String;Ljava/lang/String;Z)V"⟩ : MethodName)) rfl hown (mvT hZ (hw _ (List.mem_of_getElem? (i := 36) rfl))) (mvT hZ (hw _ (List.mem_of_getElem? (i := 37) rfl))) (mvT hZ (hw _ (List.mem_of_getElem? (i := 38) rfl))) (by decide) (backOf (W := 1) (own_rmCB l Z a0 hw [] b75 aU b19 d14 h76 n0 (Nat.le_trans Z0 KP.1) OL E_b75 ge_b75 F_username_b75 F_branch_b75 F_crossBranch_b75) hZ (hw _ (List.mem_of_getElem? (i := 38) rfl)) (hw _ (List.mem_of_getElem? (i := 32) rfl)) (by decide) (by decide)) (g := (mkF m 403 #[iv p0, iv p1, iv p2, iv b0, iv b1, iv b2, iv b3, iv c0, iv c1, iv c2, iv c3, iv cx, iv 0, iv sh, iv d14, rv b19, rv b51, iv 4, iv 0, .unset] [(.int d14), (.ref b19), (.ref aU), (.ref b75), (.ref b75)])) rfl (by rw [hml]; rfl) (Steps.refl _) (a := b75) (argsL := [(.ref aU), (.ref b19), (.int d14)]) (rest := [(.ref b75)]) (lenOf own_pd2 rfl) rfl (by show 2 * 0 + _ ≤ _; exact Nat.le_of_eq rfl) (hb hby at_403) (fun _ _ => ⟨rfl, e76, (by decide : 9 + 0 ≤ _), (by decide : 35 + 0 ≤ _)⟩)
                dsimp only [Pt.U, Pt.locs, Pt.cells, Pt.slots] at X77 l77 y77 z77 st77 hQ77
                subst l77 y77 z77
                obtain ⟨rfl, N77q, K77, Ea77, Fb77, Fx77⟩ := hQ77
                have N77 := Fr.app N58 N77q
                have OL := OL.keep K77 (allS ge_b75 all0)
                have KP := KP.trans K77 (allS (Or.inr sz_b75) all0)
                have hk1 := Nat.le_trans hk1 K77.1
                have V_b20 := V_b20.keep K77 (ninS ne_b20_b75 nin0)
                have S_br := S_br.keep K77 (ninS ne_b19_b75 nin0) (ninS ne_t_br_b75 nin0)
                have V_b52 := V_b52.keep K77 (ninS ne_b52_b75 nin0)
                have S_co := S_co.keep K77 (ninS ne_b51_b75 nin0) (ninS ne_t_co_b75 nin0)
                have E_b75 := E_b75.keep K77
                refine own_via (mkF m 406 #[iv p0, iv p1, iv p2, iv b0, iv b1, iv b2, iv b3, iv c0, iv c1, iv c2, iv c3, iv cx, iv 0, iv sh, iv d14, rv b19, rv b51, iv 4, iv 0, .unset] [(.ref b75)]) st77 ?_
                have EC : Exa Z T77.heap b75 "com/example/saldera/saldera/coupon/Cashier" := Ea77
                have FB : Fld Z T77.heap b75 "com/example/saldera/saldera/coupon/Cashier" "branch" "Ljava/lang/String;" (.ref b19) := Fb77
                refine own_to (T' := T77) (mkF m 408 #[iv p0, iv p1, iv p2, iv b0, iv b1, iv b2, iv b3, iv c0, iv c1, iv c2, iv c3, iv cx, iv 0, iv sh, iv d14, rv b19, rv b51, iv 4, iv 0, rv b75] []) (fun _ k => XS.astore X77.here hx rfl (hb hby at_406) rfl rfl (l' := #[iv p0, iv p1, iv p2, iv b0, iv b1, iv b2, iv b3, iv c0, iv c1, iv c2, iv c3, iv cx, iv 0, iv sh, iv d14, rv b19, rv b51, iv 4, iv 0, rv b75]) rfl k) ?_
                refine own_to (T' := T77) (mkF m 410 #[iv p0, iv p1, iv p2, iv b0, iv b1, iv b2, iv b3, iv c0, iv c1, iv c2, iv c3, iv cx, iv 0, iv sh, iv d14, rv b19, rv b51, iv 4, iv 0, rv b75] [(.ref b75)]) (fun _ k => XS.aload X77.here hx rfl (hb hby at_408) rfl rfl k) ?_
                refine own_to (T' := T77) (mkF m 412 #[iv p0, iv p1, iv p2, iv b0, iv b1, iv b2, iv b3, iv c0, iv c1, iv c2, iv c3, iv cx, iv 0, iv sh, iv d14, rv b19, rv b51, iv 4, iv 0, rv b75] [(.ref b51), (.ref b75)]) (fun _ k => XS.aload X77.here hx rfl (hb hby at_410) rfl rfl k) ?_
                obtain ⟨cq78, kq78, q78a, q78b, q78c⟩ := isOf hZ rfl EC
                obtain ⟨_, _, ⟨T78, L78, k78, n78⟩, -, X78, ⟨Lc78, hQ78, l78, y78, z78⟩, st78⟩ := X77.virtualBack hx (y := (⟨"com/example/saldera/saldera/coupon/Cashier", "isOtherBranch", "(Ljava/lang/String;)Z"⟩ : MethodName)) (z := (⟨"com/example/saldera/saldera/coupon/Cashier", "isOtherBranch", "(Ljava/lang/String;)Z"⟩ : MethodName)) hown (mvT hZ (hw _ (List.mem_of_getElem? (i := 46) rfl))) (mvT hZ (hw _ (List.mem_of_getElem? (i := 47) rfl))) (notFace_of_selects (args := #[]) (mvT hZ (hw _ (List.mem_of_getElem? (i := 49) rfl)))) (mvT hZ (hw _ (List.mem_of_getElem? (i := 49) rfl))) (mvT hZ (hw _ (List.mem_of_getElem? (i := 48) rfl))) (by decide) (backOf (W := 0) (own_rmOB l Z a0 hw [] G1 b75 b51 t_co kb_co ([c0, c1, c2, c3] : List Int32) b19 t_br kb_br ([b0, b1, b2, b3] : List Int32) T77.heap n0 (Nat.le_trans Z0 KP.1) OL FB S_co S_br O2 P5) hZ (hw _ (List.mem_of_getElem? (i := 50) rfl)) (hw _ (List.mem_of_getElem? (i := 32) rfl)) (by decide) (by decide)) q78a q78c (g := (mkF m 412 #[iv p0, iv p1, iv p2, iv b0, iv b1, iv b2, iv b3, iv c0, iv c1, iv c2, iv c3, iv cx, iv 0, iv sh, iv d14, rv b19, rv b51, iv 4, iv 0, rv b75] [(.ref b51), (.ref b75)])) rfl (by rw [hml]; rfl) (Steps.refl _) (argsL := [(.ref b51)]) (rest := []) (lenOf own_pd3 rfl) rfl (by show 2 * 0 + _ ≤ _; exact Nat.le_of_eq rfl) (hb hby at_412) (fun _ _ => ⟨rfl, rfl, (by decide : 9 + 0 ≤ _), (by decide : 35 + 0 ≤ _)⟩)
                dsimp only [Pt.U, Pt.locs, Pt.cells, Pt.slots] at X78 l78 y78 z78 st78 hQ78
                subst l78 y78 z78
                obtain ⟨r78, rfl, h078, h178, N78q, e78⟩ := hQ78
                have N78 := Fr.app N77 N78q
                refine own_via (mkF m 415 #[iv p0, iv p1, iv p2, iv b0, iv b1, iv b2, iv b3, iv c0, iv c1, iv c2, iv c3, iv cx, iv 0, iv sh, iv d14, rv b19, rv b51, iv 4, iv 0, rv b75] [(.int r78)]) st78 ?_
                have hr78 : r78 = (0 : Int32) := h078 (by rw [hq0, hq1, hq2, hq3])
                subst hr78
                refine own_to (T' := T78) (mkF m 417 #[iv p0, iv p1, iv p2, iv b0, iv b1, iv b2, iv b3, iv c0, iv c1, iv c2, iv c3, iv cx, iv 0, iv sh, iv d14, rv b19, rv b51, iv 4, iv 0, rv b75] [(.int (0 : Int32)), (.int (0 : Int32))]) (fun _ k => XS.iload X78.here hx rfl (hb hby at_415) rfl k) ?_
                refine own_to (T' := T78) (mkF m 420 #[iv p0, iv p1, iv p2, iv b0, iv b1, iv b2, iv b3, iv c0, iv c1, iv c2, iv c3, iv cx, iv 0, iv sh, iv d14, rv b19, rv b51, iv 4, iv 0, rv b75] []) (fun _ k => XS.icmpNo X78.here hx rfl (hb hby at_417) rfl (teq (by decide : (0 : Int32) = (0 : Int32))).2 k) ?_
                refine own_to (T' := T78) (mkF m 421 #[iv p0, iv p1, iv p2, iv b0, iv b1, iv b2, iv b3, iv c0, iv c1, iv c2, iv c3, iv cx, iv 0, iv sh, iv d14, rv b19, rv b51, iv 4, iv 0, rv b75] [(.int (1 : Int32))]) (fun _ k => XS.iconst X78.here hx rfl (hb hby at_420) k) ?_
                refine own_to (T' := T78) (mkF m 425 #[iv p0, iv p1, iv p2, iv b0, iv b1, iv b2, iv b3, iv c0, iv c1, iv c2, iv c3, iv cx, iv 0, iv sh, iv d14, rv b19, rv b51, iv 4, iv 0, rv b75] [(.int (1 : Int32))]) (fun _ k => XS.goto X78.here hx rfl (pc0 := 421) (pc' := 425) rfl (hb hby at_421) (by decide) (by decide) k) ?_
                exact own_retNW (s := s) (vm₁ := T76.vm) X78 hS (by rw [e78]; exact hk1) hx (t := .boolean) Bd.returns (by simp) hlk (hb hby at_425) (by decide) (by decide) (by rw [e78]; exact ⟨rfl, N78⟩)
              · refine own_to (T' := T58) (mkF m 386 #[iv p0, iv p1, iv p2, iv b0, iv b1, iv b2, iv b3, iv c0, iv c1, iv c2, iv c3, iv cx, iv 0, iv sh, iv d14, rv b19, rv b51, iv 4, .unset, .unset] []) (fun _ k => XS.icmpNo X58.here hx rfl (hb hby at_383) rfl (feq hq3).1 k) ?_
                refine own_to (T' := T58) (mkF m 387 #[iv p0, iv p1, iv p2, iv b0, iv b1, iv b2, iv b3, iv c0, iv c1, iv c2, iv c3, iv cx, iv 0, iv sh, iv d14, rv b19, rv b51, iv 4, .unset, .unset] [(.int (1 : Int32))]) (fun _ k => XS.iconst X58.here hx rfl (hb hby at_386) k) ?_
                refine own_to (T' := T58) (mkF m 391 #[iv p0, iv p1, iv p2, iv b0, iv b1, iv b2, iv b3, iv c0, iv c1, iv c2, iv c3, iv cx, iv 0, iv sh, iv d14, rv b19, rv b51, iv 4, .unset, .unset] [(.int (1 : Int32))]) (fun _ k => XS.goto X58.here hx rfl (pc0 := 387) (pc' := 391) rfl (hb hby at_387) (by decide) (by decide) k) ?_
                refine own_to (T' := T58) (mkF m 393 #[iv p0, iv p1, iv p2, iv b0, iv b1, iv b2, iv b3, iv c0, iv c1, iv c2, iv c3, iv cx, iv 0, iv sh, iv d14, rv b19, rv b51, iv 4, iv 1, .unset] []) (fun _ k => XS.istore X58.here hx rfl (hb hby at_391) rfl (l' := #[iv p0, iv p1, iv p2, iv b0, iv b1, iv b2, iv b3, iv c0, iv c1, iv c2, iv c3, iv cx, iv 0, iv sh, iv d14, rv b19, rv b51, iv 4, iv 1, .unset]) rfl k) ?_
                obtain ⟨T71, h71, X71, e71, E71, A71, D71, -, st71⟩ := newO X58 hx hZ hown (hw _ (List.mem_of_getElem? (i := 30) rfl)) (hw _ (List.mem_of_getElem? (i := 31) rfl)) (hw _ (List.mem_of_getElem? (i := 32) rfl)) rfl (g := (mkF m 393 #[iv p0, iv p1, iv p2, iv b0, iv b1, iv b2, iv b3, iv c0, iv c1, iv c2, iv c3, iv cx, iv 0, iv sh, iv d14, rv b19, rv b51, iv 4, iv 1, .unset] [])) rfl (hb hby at_393) (by decide) (by decide)
                obtain ⟨b71, g71⟩ : ∃ z, z = T58.heap.size := ⟨_, rfl⟩
                rw [← g71] at A71 D71 st71
                have sz_b71 : h0.size ≤ b71 := Nat.le_trans KP.1 (Nat.le_of_eq g71.symm)
                have ge_b71 : n0 ≤ b71 := Nat.le_trans Z0 sz_b71
                have ne_b20_b71 : b20 ≠ b71 := Nat.ne_of_lt (Nat.lt_of_lt_of_le V_b20.lt (Nat.le_of_eq g71.symm))
                have ne_b19_b71 : b19 ≠ b71 := Nat.ne_of_lt (Nat.lt_of_lt_of_le S_br.lt (Nat.le_of_eq g71.symm))
                have ne_t_br_b71 : t_br ≠ b71 := Nat.ne_of_lt (Nat.lt_of_lt_of_le S_br.ltT (Nat.le_of_eq g71.symm))
                have ne_b52_b71 : b52 ≠ b71 := Nat.ne_of_lt (Nat.lt_of_lt_of_le V_b52.lt (Nat.le_of_eq g71.symm))
                have ne_b51_b71 : b51 ≠ b71 := Nat.ne_of_lt (Nat.lt_of_lt_of_le S_co.lt (Nat.le_of_eq g71.symm))
                have ne_t_co_b71 : t_co ≠ b71 := Nat.ne_of_lt (Nat.lt_of_lt_of_le S_co.ltT (Nat.le_of_eq g71.symm))
                have OL := OL.ext E71
                have KP := KP.ext E71
                have hk1 := Nat.le_trans hk1 E71.1
                have V_b20 := V_b20.ext E71
                have S_br := S_br.ext E71
                have V_b52 := V_b52.ext E71
                have S_co := S_co.ext E71
                have E_b71 : Exa Z h71 b71 "com/example/saldera/saldera/coupon/Cashier" := A71
                have F_username_b71 : Fld Z h71 b71 "com/example/saldera/saldera/coupon/Cashier" "username" "Ljava/lang/String;" .null := D71 (Or.inr (hw _ (List.mem_of_getElem? (i := 41) rfl))) (ty := (.object "java/lang/String")) (by decide)
                have F_branch_b71 : Fld Z h71 b71 "com/example/saldera/saldera/coupon/Cashier" "branch" "Ljava/lang/String;" .null := D71 (Or.inr (hw _ (List.mem_of_getElem? (i := 43) rfl))) (ty := (.object "java/lang/String")) (by decide)
                have F_crossBranch_b71 : Fld Z h71 b71 "com/example/saldera/saldera/coupon/Cashier" "crossBranch" "Z" (.int (0 : Int32)) := D71 (Or.inr (hw _ (List.mem_of_getElem? (i := 45) rfl))) (ty := .boolean) (by decide)
                refine own_to (mkF m 396 #[iv p0, iv p1, iv p2, iv b0, iv b1, iv b2, iv b3, iv c0, iv c1, iv c2, iv c3, iv cx, iv 0, iv sh, iv d14, rv b19, rv b51, iv 4, iv 1, .unset] [(.ref b71)]) st71 ?_
                refine own_to (T' := T71) (mkF m 397 #[iv p0, iv p1, iv p2, iv b0, iv b1, iv b2, iv b3, iv c0, iv c1, iv c2, iv c3, iv cx, iv 0, iv sh, iv d14, rv b19, rv b51, iv 4, iv 1, .unset] [(.ref b71), (.ref b71)]) (fun _ k => XS.dup X71.here hx rfl (hb hby at_396) rfl rfl k) ?_
                obtain ⟨aU, T72, h72, k1, X72, e72, E72, hS, hk2, hZ, hown, st72⟩ := ldcS (s := s) (vm0 := s.vm) X71 hx hZ hown (hw _ (List.mem_of_getElem? (i := 33) rfl)) hwsS e71 hS hk1 (g := (mkF m 397 #[iv p0, iv p1, iv p2, iv b0, iv b1, iv b2, iv b3, iv c0, iv c1, iv c2, iv c3, iv cx, iv 0, iv sh, iv d14, rv b19, rv b51, iv 4, iv 1, .unset] [(.ref b71), (.ref b71)])) rfl (hb hby at_397) (n := 4) (by decide) (by decide) (by decide) (by decide)
                have OL := OL.ext E72
                have KP := KP.ext E72
                have V_b20 := V_b20.ext E72
                have S_br := S_br.ext E72
                have V_b52 := V_b52.ext E72
                have S_co := S_co.ext E72
                have E_b71 := E_b71.ext E72
                have F_username_b71 := F_username_b71.ext E72
                have F_branch_b71 := F_branch_b71.ext E72
                have F_crossBranch_b71 := F_crossBranch_b71.ext E72
                have hk1 := hk2
                refine own_to (mkF m 399 #[iv p0, iv p1, iv p2, iv b0, iv b1, iv b2, iv b3, iv c0, iv c1, iv c2, iv c3, iv cx, iv 0, iv sh, iv d14, rv b19, rv b51, iv 4, iv 1, .unset] [(.ref aU), (.ref b71), (.ref b71)]) st72 ?_
                refine own_to (T' := T72) (mkF m 401 #[iv p0, iv p1, iv p2, iv b0, iv b1, iv b2, iv b3, iv c0, iv c1, iv c2, iv c3, iv cx, iv 0, iv sh, iv d14, rv b19, rv b51, iv 4, iv 1, .unset] [(.ref b19), (.ref aU), (.ref b71), (.ref b71)]) (fun _ k => XS.aload X72.here hx rfl (hb hby at_399) rfl rfl k) ?_
                refine own_to (T' := T72) (mkF m 403 #[iv p0, iv p1, iv p2, iv b0, iv b1, iv b2, iv b3, iv c0, iv c1, iv c2, iv c3, iv cx, iv 0, iv sh, iv d14, rv b19, rv b51, iv 4, iv 1, .unset] [(.int d14), (.ref b19), (.ref aU), (.ref b71), (.ref b71)]) (fun _ k => XS.iload X72.here hx rfl (hb hby at_401) rfl k) ?_
                obtain ⟨_, _, ⟨T73, L73, k73, n73⟩, -, X73, ⟨Lc73, hQ73, l73, y73, z73⟩, st73⟩ := X72.specialBack hx (y := (⟨"com/example/saldera/saldera/coupon/Cashier", "<init>", "(Ljava/lang/String;Ljava/lang/String;Z)V"⟩ : MethodName)) rfl hown (mvT hZ (hw _ (List.mem_of_getElem? (i := 36) rfl))) (mvT hZ (hw _ (List.mem_of_getElem? (i := 37) rfl))) (mvT hZ (hw _ (List.mem_of_getElem? (i := 38) rfl))) (by decide) (backOf (W := 1) (own_rmCB l Z a0 hw [] b71 aU b19 d14 h72 n0 (Nat.le_trans Z0 KP.1) OL E_b71 ge_b71 F_username_b71 F_branch_b71 F_crossBranch_b71) hZ (hw _ (List.mem_of_getElem? (i := 38) rfl)) (hw _ (List.mem_of_getElem? (i := 32) rfl)) (by decide) (by decide)) (g := (mkF m 403 #[iv p0, iv p1, iv p2, iv b0, iv b1, iv b2, iv b3, iv c0, iv c1, iv c2, iv c3, iv cx, iv 0, iv sh, iv d14, rv b19, rv b51, iv 4, iv 1, .unset] [(.int d14), (.ref b19), (.ref aU), (.ref b71), (.ref b71)])) rfl (by rw [hml]; rfl) (Steps.refl _) (a := b71) (argsL := [(.ref aU), (.ref b19), (.int d14)]) (rest := [(.ref b71)]) (lenOf own_pd2 rfl) rfl (by show 2 * 0 + _ ≤ _; exact Nat.le_of_eq rfl) (hb hby at_403) (fun _ _ => ⟨rfl, e72, (by decide : 9 + 0 ≤ _), (by decide : 35 + 0 ≤ _)⟩)
                dsimp only [Pt.U, Pt.locs, Pt.cells, Pt.slots] at X73 l73 y73 z73 st73 hQ73
                subst l73 y73 z73
                obtain ⟨rfl, N73q, K73, Ea73, Fb73, Fx73⟩ := hQ73
                have N73 := Fr.app N58 N73q
                have OL := OL.keep K73 (allS ge_b71 all0)
                have KP := KP.trans K73 (allS (Or.inr sz_b71) all0)
                have hk1 := Nat.le_trans hk1 K73.1
                have V_b20 := V_b20.keep K73 (ninS ne_b20_b71 nin0)
                have S_br := S_br.keep K73 (ninS ne_b19_b71 nin0) (ninS ne_t_br_b71 nin0)
                have V_b52 := V_b52.keep K73 (ninS ne_b52_b71 nin0)
                have S_co := S_co.keep K73 (ninS ne_b51_b71 nin0) (ninS ne_t_co_b71 nin0)
                have E_b71 := E_b71.keep K73
                refine own_via (mkF m 406 #[iv p0, iv p1, iv p2, iv b0, iv b1, iv b2, iv b3, iv c0, iv c1, iv c2, iv c3, iv cx, iv 0, iv sh, iv d14, rv b19, rv b51, iv 4, iv 1, .unset] [(.ref b71)]) st73 ?_
                have EC : Exa Z T73.heap b71 "com/example/saldera/saldera/coupon/Cashier" := Ea73
                have FB : Fld Z T73.heap b71 "com/example/saldera/saldera/coupon/Cashier" "branch" "Ljava/lang/String;" (.ref b19) := Fb73
                refine own_to (T' := T73) (mkF m 408 #[iv p0, iv p1, iv p2, iv b0, iv b1, iv b2, iv b3, iv c0, iv c1, iv c2, iv c3, iv cx, iv 0, iv sh, iv d14, rv b19, rv b51, iv 4, iv 1, rv b71] []) (fun _ k => XS.astore X73.here hx rfl (hb hby at_406) rfl rfl (l' := #[iv p0, iv p1, iv p2, iv b0, iv b1, iv b2, iv b3, iv c0, iv c1, iv c2, iv c3, iv cx, iv 0, iv sh, iv d14, rv b19, rv b51, iv 4, iv 1, rv b71]) rfl k) ?_
                refine own_to (T' := T73) (mkF m 410 #[iv p0, iv p1, iv p2, iv b0, iv b1, iv b2, iv b3, iv c0, iv c1, iv c2, iv c3, iv cx, iv 0, iv sh, iv d14, rv b19, rv b51, iv 4, iv 1, rv b71] [(.ref b71)]) (fun _ k => XS.aload X73.here hx rfl (hb hby at_408) rfl rfl k) ?_
                refine own_to (T' := T73) (mkF m 412 #[iv p0, iv p1, iv p2, iv b0, iv b1, iv b2, iv b3, iv c0, iv c1, iv c2, iv c3, iv cx, iv 0, iv sh, iv d14, rv b19, rv b51, iv 4, iv 1, rv b71] [(.ref b51), (.ref b71)]) (fun _ k => XS.aload X73.here hx rfl (hb hby at_410) rfl rfl k) ?_
                obtain ⟨cq74, kq74, q74a, q74b, q74c⟩ := isOf hZ rfl EC
                obtain ⟨_, _, ⟨T74, L74, k74, n74⟩, -, X74, ⟨Lc74, hQ74, l74, y74, z74⟩, st74⟩ := X73.virtualBack hx (y := (⟨"com/example/saldera/saldera/coupon/Cashier", "isOtherBranch", "(Ljava/lang/String;)Z"⟩ : MethodName)) (z := (⟨"com/example/saldera/saldera/coupon/Cashier", "isOtherBranch", "(Ljava/lang/String;)Z"⟩ : MethodName)) hown (mvT hZ (hw _ (List.mem_of_getElem? (i := 46) rfl))) (mvT hZ (hw _ (List.mem_of_getElem? (i := 47) rfl))) (notFace_of_selects (args := #[]) (mvT hZ (hw _ (List.mem_of_getElem? (i := 49) rfl)))) (mvT hZ (hw _ (List.mem_of_getElem? (i := 49) rfl))) (mvT hZ (hw _ (List.mem_of_getElem? (i := 48) rfl))) (by decide) (backOf (W := 0) (own_rmOB l Z a0 hw [] G1 b71 b51 t_co kb_co ([c0, c1, c2, c3] : List Int32) b19 t_br kb_br ([b0, b1, b2, b3] : List Int32) T73.heap n0 (Nat.le_trans Z0 KP.1) OL FB S_co S_br O2 P5) hZ (hw _ (List.mem_of_getElem? (i := 50) rfl)) (hw _ (List.mem_of_getElem? (i := 32) rfl)) (by decide) (by decide)) q74a q74c (g := (mkF m 412 #[iv p0, iv p1, iv p2, iv b0, iv b1, iv b2, iv b3, iv c0, iv c1, iv c2, iv c3, iv cx, iv 0, iv sh, iv d14, rv b19, rv b51, iv 4, iv 1, rv b71] [(.ref b51), (.ref b71)])) rfl (by rw [hml]; rfl) (Steps.refl _) (argsL := [(.ref b51)]) (rest := []) (lenOf own_pd3 rfl) rfl (by show 2 * 0 + _ ≤ _; exact Nat.le_of_eq rfl) (hb hby at_412) (fun _ _ => ⟨rfl, rfl, (by decide : 9 + 0 ≤ _), (by decide : 35 + 0 ≤ _)⟩)
                dsimp only [Pt.U, Pt.locs, Pt.cells, Pt.slots] at X74 l74 y74 z74 st74 hQ74
                subst l74 y74 z74
                obtain ⟨r74, rfl, h074, h174, N74q, e74⟩ := hQ74
                have N74 := Fr.app N73 N74q
                refine own_via (mkF m 415 #[iv p0, iv p1, iv p2, iv b0, iv b1, iv b2, iv b3, iv c0, iv c1, iv c2, iv c3, iv cx, iv 0, iv sh, iv d14, rv b19, rv b51, iv 4, iv 1, rv b71] [(.int r74)]) st74 ?_
                have hr74 : r74 = (1 : Int32) := h174 (fun q => hq3 (List.cons.inj (List.cons.inj (List.cons.inj (List.cons.inj q).2).2).2).1)
                subst hr74
                refine own_to (T' := T74) (mkF m 417 #[iv p0, iv p1, iv p2, iv b0, iv b1, iv b2, iv b3, iv c0, iv c1, iv c2, iv c3, iv cx, iv 0, iv sh, iv d14, rv b19, rv b51, iv 4, iv 1, rv b71] [(.int (1 : Int32)), (.int (1 : Int32))]) (fun _ k => XS.iload X74.here hx rfl (hb hby at_415) rfl k) ?_
                refine own_to (T' := T74) (mkF m 420 #[iv p0, iv p1, iv p2, iv b0, iv b1, iv b2, iv b3, iv c0, iv c1, iv c2, iv c3, iv cx, iv 0, iv sh, iv d14, rv b19, rv b51, iv 4, iv 1, rv b71] []) (fun _ k => XS.icmpNo X74.here hx rfl (hb hby at_417) rfl (teq (by decide : (1 : Int32) = (1 : Int32))).2 k) ?_
                refine own_to (T' := T74) (mkF m 421 #[iv p0, iv p1, iv p2, iv b0, iv b1, iv b2, iv b3, iv c0, iv c1, iv c2, iv c3, iv cx, iv 0, iv sh, iv d14, rv b19, rv b51, iv 4, iv 1, rv b71] [(.int (1 : Int32))]) (fun _ k => XS.iconst X74.here hx rfl (hb hby at_420) k) ?_
                refine own_to (T' := T74) (mkF m 425 #[iv p0, iv p1, iv p2, iv b0, iv b1, iv b2, iv b3, iv c0, iv c1, iv c2, iv c3, iv cx, iv 0, iv sh, iv d14, rv b19, rv b51, iv 4, iv 1, rv b71] [(.int (1 : Int32))]) (fun _ k => XS.goto X74.here hx rfl (pc0 := 421) (pc' := 425) rfl (hb hby at_421) (by decide) (by decide) k) ?_
                exact own_retNW (s := s) (vm₁ := T72.vm) X74 hS (by rw [e74]; exact hk1) hx (t := .boolean) Bd.returns (by simp) hlk (hb hby at_425) (by decide) (by decide) (by rw [e74]; exact ⟨rfl, N74⟩)
            · refine own_to (T' := T58) (mkF m 386 #[iv p0, iv p1, iv p2, iv b0, iv b1, iv b2, iv b3, iv c0, iv c1, iv c2, iv c3, iv cx, iv 0, iv sh, iv d14, rv b19, rv b51, iv 4, .unset, .unset] []) (fun _ k => XS.icmpYes X58.here hx rfl (pc0 := 376) (pc' := 386) rfl (hb hby at_376) rfl (feq hq2).2 (by decide) (by decide) k) ?_
              refine own_to (T' := T58) (mkF m 387 #[iv p0, iv p1, iv p2, iv b0, iv b1, iv b2, iv b3, iv c0, iv c1, iv c2, iv c3, iv cx, iv 0, iv sh, iv d14, rv b19, rv b51, iv 4, .unset, .unset] [(.int (1 : Int32))]) (fun _ k => XS.iconst X58.here hx rfl (hb hby at_386) k) ?_
              refine own_to (T' := T58) (mkF m 391 #[iv p0, iv p1, iv p2, iv b0, iv b1, iv b2, iv b3, iv c0, iv c1, iv c2, iv c3, iv cx, iv 0, iv sh, iv d14, rv b19, rv b51, iv 4, .unset, .unset] [(.int (1 : Int32))]) (fun _ k => XS.goto X58.here hx rfl (pc0 := 387) (pc' := 391) rfl (hb hby at_387) (by decide) (by decide) k) ?_
              refine own_to (T' := T58) (mkF m 393 #[iv p0, iv p1, iv p2, iv b0, iv b1, iv b2, iv b3, iv c0, iv c1, iv c2, iv c3, iv cx, iv 0, iv sh, iv d14, rv b19, rv b51, iv 4, iv 1, .unset] []) (fun _ k => XS.istore X58.here hx rfl (hb hby at_391) rfl (l' := #[iv p0, iv p1, iv p2, iv b0, iv b1, iv b2, iv b3, iv c0, iv c1, iv c2, iv c3, iv cx, iv 0, iv sh, iv d14, rv b19, rv b51, iv 4, iv 1, .unset]) rfl k) ?_
              obtain ⟨T67, h67, X67, e67, E67, A67, D67, -, st67⟩ := newO X58 hx hZ hown (hw _ (List.mem_of_getElem? (i := 30) rfl)) (hw _ (List.mem_of_getElem? (i := 31) rfl)) (hw _ (List.mem_of_getElem? (i := 32) rfl)) rfl (g := (mkF m 393 #[iv p0, iv p1, iv p2, iv b0, iv b1, iv b2, iv b3, iv c0, iv c1, iv c2, iv c3, iv cx, iv 0, iv sh, iv d14, rv b19, rv b51, iv 4, iv 1, .unset] [])) rfl (hb hby at_393) (by decide) (by decide)
              obtain ⟨b67, g67⟩ : ∃ z, z = T58.heap.size := ⟨_, rfl⟩
              rw [← g67] at A67 D67 st67
              have sz_b67 : h0.size ≤ b67 := Nat.le_trans KP.1 (Nat.le_of_eq g67.symm)
              have ge_b67 : n0 ≤ b67 := Nat.le_trans Z0 sz_b67
              have ne_b20_b67 : b20 ≠ b67 := Nat.ne_of_lt (Nat.lt_of_lt_of_le V_b20.lt (Nat.le_of_eq g67.symm))
              have ne_b19_b67 : b19 ≠ b67 := Nat.ne_of_lt (Nat.lt_of_lt_of_le S_br.lt (Nat.le_of_eq g67.symm))
              have ne_t_br_b67 : t_br ≠ b67 := Nat.ne_of_lt (Nat.lt_of_lt_of_le S_br.ltT (Nat.le_of_eq g67.symm))
              have ne_b52_b67 : b52 ≠ b67 := Nat.ne_of_lt (Nat.lt_of_lt_of_le V_b52.lt (Nat.le_of_eq g67.symm))
              have ne_b51_b67 : b51 ≠ b67 := Nat.ne_of_lt (Nat.lt_of_lt_of_le S_co.lt (Nat.le_of_eq g67.symm))
              have ne_t_co_b67 : t_co ≠ b67 := Nat.ne_of_lt (Nat.lt_of_lt_of_le S_co.ltT (Nat.le_of_eq g67.symm))
              have OL := OL.ext E67
              have KP := KP.ext E67
              have hk1 := Nat.le_trans hk1 E67.1
              have V_b20 := V_b20.ext E67
              have S_br := S_br.ext E67
              have V_b52 := V_b52.ext E67
              have S_co := S_co.ext E67
              have E_b67 : Exa Z h67 b67 "com/example/saldera/saldera/coupon/Cashier" := A67
              have F_username_b67 : Fld Z h67 b67 "com/example/saldera/saldera/coupon/Cashier" "username" "Ljava/lang/String;" .null := D67 (Or.inr (hw _ (List.mem_of_getElem? (i := 41) rfl))) (ty := (.object "java/lang/String")) (by decide)
              have F_branch_b67 : Fld Z h67 b67 "com/example/saldera/saldera/coupon/Cashier" "branch" "Ljava/lang/String;" .null := D67 (Or.inr (hw _ (List.mem_of_getElem? (i := 43) rfl))) (ty := (.object "java/lang/String")) (by decide)
              have F_crossBranch_b67 : Fld Z h67 b67 "com/example/saldera/saldera/coupon/Cashier" "crossBranch" "Z" (.int (0 : Int32)) := D67 (Or.inr (hw _ (List.mem_of_getElem? (i := 45) rfl))) (ty := .boolean) (by decide)
              refine own_to (mkF m 396 #[iv p0, iv p1, iv p2, iv b0, iv b1, iv b2, iv b3, iv c0, iv c1, iv c2, iv c3, iv cx, iv 0, iv sh, iv d14, rv b19, rv b51, iv 4, iv 1, .unset] [(.ref b67)]) st67 ?_
              refine own_to (T' := T67) (mkF m 397 #[iv p0, iv p1, iv p2, iv b0, iv b1, iv b2, iv b3, iv c0, iv c1, iv c2, iv c3, iv cx, iv 0, iv sh, iv d14, rv b19, rv b51, iv 4, iv 1, .unset] [(.ref b67), (.ref b67)]) (fun _ k => XS.dup X67.here hx rfl (hb hby at_396) rfl rfl k) ?_
              obtain ⟨aU, T68, h68, k1, X68, e68, E68, hS, hk2, hZ, hown, st68⟩ := ldcS (s := s) (vm0 := s.vm) X67 hx hZ hown (hw _ (List.mem_of_getElem? (i := 33) rfl)) hwsS e67 hS hk1 (g := (mkF m 397 #[iv p0, iv p1, iv p2, iv b0, iv b1, iv b2, iv b3, iv c0, iv c1, iv c2, iv c3, iv cx, iv 0, iv sh, iv d14, rv b19, rv b51, iv 4, iv 1, .unset] [(.ref b67), (.ref b67)])) rfl (hb hby at_397) (n := 4) (by decide) (by decide) (by decide) (by decide)
              have OL := OL.ext E68
              have KP := KP.ext E68
              have V_b20 := V_b20.ext E68
              have S_br := S_br.ext E68
              have V_b52 := V_b52.ext E68
              have S_co := S_co.ext E68
              have E_b67 := E_b67.ext E68
              have F_username_b67 := F_username_b67.ext E68
              have F_branch_b67 := F_branch_b67.ext E68
              have F_crossBranch_b67 := F_crossBranch_b67.ext E68
              have hk1 := hk2
              refine own_to (mkF m 399 #[iv p0, iv p1, iv p2, iv b0, iv b1, iv b2, iv b3, iv c0, iv c1, iv c2, iv c3, iv cx, iv 0, iv sh, iv d14, rv b19, rv b51, iv 4, iv 1, .unset] [(.ref aU), (.ref b67), (.ref b67)]) st68 ?_
              refine own_to (T' := T68) (mkF m 401 #[iv p0, iv p1, iv p2, iv b0, iv b1, iv b2, iv b3, iv c0, iv c1, iv c2, iv c3, iv cx, iv 0, iv sh, iv d14, rv b19, rv b51, iv 4, iv 1, .unset] [(.ref b19), (.ref aU), (.ref b67), (.ref b67)]) (fun _ k => XS.aload X68.here hx rfl (hb hby at_399) rfl rfl k) ?_
              refine own_to (T' := T68) (mkF m 403 #[iv p0, iv p1, iv p2, iv b0, iv b1, iv b2, iv b3, iv c0, iv c1, iv c2, iv c3, iv cx, iv 0, iv sh, iv d14, rv b19, rv b51, iv 4, iv 1, .unset] [(.int d14), (.ref b19), (.ref aU), (.ref b67), (.ref b67)]) (fun _ k => XS.iload X68.here hx rfl (hb hby at_401) rfl k) ?_
              obtain ⟨_, _, ⟨T69, L69, k69, n69⟩, -, X69, ⟨Lc69, hQ69, l69, y69, z69⟩, st69⟩ := X68.specialBack hx (y := (⟨"com/example/saldera/saldera/coupon/Cashier", "<init>", "(Ljava/lang/String;Ljava/lang/String;Z)V"⟩ : MethodName)) rfl hown (mvT hZ (hw _ (List.mem_of_getElem? (i := 36) rfl))) (mvT hZ (hw _ (List.mem_of_getElem? (i := 37) rfl))) (mvT hZ (hw _ (List.mem_of_getElem? (i := 38) rfl))) (by decide) (backOf (W := 1) (own_rmCB l Z a0 hw [] b67 aU b19 d14 h68 n0 (Nat.le_trans Z0 KP.1) OL E_b67 ge_b67 F_username_b67 F_branch_b67 F_crossBranch_b67) hZ (hw _ (List.mem_of_getElem? (i := 38) rfl)) (hw _ (List.mem_of_getElem? (i := 32) rfl)) (by decide) (by decide)) (g := (mkF m 403 #[iv p0, iv p1, iv p2, iv b0, iv b1, iv b2, iv b3, iv c0, iv c1, iv c2, iv c3, iv cx, iv 0, iv sh, iv d14, rv b19, rv b51, iv 4, iv 1, .unset] [(.int d14), (.ref b19), (.ref aU), (.ref b67), (.ref b67)])) rfl (by rw [hml]; rfl) (Steps.refl _) (a := b67) (argsL := [(.ref aU), (.ref b19), (.int d14)]) (rest := [(.ref b67)]) (lenOf own_pd2 rfl) rfl (by show 2 * 0 + _ ≤ _; exact Nat.le_of_eq rfl) (hb hby at_403) (fun _ _ => ⟨rfl, e68, (by decide : 9 + 0 ≤ _), (by decide : 35 + 0 ≤ _)⟩)
              dsimp only [Pt.U, Pt.locs, Pt.cells, Pt.slots] at X69 l69 y69 z69 st69 hQ69
              subst l69 y69 z69
              obtain ⟨rfl, N69q, K69, Ea69, Fb69, Fx69⟩ := hQ69
              have N69 := Fr.app N58 N69q
              have OL := OL.keep K69 (allS ge_b67 all0)
              have KP := KP.trans K69 (allS (Or.inr sz_b67) all0)
              have hk1 := Nat.le_trans hk1 K69.1
              have V_b20 := V_b20.keep K69 (ninS ne_b20_b67 nin0)
              have S_br := S_br.keep K69 (ninS ne_b19_b67 nin0) (ninS ne_t_br_b67 nin0)
              have V_b52 := V_b52.keep K69 (ninS ne_b52_b67 nin0)
              have S_co := S_co.keep K69 (ninS ne_b51_b67 nin0) (ninS ne_t_co_b67 nin0)
              have E_b67 := E_b67.keep K69
              refine own_via (mkF m 406 #[iv p0, iv p1, iv p2, iv b0, iv b1, iv b2, iv b3, iv c0, iv c1, iv c2, iv c3, iv cx, iv 0, iv sh, iv d14, rv b19, rv b51, iv 4, iv 1, .unset] [(.ref b67)]) st69 ?_
              have EC : Exa Z T69.heap b67 "com/example/saldera/saldera/coupon/Cashier" := Ea69
              have FB : Fld Z T69.heap b67 "com/example/saldera/saldera/coupon/Cashier" "branch" "Ljava/lang/String;" (.ref b19) := Fb69
              refine own_to (T' := T69) (mkF m 408 #[iv p0, iv p1, iv p2, iv b0, iv b1, iv b2, iv b3, iv c0, iv c1, iv c2, iv c3, iv cx, iv 0, iv sh, iv d14, rv b19, rv b51, iv 4, iv 1, rv b67] []) (fun _ k => XS.astore X69.here hx rfl (hb hby at_406) rfl rfl (l' := #[iv p0, iv p1, iv p2, iv b0, iv b1, iv b2, iv b3, iv c0, iv c1, iv c2, iv c3, iv cx, iv 0, iv sh, iv d14, rv b19, rv b51, iv 4, iv 1, rv b67]) rfl k) ?_
              refine own_to (T' := T69) (mkF m 410 #[iv p0, iv p1, iv p2, iv b0, iv b1, iv b2, iv b3, iv c0, iv c1, iv c2, iv c3, iv cx, iv 0, iv sh, iv d14, rv b19, rv b51, iv 4, iv 1, rv b67] [(.ref b67)]) (fun _ k => XS.aload X69.here hx rfl (hb hby at_408) rfl rfl k) ?_
              refine own_to (T' := T69) (mkF m 412 #[iv p0, iv p1, iv p2, iv b0, iv b1, iv b2, iv b3, iv c0, iv c1, iv c2, iv c3, iv cx, iv 0, iv sh, iv d14, rv b19, rv b51, iv 4, iv 1, rv b67] [(.ref b51), (.ref b67)]) (fun _ k => XS.aload X69.here hx rfl (hb hby at_410) rfl rfl k) ?_
              obtain ⟨cq70, kq70, q70a, q70b, q70c⟩ := isOf hZ rfl EC
              obtain ⟨_, _, ⟨T70, L70, k70, n70⟩, -, X70, ⟨Lc70, hQ70, l70, y70, z70⟩, st70⟩ := X69.virtualBack hx (y := (⟨"com/example/saldera/saldera/coupon/Cashier", "isOtherBranch", "(Ljava/lang/String;)Z"⟩ : MethodName)) (z := (⟨"com/example/saldera/saldera/coupon/Cashier", "isOtherBranch", "(Ljava/lang/String;)Z"⟩ : MethodName)) hown (mvT hZ (hw _ (List.mem_of_getElem? (i := 46) rfl))) (mvT hZ (hw _ (List.mem_of_getElem? (i := 47) rfl))) (notFace_of_selects (args := #[]) (mvT hZ (hw _ (List.mem_of_getElem? (i := 49) rfl)))) (mvT hZ (hw _ (List.mem_of_getElem? (i := 49) rfl))) (mvT hZ (hw _ (List.mem_of_getElem? (i := 48) rfl))) (by decide) (backOf (W := 0) (own_rmOB l Z a0 hw [] G1 b67 b51 t_co kb_co ([c0, c1, c2, c3] : List Int32) b19 t_br kb_br ([b0, b1, b2, b3] : List Int32) T69.heap n0 (Nat.le_trans Z0 KP.1) OL FB S_co S_br O2 P5) hZ (hw _ (List.mem_of_getElem? (i := 50) rfl)) (hw _ (List.mem_of_getElem? (i := 32) rfl)) (by decide) (by decide)) q70a q70c (g := (mkF m 412 #[iv p0, iv p1, iv p2, iv b0, iv b1, iv b2, iv b3, iv c0, iv c1, iv c2, iv c3, iv cx, iv 0, iv sh, iv d14, rv b19, rv b51, iv 4, iv 1, rv b67] [(.ref b51), (.ref b67)])) rfl (by rw [hml]; rfl) (Steps.refl _) (argsL := [(.ref b51)]) (rest := []) (lenOf own_pd3 rfl) rfl (by show 2 * 0 + _ ≤ _; exact Nat.le_of_eq rfl) (hb hby at_412) (fun _ _ => ⟨rfl, rfl, (by decide : 9 + 0 ≤ _), (by decide : 35 + 0 ≤ _)⟩)
              dsimp only [Pt.U, Pt.locs, Pt.cells, Pt.slots] at X70 l70 y70 z70 st70 hQ70
              subst l70 y70 z70
              obtain ⟨r70, rfl, h070, h170, N70q, e70⟩ := hQ70
              have N70 := Fr.app N69 N70q
              refine own_via (mkF m 415 #[iv p0, iv p1, iv p2, iv b0, iv b1, iv b2, iv b3, iv c0, iv c1, iv c2, iv c3, iv cx, iv 0, iv sh, iv d14, rv b19, rv b51, iv 4, iv 1, rv b67] [(.int r70)]) st70 ?_
              have hr70 : r70 = (1 : Int32) := h170 (fun q => hq2 (List.cons.inj (List.cons.inj (List.cons.inj q).2).2).1)
              subst hr70
              refine own_to (T' := T70) (mkF m 417 #[iv p0, iv p1, iv p2, iv b0, iv b1, iv b2, iv b3, iv c0, iv c1, iv c2, iv c3, iv cx, iv 0, iv sh, iv d14, rv b19, rv b51, iv 4, iv 1, rv b67] [(.int (1 : Int32)), (.int (1 : Int32))]) (fun _ k => XS.iload X70.here hx rfl (hb hby at_415) rfl k) ?_
              refine own_to (T' := T70) (mkF m 420 #[iv p0, iv p1, iv p2, iv b0, iv b1, iv b2, iv b3, iv c0, iv c1, iv c2, iv c3, iv cx, iv 0, iv sh, iv d14, rv b19, rv b51, iv 4, iv 1, rv b67] []) (fun _ k => XS.icmpNo X70.here hx rfl (hb hby at_417) rfl (teq (by decide : (1 : Int32) = (1 : Int32))).2 k) ?_
              refine own_to (T' := T70) (mkF m 421 #[iv p0, iv p1, iv p2, iv b0, iv b1, iv b2, iv b3, iv c0, iv c1, iv c2, iv c3, iv cx, iv 0, iv sh, iv d14, rv b19, rv b51, iv 4, iv 1, rv b67] [(.int (1 : Int32))]) (fun _ k => XS.iconst X70.here hx rfl (hb hby at_420) k) ?_
              refine own_to (T' := T70) (mkF m 425 #[iv p0, iv p1, iv p2, iv b0, iv b1, iv b2, iv b3, iv c0, iv c1, iv c2, iv c3, iv cx, iv 0, iv sh, iv d14, rv b19, rv b51, iv 4, iv 1, rv b67] [(.int (1 : Int32))]) (fun _ k => XS.goto X70.here hx rfl (pc0 := 421) (pc' := 425) rfl (hb hby at_421) (by decide) (by decide) k) ?_
              exact own_retNW (s := s) (vm₁ := T68.vm) X70 hS (by rw [e70]; exact hk1) hx (t := .boolean) Bd.returns (by simp) hlk (hb hby at_425) (by decide) (by decide) (by rw [e70]; exact ⟨rfl, N70⟩)
          · refine own_to (T' := T58) (mkF m 386 #[iv p0, iv p1, iv p2, iv b0, iv b1, iv b2, iv b3, iv c0, iv c1, iv c2, iv c3, iv cx, iv 0, iv sh, iv d14, rv b19, rv b51, iv 4, .unset, .unset] []) (fun _ k => XS.icmpYes X58.here hx rfl (pc0 := 369) (pc' := 386) rfl (hb hby at_369) rfl (feq hq1).2 (by decide) (by decide) k) ?_
            refine own_to (T' := T58) (mkF m 387 #[iv p0, iv p1, iv p2, iv b0, iv b1, iv b2, iv b3, iv c0, iv c1, iv c2, iv c3, iv cx, iv 0, iv sh, iv d14, rv b19, rv b51, iv 4, .unset, .unset] [(.int (1 : Int32))]) (fun _ k => XS.iconst X58.here hx rfl (hb hby at_386) k) ?_
            refine own_to (T' := T58) (mkF m 391 #[iv p0, iv p1, iv p2, iv b0, iv b1, iv b2, iv b3, iv c0, iv c1, iv c2, iv c3, iv cx, iv 0, iv sh, iv d14, rv b19, rv b51, iv 4, .unset, .unset] [(.int (1 : Int32))]) (fun _ k => XS.goto X58.here hx rfl (pc0 := 387) (pc' := 391) rfl (hb hby at_387) (by decide) (by decide) k) ?_
            refine own_to (T' := T58) (mkF m 393 #[iv p0, iv p1, iv p2, iv b0, iv b1, iv b2, iv b3, iv c0, iv c1, iv c2, iv c3, iv cx, iv 0, iv sh, iv d14, rv b19, rv b51, iv 4, iv 1, .unset] []) (fun _ k => XS.istore X58.here hx rfl (hb hby at_391) rfl (l' := #[iv p0, iv p1, iv p2, iv b0, iv b1, iv b2, iv b3, iv c0, iv c1, iv c2, iv c3, iv cx, iv 0, iv sh, iv d14, rv b19, rv b51, iv 4, iv 1, .unset]) rfl k) ?_
            obtain ⟨T63, h63, X63, e63, E63, A63, D63, -, st63⟩ := newO X58 hx hZ hown (hw _ (List.mem_of_getElem? (i := 30) rfl)) (hw _ (List.mem_of_getElem? (i := 31) rfl)) (hw _ (List.mem_of_getElem? (i := 32) rfl)) rfl (g := (mkF m 393 #[iv p0, iv p1, iv p2, iv b0, iv b1, iv b2, iv b3, iv c0, iv c1, iv c2, iv c3, iv cx, iv 0, iv sh, iv d14, rv b19, rv b51, iv 4, iv 1, .unset] [])) rfl (hb hby at_393) (by decide) (by decide)
            obtain ⟨b63, g63⟩ : ∃ z, z = T58.heap.size := ⟨_, rfl⟩
            rw [← g63] at A63 D63 st63
            have sz_b63 : h0.size ≤ b63 := Nat.le_trans KP.1 (Nat.le_of_eq g63.symm)
            have ge_b63 : n0 ≤ b63 := Nat.le_trans Z0 sz_b63
            have ne_b20_b63 : b20 ≠ b63 := Nat.ne_of_lt (Nat.lt_of_lt_of_le V_b20.lt (Nat.le_of_eq g63.symm))
            have ne_b19_b63 : b19 ≠ b63 := Nat.ne_of_lt (Nat.lt_of_lt_of_le S_br.lt (Nat.le_of_eq g63.symm))
            have ne_t_br_b63 : t_br ≠ b63 := Nat.ne_of_lt (Nat.lt_of_lt_of_le S_br.ltT (Nat.le_of_eq g63.symm))
            have ne_b52_b63 : b52 ≠ b63 := Nat.ne_of_lt (Nat.lt_of_lt_of_le V_b52.lt (Nat.le_of_eq g63.symm))
            have ne_b51_b63 : b51 ≠ b63 := Nat.ne_of_lt (Nat.lt_of_lt_of_le S_co.lt (Nat.le_of_eq g63.symm))
            have ne_t_co_b63 : t_co ≠ b63 := Nat.ne_of_lt (Nat.lt_of_lt_of_le S_co.ltT (Nat.le_of_eq g63.symm))
            have OL := OL.ext E63
            have KP := KP.ext E63
            have hk1 := Nat.le_trans hk1 E63.1
            have V_b20 := V_b20.ext E63
            have S_br := S_br.ext E63
            have V_b52 := V_b52.ext E63
            have S_co := S_co.ext E63
            have E_b63 : Exa Z h63 b63 "com/example/saldera/saldera/coupon/Cashier" := A63
            have F_username_b63 : Fld Z h63 b63 "com/example/saldera/saldera/coupon/Cashier" "username" "Ljava/lang/String;" .null := D63 (Or.inr (hw _ (List.mem_of_getElem? (i := 41) rfl))) (ty := (.object "java/lang/String")) (by decide)
            have F_branch_b63 : Fld Z h63 b63 "com/example/saldera/saldera/coupon/Cashier" "branch" "Ljava/lang/String;" .null := D63 (Or.inr (hw _ (List.mem_of_getElem? (i := 43) rfl))) (ty := (.object "java/lang/String")) (by decide)
            have F_crossBranch_b63 : Fld Z h63 b63 "com/example/saldera/saldera/coupon/Cashier" "crossBranch" "Z" (.int (0 : Int32)) := D63 (Or.inr (hw _ (List.mem_of_getElem? (i := 45) rfl))) (ty := .boolean) (by decide)
            refine own_to (mkF m 396 #[iv p0, iv p1, iv p2, iv b0, iv b1, iv b2, iv b3, iv c0, iv c1, iv c2, iv c3, iv cx, iv 0, iv sh, iv d14, rv b19, rv b51, iv 4, iv 1, .unset] [(.ref b63)]) st63 ?_
            refine own_to (T' := T63) (mkF m 397 #[iv p0, iv p1, iv p2, iv b0, iv b1, iv b2, iv b3, iv c0, iv c1, iv c2, iv c3, iv cx, iv 0, iv sh, iv d14, rv b19, rv b51, iv 4, iv 1, .unset] [(.ref b63), (.ref b63)]) (fun _ k => XS.dup X63.here hx rfl (hb hby at_396) rfl rfl k) ?_
            obtain ⟨aU, T64, h64, k1, X64, e64, E64, hS, hk2, hZ, hown, st64⟩ := ldcS (s := s) (vm0 := s.vm) X63 hx hZ hown (hw _ (List.mem_of_getElem? (i := 33) rfl)) hwsS e63 hS hk1 (g := (mkF m 397 #[iv p0, iv p1, iv p2, iv b0, iv b1, iv b2, iv b3, iv c0, iv c1, iv c2, iv c3, iv cx, iv 0, iv sh, iv d14, rv b19, rv b51, iv 4, iv 1, .unset] [(.ref b63), (.ref b63)])) rfl (hb hby at_397) (n := 4) (by decide) (by decide) (by decide) (by decide)
            have OL := OL.ext E64
            have KP := KP.ext E64
            have V_b20 := V_b20.ext E64
            have S_br := S_br.ext E64
            have V_b52 := V_b52.ext E64
            have S_co := S_co.ext E64
            have E_b63 := E_b63.ext E64
            have F_username_b63 := F_username_b63.ext E64
            have F_branch_b63 := F_branch_b63.ext E64
            have F_crossBranch_b63 := F_crossBranch_b63.ext E64
            have hk1 := hk2
            refine own_to (mkF m 399 #[iv p0, iv p1, iv p2, iv b0, iv b1, iv b2, iv b3, iv c0, iv c1, iv c2, iv c3, iv cx, iv 0, iv sh, iv d14, rv b19, rv b51, iv 4, iv 1, .unset] [(.ref aU), (.ref b63), (.ref b63)]) st64 ?_
            refine own_to (T' := T64) (mkF m 401 #[iv p0, iv p1, iv p2, iv b0, iv b1, iv b2, iv b3, iv c0, iv c1, iv c2, iv c3, iv cx, iv 0, iv sh, iv d14, rv b19, rv b51, iv 4, iv 1, .unset] [(.ref b19), (.ref aU), (.ref b63), (.ref b63)]) (fun _ k => XS.aload X64.here hx rfl (hb hby at_399) rfl rfl k) ?_
            refine own_to (T' := T64) (mkF m 403 #[iv p0, iv p1, iv p2, iv b0, iv b1, iv b2, iv b3, iv c0, iv c1, iv c2, iv c3, iv cx, iv 0, iv sh, iv d14, rv b19, rv b51, iv 4, iv 1, .unset] [(.int d14), (.ref b19), (.ref aU), (.ref b63), (.ref b63)]) (fun _ k => XS.iload X64.here hx rfl (hb hby at_401) rfl k) ?_
            obtain ⟨_, _, ⟨T65, L65, k65, n65⟩, -, X65, ⟨Lc65, hQ65, l65, y65, z65⟩, st65⟩ := X64.specialBack hx (y := (⟨"com/example/saldera/saldera/coupon/Cashier", "<init>", "(Ljava/lang/String;Ljava/lang/String;Z)V"⟩ : MethodName)) rfl hown (mvT hZ (hw _ (List.mem_of_getElem? (i := 36) rfl))) (mvT hZ (hw _ (List.mem_of_getElem? (i := 37) rfl))) (mvT hZ (hw _ (List.mem_of_getElem? (i := 38) rfl))) (by decide) (backOf (W := 1) (own_rmCB l Z a0 hw [] b63 aU b19 d14 h64 n0 (Nat.le_trans Z0 KP.1) OL E_b63 ge_b63 F_username_b63 F_branch_b63 F_crossBranch_b63) hZ (hw _ (List.mem_of_getElem? (i := 38) rfl)) (hw _ (List.mem_of_getElem? (i := 32) rfl)) (by decide) (by decide)) (g := (mkF m 403 #[iv p0, iv p1, iv p2, iv b0, iv b1, iv b2, iv b3, iv c0, iv c1, iv c2, iv c3, iv cx, iv 0, iv sh, iv d14, rv b19, rv b51, iv 4, iv 1, .unset] [(.int d14), (.ref b19), (.ref aU), (.ref b63), (.ref b63)])) rfl (by rw [hml]; rfl) (Steps.refl _) (a := b63) (argsL := [(.ref aU), (.ref b19), (.int d14)]) (rest := [(.ref b63)]) (lenOf own_pd2 rfl) rfl (by show 2 * 0 + _ ≤ _; exact Nat.le_of_eq rfl) (hb hby at_403) (fun _ _ => ⟨rfl, e64, (by decide : 9 + 0 ≤ _), (by decide : 35 + 0 ≤ _)⟩)
            dsimp only [Pt.U, Pt.locs, Pt.cells, Pt.slots] at X65 l65 y65 z65 st65 hQ65
            subst l65 y65 z65
            obtain ⟨rfl, N65q, K65, Ea65, Fb65, Fx65⟩ := hQ65
            have N65 := Fr.app N58 N65q
            have OL := OL.keep K65 (allS ge_b63 all0)
            have KP := KP.trans K65 (allS (Or.inr sz_b63) all0)
            have hk1 := Nat.le_trans hk1 K65.1
            have V_b20 := V_b20.keep K65 (ninS ne_b20_b63 nin0)
            have S_br := S_br.keep K65 (ninS ne_b19_b63 nin0) (ninS ne_t_br_b63 nin0)
            have V_b52 := V_b52.keep K65 (ninS ne_b52_b63 nin0)
            have S_co := S_co.keep K65 (ninS ne_b51_b63 nin0) (ninS ne_t_co_b63 nin0)
            have E_b63 := E_b63.keep K65
            refine own_via (mkF m 406 #[iv p0, iv p1, iv p2, iv b0, iv b1, iv b2, iv b3, iv c0, iv c1, iv c2, iv c3, iv cx, iv 0, iv sh, iv d14, rv b19, rv b51, iv 4, iv 1, .unset] [(.ref b63)]) st65 ?_
            have EC : Exa Z T65.heap b63 "com/example/saldera/saldera/coupon/Cashier" := Ea65
            have FB : Fld Z T65.heap b63 "com/example/saldera/saldera/coupon/Cashier" "branch" "Ljava/lang/String;" (.ref b19) := Fb65
            refine own_to (T' := T65) (mkF m 408 #[iv p0, iv p1, iv p2, iv b0, iv b1, iv b2, iv b3, iv c0, iv c1, iv c2, iv c3, iv cx, iv 0, iv sh, iv d14, rv b19, rv b51, iv 4, iv 1, rv b63] []) (fun _ k => XS.astore X65.here hx rfl (hb hby at_406) rfl rfl (l' := #[iv p0, iv p1, iv p2, iv b0, iv b1, iv b2, iv b3, iv c0, iv c1, iv c2, iv c3, iv cx, iv 0, iv sh, iv d14, rv b19, rv b51, iv 4, iv 1, rv b63]) rfl k) ?_
            refine own_to (T' := T65) (mkF m 410 #[iv p0, iv p1, iv p2, iv b0, iv b1, iv b2, iv b3, iv c0, iv c1, iv c2, iv c3, iv cx, iv 0, iv sh, iv d14, rv b19, rv b51, iv 4, iv 1, rv b63] [(.ref b63)]) (fun _ k => XS.aload X65.here hx rfl (hb hby at_408) rfl rfl k) ?_
            refine own_to (T' := T65) (mkF m 412 #[iv p0, iv p1, iv p2, iv b0, iv b1, iv b2, iv b3, iv c0, iv c1, iv c2, iv c3, iv cx, iv 0, iv sh, iv d14, rv b19, rv b51, iv 4, iv 1, rv b63] [(.ref b51), (.ref b63)]) (fun _ k => XS.aload X65.here hx rfl (hb hby at_410) rfl rfl k) ?_
            obtain ⟨cq66, kq66, q66a, q66b, q66c⟩ := isOf hZ rfl EC
            obtain ⟨_, _, ⟨T66, L66, k66, n66⟩, -, X66, ⟨Lc66, hQ66, l66, y66, z66⟩, st66⟩ := X65.virtualBack hx (y := (⟨"com/example/saldera/saldera/coupon/Cashier", "isOtherBranch", "(Ljava/lang/String;)Z"⟩ : MethodName)) (z := (⟨"com/example/saldera/saldera/coupon/Cashier", "isOtherBranch", "(Ljava/lang/String;)Z"⟩ : MethodName)) hown (mvT hZ (hw _ (List.mem_of_getElem? (i := 46) rfl))) (mvT hZ (hw _ (List.mem_of_getElem? (i := 47) rfl))) (notFace_of_selects (args := #[]) (mvT hZ (hw _ (List.mem_of_getElem? (i := 49) rfl)))) (mvT hZ (hw _ (List.mem_of_getElem? (i := 49) rfl))) (mvT hZ (hw _ (List.mem_of_getElem? (i := 48) rfl))) (by decide) (backOf (W := 0) (own_rmOB l Z a0 hw [] G1 b63 b51 t_co kb_co ([c0, c1, c2, c3] : List Int32) b19 t_br kb_br ([b0, b1, b2, b3] : List Int32) T65.heap n0 (Nat.le_trans Z0 KP.1) OL FB S_co S_br O2 P5) hZ (hw _ (List.mem_of_getElem? (i := 50) rfl)) (hw _ (List.mem_of_getElem? (i := 32) rfl)) (by decide) (by decide)) q66a q66c (g := (mkF m 412 #[iv p0, iv p1, iv p2, iv b0, iv b1, iv b2, iv b3, iv c0, iv c1, iv c2, iv c3, iv cx, iv 0, iv sh, iv d14, rv b19, rv b51, iv 4, iv 1, rv b63] [(.ref b51), (.ref b63)])) rfl (by rw [hml]; rfl) (Steps.refl _) (argsL := [(.ref b51)]) (rest := []) (lenOf own_pd3 rfl) rfl (by show 2 * 0 + _ ≤ _; exact Nat.le_of_eq rfl) (hb hby at_412) (fun _ _ => ⟨rfl, rfl, (by decide : 9 + 0 ≤ _), (by decide : 35 + 0 ≤ _)⟩)
            dsimp only [Pt.U, Pt.locs, Pt.cells, Pt.slots] at X66 l66 y66 z66 st66 hQ66
            subst l66 y66 z66
            obtain ⟨r66, rfl, h066, h166, N66q, e66⟩ := hQ66
            have N66 := Fr.app N65 N66q
            refine own_via (mkF m 415 #[iv p0, iv p1, iv p2, iv b0, iv b1, iv b2, iv b3, iv c0, iv c1, iv c2, iv c3, iv cx, iv 0, iv sh, iv d14, rv b19, rv b51, iv 4, iv 1, rv b63] [(.int r66)]) st66 ?_
            have hr66 : r66 = (1 : Int32) := h166 (fun q => hq1 (List.cons.inj (List.cons.inj q).2).1)
            subst hr66
            refine own_to (T' := T66) (mkF m 417 #[iv p0, iv p1, iv p2, iv b0, iv b1, iv b2, iv b3, iv c0, iv c1, iv c2, iv c3, iv cx, iv 0, iv sh, iv d14, rv b19, rv b51, iv 4, iv 1, rv b63] [(.int (1 : Int32)), (.int (1 : Int32))]) (fun _ k => XS.iload X66.here hx rfl (hb hby at_415) rfl k) ?_
            refine own_to (T' := T66) (mkF m 420 #[iv p0, iv p1, iv p2, iv b0, iv b1, iv b2, iv b3, iv c0, iv c1, iv c2, iv c3, iv cx, iv 0, iv sh, iv d14, rv b19, rv b51, iv 4, iv 1, rv b63] []) (fun _ k => XS.icmpNo X66.here hx rfl (hb hby at_417) rfl (teq (by decide : (1 : Int32) = (1 : Int32))).2 k) ?_
            refine own_to (T' := T66) (mkF m 421 #[iv p0, iv p1, iv p2, iv b0, iv b1, iv b2, iv b3, iv c0, iv c1, iv c2, iv c3, iv cx, iv 0, iv sh, iv d14, rv b19, rv b51, iv 4, iv 1, rv b63] [(.int (1 : Int32))]) (fun _ k => XS.iconst X66.here hx rfl (hb hby at_420) k) ?_
            refine own_to (T' := T66) (mkF m 425 #[iv p0, iv p1, iv p2, iv b0, iv b1, iv b2, iv b3, iv c0, iv c1, iv c2, iv c3, iv cx, iv 0, iv sh, iv d14, rv b19, rv b51, iv 4, iv 1, rv b63] [(.int (1 : Int32))]) (fun _ k => XS.goto X66.here hx rfl (pc0 := 421) (pc' := 425) rfl (hb hby at_421) (by decide) (by decide) k) ?_
            exact own_retNW (s := s) (vm₁ := T64.vm) X66 hS (by rw [e66]; exact hk1) hx (t := .boolean) Bd.returns (by simp) hlk (hb hby at_425) (by decide) (by decide) (by rw [e66]; exact ⟨rfl, N66⟩)
        · refine own_to (T' := T58) (mkF m 386 #[iv p0, iv p1, iv p2, iv b0, iv b1, iv b2, iv b3, iv c0, iv c1, iv c2, iv c3, iv cx, iv 0, iv sh, iv d14, rv b19, rv b51, iv 4, .unset, .unset] []) (fun _ k => XS.icmpYes X58.here hx rfl (pc0 := 362) (pc' := 386) rfl (hb hby at_362) rfl (feq hq0).2 (by decide) (by decide) k) ?_
          refine own_to (T' := T58) (mkF m 387 #[iv p0, iv p1, iv p2, iv b0, iv b1, iv b2, iv b3, iv c0, iv c1, iv c2, iv c3, iv cx, iv 0, iv sh, iv d14, rv b19, rv b51, iv 4, .unset, .unset] [(.int (1 : Int32))]) (fun _ k => XS.iconst X58.here hx rfl (hb hby at_386) k) ?_
          refine own_to (T' := T58) (mkF m 391 #[iv p0, iv p1, iv p2, iv b0, iv b1, iv b2, iv b3, iv c0, iv c1, iv c2, iv c3, iv cx, iv 0, iv sh, iv d14, rv b19, rv b51, iv 4, .unset, .unset] [(.int (1 : Int32))]) (fun _ k => XS.goto X58.here hx rfl (pc0 := 387) (pc' := 391) rfl (hb hby at_387) (by decide) (by decide) k) ?_
          refine own_to (T' := T58) (mkF m 393 #[iv p0, iv p1, iv p2, iv b0, iv b1, iv b2, iv b3, iv c0, iv c1, iv c2, iv c3, iv cx, iv 0, iv sh, iv d14, rv b19, rv b51, iv 4, iv 1, .unset] []) (fun _ k => XS.istore X58.here hx rfl (hb hby at_391) rfl (l' := #[iv p0, iv p1, iv p2, iv b0, iv b1, iv b2, iv b3, iv c0, iv c1, iv c2, iv c3, iv cx, iv 0, iv sh, iv d14, rv b19, rv b51, iv 4, iv 1, .unset]) rfl k) ?_
          obtain ⟨T59, h59, X59, e59, E59, A59, D59, -, st59⟩ := newO X58 hx hZ hown (hw _ (List.mem_of_getElem? (i := 30) rfl)) (hw _ (List.mem_of_getElem? (i := 31) rfl)) (hw _ (List.mem_of_getElem? (i := 32) rfl)) rfl (g := (mkF m 393 #[iv p0, iv p1, iv p2, iv b0, iv b1, iv b2, iv b3, iv c0, iv c1, iv c2, iv c3, iv cx, iv 0, iv sh, iv d14, rv b19, rv b51, iv 4, iv 1, .unset] [])) rfl (hb hby at_393) (by decide) (by decide)
          obtain ⟨b59, g59⟩ : ∃ z, z = T58.heap.size := ⟨_, rfl⟩
          rw [← g59] at A59 D59 st59
          have sz_b59 : h0.size ≤ b59 := Nat.le_trans KP.1 (Nat.le_of_eq g59.symm)
          have ge_b59 : n0 ≤ b59 := Nat.le_trans Z0 sz_b59
          have ne_b20_b59 : b20 ≠ b59 := Nat.ne_of_lt (Nat.lt_of_lt_of_le V_b20.lt (Nat.le_of_eq g59.symm))
          have ne_b19_b59 : b19 ≠ b59 := Nat.ne_of_lt (Nat.lt_of_lt_of_le S_br.lt (Nat.le_of_eq g59.symm))
          have ne_t_br_b59 : t_br ≠ b59 := Nat.ne_of_lt (Nat.lt_of_lt_of_le S_br.ltT (Nat.le_of_eq g59.symm))
          have ne_b52_b59 : b52 ≠ b59 := Nat.ne_of_lt (Nat.lt_of_lt_of_le V_b52.lt (Nat.le_of_eq g59.symm))
          have ne_b51_b59 : b51 ≠ b59 := Nat.ne_of_lt (Nat.lt_of_lt_of_le S_co.lt (Nat.le_of_eq g59.symm))
          have ne_t_co_b59 : t_co ≠ b59 := Nat.ne_of_lt (Nat.lt_of_lt_of_le S_co.ltT (Nat.le_of_eq g59.symm))
          have OL := OL.ext E59
          have KP := KP.ext E59
          have hk1 := Nat.le_trans hk1 E59.1
          have V_b20 := V_b20.ext E59
          have S_br := S_br.ext E59
          have V_b52 := V_b52.ext E59
          have S_co := S_co.ext E59
          have E_b59 : Exa Z h59 b59 "com/example/saldera/saldera/coupon/Cashier" := A59
          have F_username_b59 : Fld Z h59 b59 "com/example/saldera/saldera/coupon/Cashier" "username" "Ljava/lang/String;" .null := D59 (Or.inr (hw _ (List.mem_of_getElem? (i := 41) rfl))) (ty := (.object "java/lang/String")) (by decide)
          have F_branch_b59 : Fld Z h59 b59 "com/example/saldera/saldera/coupon/Cashier" "branch" "Ljava/lang/String;" .null := D59 (Or.inr (hw _ (List.mem_of_getElem? (i := 43) rfl))) (ty := (.object "java/lang/String")) (by decide)
          have F_crossBranch_b59 : Fld Z h59 b59 "com/example/saldera/saldera/coupon/Cashier" "crossBranch" "Z" (.int (0 : Int32)) := D59 (Or.inr (hw _ (List.mem_of_getElem? (i := 45) rfl))) (ty := .boolean) (by decide)
          refine own_to (mkF m 396 #[iv p0, iv p1, iv p2, iv b0, iv b1, iv b2, iv b3, iv c0, iv c1, iv c2, iv c3, iv cx, iv 0, iv sh, iv d14, rv b19, rv b51, iv 4, iv 1, .unset] [(.ref b59)]) st59 ?_
          refine own_to (T' := T59) (mkF m 397 #[iv p0, iv p1, iv p2, iv b0, iv b1, iv b2, iv b3, iv c0, iv c1, iv c2, iv c3, iv cx, iv 0, iv sh, iv d14, rv b19, rv b51, iv 4, iv 1, .unset] [(.ref b59), (.ref b59)]) (fun _ k => XS.dup X59.here hx rfl (hb hby at_396) rfl rfl k) ?_
          obtain ⟨aU, T60, h60, k1, X60, e60, E60, hS, hk2, hZ, hown, st60⟩ := ldcS (s := s) (vm0 := s.vm) X59 hx hZ hown (hw _ (List.mem_of_getElem? (i := 33) rfl)) hwsS e59 hS hk1 (g := (mkF m 397 #[iv p0, iv p1, iv p2, iv b0, iv b1, iv b2, iv b3, iv c0, iv c1, iv c2, iv c3, iv cx, iv 0, iv sh, iv d14, rv b19, rv b51, iv 4, iv 1, .unset] [(.ref b59), (.ref b59)])) rfl (hb hby at_397) (n := 4) (by decide) (by decide) (by decide) (by decide)
          have OL := OL.ext E60
          have KP := KP.ext E60
          have V_b20 := V_b20.ext E60
          have S_br := S_br.ext E60
          have V_b52 := V_b52.ext E60
          have S_co := S_co.ext E60
          have E_b59 := E_b59.ext E60
          have F_username_b59 := F_username_b59.ext E60
          have F_branch_b59 := F_branch_b59.ext E60
          have F_crossBranch_b59 := F_crossBranch_b59.ext E60
          have hk1 := hk2
          refine own_to (mkF m 399 #[iv p0, iv p1, iv p2, iv b0, iv b1, iv b2, iv b3, iv c0, iv c1, iv c2, iv c3, iv cx, iv 0, iv sh, iv d14, rv b19, rv b51, iv 4, iv 1, .unset] [(.ref aU), (.ref b59), (.ref b59)]) st60 ?_
          refine own_to (T' := T60) (mkF m 401 #[iv p0, iv p1, iv p2, iv b0, iv b1, iv b2, iv b3, iv c0, iv c1, iv c2, iv c3, iv cx, iv 0, iv sh, iv d14, rv b19, rv b51, iv 4, iv 1, .unset] [(.ref b19), (.ref aU), (.ref b59), (.ref b59)]) (fun _ k => XS.aload X60.here hx rfl (hb hby at_399) rfl rfl k) ?_
          refine own_to (T' := T60) (mkF m 403 #[iv p0, iv p1, iv p2, iv b0, iv b1, iv b2, iv b3, iv c0, iv c1, iv c2, iv c3, iv cx, iv 0, iv sh, iv d14, rv b19, rv b51, iv 4, iv 1, .unset] [(.int d14), (.ref b19), (.ref aU), (.ref b59), (.ref b59)]) (fun _ k => XS.iload X60.here hx rfl (hb hby at_401) rfl k) ?_
          obtain ⟨_, _, ⟨T61, L61, k61, n61⟩, -, X61, ⟨Lc61, hQ61, l61, y61, z61⟩, st61⟩ := X60.specialBack hx (y := (⟨"com/example/saldera/saldera/coupon/Cashier", "<init>", "(Ljava/lang/String;Ljava/lang/String;Z)V"⟩ : MethodName)) rfl hown (mvT hZ (hw _ (List.mem_of_getElem? (i := 36) rfl))) (mvT hZ (hw _ (List.mem_of_getElem? (i := 37) rfl))) (mvT hZ (hw _ (List.mem_of_getElem? (i := 38) rfl))) (by decide) (backOf (W := 1) (own_rmCB l Z a0 hw [] b59 aU b19 d14 h60 n0 (Nat.le_trans Z0 KP.1) OL E_b59 ge_b59 F_username_b59 F_branch_b59 F_crossBranch_b59) hZ (hw _ (List.mem_of_getElem? (i := 38) rfl)) (hw _ (List.mem_of_getElem? (i := 32) rfl)) (by decide) (by decide)) (g := (mkF m 403 #[iv p0, iv p1, iv p2, iv b0, iv b1, iv b2, iv b3, iv c0, iv c1, iv c2, iv c3, iv cx, iv 0, iv sh, iv d14, rv b19, rv b51, iv 4, iv 1, .unset] [(.int d14), (.ref b19), (.ref aU), (.ref b59), (.ref b59)])) rfl (by rw [hml]; rfl) (Steps.refl _) (a := b59) (argsL := [(.ref aU), (.ref b19), (.int d14)]) (rest := [(.ref b59)]) (lenOf own_pd2 rfl) rfl (by show 2 * 0 + _ ≤ _; exact Nat.le_of_eq rfl) (hb hby at_403) (fun _ _ => ⟨rfl, e60, (by decide : 9 + 0 ≤ _), (by decide : 35 + 0 ≤ _)⟩)
          dsimp only [Pt.U, Pt.locs, Pt.cells, Pt.slots] at X61 l61 y61 z61 st61 hQ61
          subst l61 y61 z61
          obtain ⟨rfl, N61q, K61, Ea61, Fb61, Fx61⟩ := hQ61
          have N61 := Fr.app N58 N61q
          have OL := OL.keep K61 (allS ge_b59 all0)
          have KP := KP.trans K61 (allS (Or.inr sz_b59) all0)
          have hk1 := Nat.le_trans hk1 K61.1
          have V_b20 := V_b20.keep K61 (ninS ne_b20_b59 nin0)
          have S_br := S_br.keep K61 (ninS ne_b19_b59 nin0) (ninS ne_t_br_b59 nin0)
          have V_b52 := V_b52.keep K61 (ninS ne_b52_b59 nin0)
          have S_co := S_co.keep K61 (ninS ne_b51_b59 nin0) (ninS ne_t_co_b59 nin0)
          have E_b59 := E_b59.keep K61
          refine own_via (mkF m 406 #[iv p0, iv p1, iv p2, iv b0, iv b1, iv b2, iv b3, iv c0, iv c1, iv c2, iv c3, iv cx, iv 0, iv sh, iv d14, rv b19, rv b51, iv 4, iv 1, .unset] [(.ref b59)]) st61 ?_
          have EC : Exa Z T61.heap b59 "com/example/saldera/saldera/coupon/Cashier" := Ea61
          have FB : Fld Z T61.heap b59 "com/example/saldera/saldera/coupon/Cashier" "branch" "Ljava/lang/String;" (.ref b19) := Fb61
          refine own_to (T' := T61) (mkF m 408 #[iv p0, iv p1, iv p2, iv b0, iv b1, iv b2, iv b3, iv c0, iv c1, iv c2, iv c3, iv cx, iv 0, iv sh, iv d14, rv b19, rv b51, iv 4, iv 1, rv b59] []) (fun _ k => XS.astore X61.here hx rfl (hb hby at_406) rfl rfl (l' := #[iv p0, iv p1, iv p2, iv b0, iv b1, iv b2, iv b3, iv c0, iv c1, iv c2, iv c3, iv cx, iv 0, iv sh, iv d14, rv b19, rv b51, iv 4, iv 1, rv b59]) rfl k) ?_
          refine own_to (T' := T61) (mkF m 410 #[iv p0, iv p1, iv p2, iv b0, iv b1, iv b2, iv b3, iv c0, iv c1, iv c2, iv c3, iv cx, iv 0, iv sh, iv d14, rv b19, rv b51, iv 4, iv 1, rv b59] [(.ref b59)]) (fun _ k => XS.aload X61.here hx rfl (hb hby at_408) rfl rfl k) ?_
          refine own_to (T' := T61) (mkF m 412 #[iv p0, iv p1, iv p2, iv b0, iv b1, iv b2, iv b3, iv c0, iv c1, iv c2, iv c3, iv cx, iv 0, iv sh, iv d14, rv b19, rv b51, iv 4, iv 1, rv b59] [(.ref b51), (.ref b59)]) (fun _ k => XS.aload X61.here hx rfl (hb hby at_410) rfl rfl k) ?_
          obtain ⟨cq62, kq62, q62a, q62b, q62c⟩ := isOf hZ rfl EC
          obtain ⟨_, _, ⟨T62, L62, k62, n62⟩, -, X62, ⟨Lc62, hQ62, l62, y62, z62⟩, st62⟩ := X61.virtualBack hx (y := (⟨"com/example/saldera/saldera/coupon/Cashier", "isOtherBranch", "(Ljava/lang/String;)Z"⟩ : MethodName)) (z := (⟨"com/example/saldera/saldera/coupon/Cashier", "isOtherBranch", "(Ljava/lang/String;)Z"⟩ : MethodName)) hown (mvT hZ (hw _ (List.mem_of_getElem? (i := 46) rfl))) (mvT hZ (hw _ (List.mem_of_getElem? (i := 47) rfl))) (notFace_of_selects (args := #[]) (mvT hZ (hw _ (List.mem_of_getElem? (i := 49) rfl)))) (mvT hZ (hw _ (List.mem_of_getElem? (i := 49) rfl))) (mvT hZ (hw _ (List.mem_of_getElem? (i := 48) rfl))) (by decide) (backOf (W := 0) (own_rmOB l Z a0 hw [] G1 b59 b51 t_co kb_co ([c0, c1, c2, c3] : List Int32) b19 t_br kb_br ([b0, b1, b2, b3] : List Int32) T61.heap n0 (Nat.le_trans Z0 KP.1) OL FB S_co S_br O2 P5) hZ (hw _ (List.mem_of_getElem? (i := 50) rfl)) (hw _ (List.mem_of_getElem? (i := 32) rfl)) (by decide) (by decide)) q62a q62c (g := (mkF m 412 #[iv p0, iv p1, iv p2, iv b0, iv b1, iv b2, iv b3, iv c0, iv c1, iv c2, iv c3, iv cx, iv 0, iv sh, iv d14, rv b19, rv b51, iv 4, iv 1, rv b59] [(.ref b51), (.ref b59)])) rfl (by rw [hml]; rfl) (Steps.refl _) (argsL := [(.ref b51)]) (rest := []) (lenOf own_pd3 rfl) rfl (by show 2 * 0 + _ ≤ _; exact Nat.le_of_eq rfl) (hb hby at_412) (fun _ _ => ⟨rfl, rfl, (by decide : 9 + 0 ≤ _), (by decide : 35 + 0 ≤ _)⟩)
          dsimp only [Pt.U, Pt.locs, Pt.cells, Pt.slots] at X62 l62 y62 z62 st62 hQ62
          subst l62 y62 z62
          obtain ⟨r62, rfl, h062, h162, N62q, e62⟩ := hQ62
          have N62 := Fr.app N61 N62q
          refine own_via (mkF m 415 #[iv p0, iv p1, iv p2, iv b0, iv b1, iv b2, iv b3, iv c0, iv c1, iv c2, iv c3, iv cx, iv 0, iv sh, iv d14, rv b19, rv b51, iv 4, iv 1, rv b59] [(.int r62)]) st62 ?_
          have hr62 : r62 = (1 : Int32) := h162 (fun q => hq0 (List.cons.inj q).1)
          subst hr62
          refine own_to (T' := T62) (mkF m 417 #[iv p0, iv p1, iv p2, iv b0, iv b1, iv b2, iv b3, iv c0, iv c1, iv c2, iv c3, iv cx, iv 0, iv sh, iv d14, rv b19, rv b51, iv 4, iv 1, rv b59] [(.int (1 : Int32)), (.int (1 : Int32))]) (fun _ k => XS.iload X62.here hx rfl (hb hby at_415) rfl k) ?_
          refine own_to (T' := T62) (mkF m 420 #[iv p0, iv p1, iv p2, iv b0, iv b1, iv b2, iv b3, iv c0, iv c1, iv c2, iv c3, iv cx, iv 0, iv sh, iv d14, rv b19, rv b51, iv 4, iv 1, rv b59] []) (fun _ k => XS.icmpNo X62.here hx rfl (hb hby at_417) rfl (teq (by decide : (1 : Int32) = (1 : Int32))).2 k) ?_
          refine own_to (T' := T62) (mkF m 421 #[iv p0, iv p1, iv p2, iv b0, iv b1, iv b2, iv b3, iv c0, iv c1, iv c2, iv c3, iv cx, iv 0, iv sh, iv d14, rv b19, rv b51, iv 4, iv 1, rv b59] [(.int (1 : Int32))]) (fun _ k => XS.iconst X62.here hx rfl (hb hby at_420) k) ?_
          refine own_to (T' := T62) (mkF m 425 #[iv p0, iv p1, iv p2, iv b0, iv b1, iv b2, iv b3, iv c0, iv c1, iv c2, iv c3, iv cx, iv 0, iv sh, iv d14, rv b19, rv b51, iv 4, iv 1, rv b59] [(.int (1 : Int32))]) (fun _ k => XS.goto X62.here hx rfl (pc0 := 421) (pc' := 425) rfl (hb hby at_421) (by decide) (by decide) k) ?_
          exact own_retNW (s := s) (vm₁ := T60.vm) X62 hS (by rw [e62]; exact hk1) hx (t := .boolean) Bd.returns (by simp) hlk (hb hby at_425) (by decide) (by decide) (by rw [e62]; exact ⟨rfl, N62⟩)
  · subst q
    refine own_to (T' := s₁) (mkF m 175 #[iv p0, iv p1, iv p2, iv b0, iv b1, iv b2, iv b3, iv c0, iv c1, iv c2, iv c3, iv cx, iv 1, iv sh, iv d14, .unset, .unset, .unset, .unset, .unset] [(.int (1 : Int32))]) (fun _ k => XS.iload X0.here hx rfl (hb hby at_173) rfl k) ?_
    refine own_to (T' := s₁) (mkF m 178 #[iv p0, iv p1, iv p2, iv b0, iv b1, iv b2, iv b3, iv c0, iv c1, iv c2, iv c3, iv cx, iv 1, iv sh, iv d14, .unset, .unset, .unset, .unset, .unset] []) (fun _ k => XS.ifNo X0.here hx rfl (hb hby at_175) rfl ((if0 _ _).trans (feq (by decide : ¬ ((1 : Int32) = (0 : Int32)))).1) k) ?_
    refine own_to (T' := s₁) (mkF m 179 #[iv p0, iv p1, iv p2, iv b0, iv b1, iv b2, iv b3, iv c0, iv c1, iv c2, iv c3, iv cx, iv 1, iv sh, iv d14, .unset, .unset, .unset, .unset, .unset] [.null]) (fun _ k => XS.aconstNull X0.here hx rfl (hb hby at_178) k) ?_
    refine own_to (T' := s₁) (mkF m 211 #[iv p0, iv p1, iv p2, iv b0, iv b1, iv b2, iv b3, iv c0, iv c1, iv c2, iv c3, iv cx, iv 1, iv sh, iv d14, .unset, .unset, .unset, .unset, .unset] [.null]) (fun _ k => XS.goto X0.here hx rfl (pc0 := 179) (pc' := 211) rfl (hb hby at_179) (by decide) (by decide) k) ?_
    refine own_to (T' := s₁) (mkF m 213 #[iv p0, iv p1, iv p2, iv b0, iv b1, iv b2, iv b3, iv c0, iv c1, iv c2, iv c3, iv cx, iv 1, iv sh, iv d14, .val .null, .unset, .unset, .unset, .unset] []) (fun _ k => XS.astore X0.here hx rfl (hb hby at_211) rfl rfl (l' := #[iv p0, iv p1, iv p2, iv b0, iv b1, iv b2, iv b3, iv c0, iv c1, iv c2, iv c3, iv cx, iv 1, iv sh, iv d14, .val .null, .unset, .unset, .unset, .unset]) rfl k) ?_
    refine own_to (T' := s₁) (mkF m 215 #[iv p0, iv p1, iv p2, iv b0, iv b1, iv b2, iv b3, iv c0, iv c1, iv c2, iv c3, iv cx, iv 1, iv sh, iv d14, .val .null, .unset, .unset, .unset, .unset] [(.int sh)]) (fun _ k => XS.iload X0.here hx rfl (hb hby at_213) rfl k) ?_
    refine own_to (T' := s₁) (mkF m 216 #[iv p0, iv p1, iv p2, iv b0, iv b1, iv b2, iv b3, iv c0, iv c1, iv c2, iv c3, iv cx, iv 1, iv sh, iv d14, .val .null, .unset, .unset, .unset, .unset] [(.int (2 : Int32)), (.int sh)]) (fun _ k => XS.iconst X0.here hx rfl (hb hby at_215) k) ?_
    by_cases hs2 : sh = (2 : Int32)
    · refine own_to (T' := s₁) (mkF m 219 #[iv p0, iv p1, iv p2, iv b0, iv b1, iv b2, iv b3, iv c0, iv c1, iv c2, iv c3, iv cx, iv 1, iv sh, iv d14, .val .null, .unset, .unset, .unset, .unset] []) (fun _ k => XS.icmpNo X0.here hx rfl (hb hby at_216) rfl (teq hs2).2 k) ?_
      obtain ⟨T79, h79, X79, e79, E79, A79, D79, -, st79⟩ := newO X0 hx hZ hown (hw _ (List.mem_of_getElem? (i := 0) rfl)) (hw _ (List.mem_of_getElem? (i := 1) rfl)) (hw _ (List.mem_of_getElem? (i := 2) rfl)) e0 (g := (mkF m 219 #[iv p0, iv p1, iv p2, iv b0, iv b1, iv b2, iv b3, iv c0, iv c1, iv c2, iv c3, iv cx, iv 1, iv sh, iv d14, .val .null, .unset, .unset, .unset, .unset] [])) rfl (hb hby at_219) (by decide) (by decide)
      obtain ⟨b79, g79⟩ : ∃ z, z = h0.size := ⟨_, rfl⟩
      rw [← g79] at A79 D79 st79
      have sz_b79 : h0.size ≤ b79 := Nat.le_trans KP.1 (Nat.le_of_eq g79.symm)
      have ge_b79 : n0 ≤ b79 := Nat.le_trans Z0 sz_b79
      have OL := OL.ext E79
      have KP := KP.ext E79
      have hk1 := Nat.le_trans hk1 E79.1
      have E_b79 : Exa Z h79 b79 "java/lang/String" := A79
      have F_coder_b79 : Fld Z h79 b79 "java/lang/String" "coder" "B" (.int (0 : Int32)) := D79 (Or.inr (hw _ (List.mem_of_getElem? (i := 27) rfl))) (ty := .byte) (by decide)
      have F_value_b79 : Fld Z h79 b79 "java/lang/String" "value" "[B" .null := D79 (Or.inr (hw _ (List.mem_of_getElem? (i := 29) rfl))) (ty := (.array .byte)) (by decide)
      refine own_to (mkF m 222 #[iv p0, iv p1, iv p2, iv b0, iv b1, iv b2, iv b3, iv c0, iv c1, iv c2, iv c3, iv cx, iv 1, iv sh, iv d14, .val .null, .unset, .unset, .unset, .unset] [(.ref b79)]) st79 ?_
      refine own_to (T' := T79) (mkF m 223 #[iv p0, iv p1, iv p2, iv b0, iv b1, iv b2, iv b3, iv c0, iv c1, iv c2, iv c3, iv cx, iv 1, iv sh, iv d14, .val .null, .unset, .unset, .unset, .unset] [(.ref b79), (.ref b79)]) (fun _ k => XS.dup X79.here hx rfl (hb hby at_222) rfl rfl k) ?_
      refine own_to (T' := T79) (mkF m 224 #[iv p0, iv p1, iv p2, iv b0, iv b1, iv b2, iv b3, iv c0, iv c1, iv c2, iv c3, iv cx, iv 1, iv sh, iv d14, .val .null, .unset, .unset, .unset, .unset] [(.int (3 : Int32)), (.ref b79), (.ref b79)]) (fun _ k => XS.iconst X79.here hx rfl (hb hby at_223) k) ?_
      obtain ⟨T80, h80, k80, X80, e80, E80, A80, B80, st80⟩ := newPE X79 hx hZ (hw _ (List.mem_of_getElem? (i := 3) rfl)) e79 (g := (mkF m 224 #[iv p0, iv p1, iv p2, iv b0, iv b1, iv b2, iv b3, iv c0, iv c1, iv c2, iv c3, iv cx, iv 1, iv sh, iv d14, .val .null, .unset, .unset, .unset, .unset] [(.int (3 : Int32)), (.ref b79), (.ref b79)])) rfl (hb hby at_224) rfl (by decide) (cap := 3) (by decide) (by decide) (by decide) (by decide) (ad := "[C") (by decide)
      obtain ⟨b80, g80⟩ : ∃ z, z = h79.size := ⟨_, rfl⟩
      rw [← g80] at A80 B80 st80
      have sz_b80 : h0.size ≤ b80 := Nat.le_trans KP.1 (Nat.le_of_eq g80.symm)
      have ge_b80 : n0 ≤ b80 := Nat.le_trans Z0 sz_b80
      have ne_b79_b80 : b79 ≠ b80 := Nat.ne_of_lt (Nat.lt_of_lt_of_le E_b79.lt (Nat.le_of_eq g80.symm))
      have OL := OL.ext E80
      have KP := KP.ext E80
      have hk1 := Nat.le_trans hk1 E80.1
      have E_b79 := E_b79.ext E80
      have F_coder_b79 := F_coder_b79.ext E80
      have F_value_b79 := F_value_b79.ext E80
      have V_b80 : Arv Z h80 b80 k80 .char (3 : Int32) [(.int (0 : Int32)), (.int (0 : Int32)), (.int (0 : Int32))] (.int (0 : Int32)) := (Arv.new A80 (by decide)).pad (pad_rep [] (.int (0 : Int32)) 3)
      refine own_to (mkF m 226 #[iv p0, iv p1, iv p2, iv b0, iv b1, iv b2, iv b3, iv c0, iv c1, iv c2, iv c3, iv cx, iv 1, iv sh, iv d14, .val .null, .unset, .unset, .unset, .unset] [(.ref b80), (.ref b79), (.ref b79)]) st80 ?_
      refine own_to (T' := T80) (mkF m 227 #[iv p0, iv p1, iv p2, iv b0, iv b1, iv b2, iv b3, iv c0, iv c1, iv c2, iv c3, iv cx, iv 1, iv sh, iv d14, .val .null, .unset, .unset, .unset, .unset] [(.ref b80), (.ref b80), (.ref b79), (.ref b79)]) (fun _ k => XS.dup X80.here hx rfl (hb hby at_226) rfl rfl k) ?_
      refine own_to (T' := T80) (mkF m 228 #[iv p0, iv p1, iv p2, iv b0, iv b1, iv b2, iv b3, iv c0, iv c1, iv c2, iv c3, iv cx, iv 1, iv sh, iv d14, .val .null, .unset, .unset, .unset, .unset] [(.int (0 : Int32)), (.ref b80), (.ref b80), (.ref b79), (.ref b79)]) (fun _ k => XS.iconst X80.here hx rfl (hb hby at_227) k) ?_
      refine own_to (T' := T80) (mkF m 230 #[iv p0, iv p1, iv p2, iv b0, iv b1, iv b2, iv b3, iv c0, iv c1, iv c2, iv c3, iv cx, iv 1, iv sh, iv d14, .val .null, .unset, .unset, .unset, .unset] [(.int c0), (.int (0 : Int32)), (.ref b80), (.ref b80), (.ref b79), (.ref b79)]) (fun _ k => XS.iload X80.here hx rfl (hb hby at_228) rfl k) ?_
      obtain ⟨cl81, Ar81, q81, S81, M81, H81, G81⟩ := id V_b80
      obtain ⟨T81, h81, X81, e81, W81, st81⟩ := stC X80 hx hZ e80 Ar81 (j := (0 : Int32)) (inb_of S81 ⟨by decide, by decide⟩) (g := (mkF m 230 #[iv p0, iv p1, iv p2, iv b0, iv b1, iv b2, iv b3, iv c0, iv c1, iv c2, iv c3, iv cx, iv 1, iv sh, iv d14, .val .null, .unset, .unset, .unset, .unset] [(.int c0), (.int (0 : Int32)), (.ref b80), (.ref b80), (.ref b79), (.ref b79)])) rfl rfl (hb hby at_230)
      refine own_to (mkF m 231 #[iv p0, iv p1, iv p2, iv b0, iv b1, iv b2, iv b3, iv c0, iv c1, iv c2, iv c3, iv cx, iv 1, iv sh, iv d14, .val .null, .unset, .unset, .unset, .unset] [(.ref b80), (.ref b79), (.ref b79)]) st81 ?_
      have N81 := Fr.snoc X81 N0 ge_b80
      have tmp81 : Arv Z h81 b80 k80 .char (3 : Int32) [(.int (nar .char c0)), (.int (0 : Int32)), (.int (0 : Int32))] (.int (0 : Int32)) := Arv.set Ar81 q81 S81 M81 H81 G81 (fits_nar_char _) W81 0 rfl (Nat.le_of_ble_eq_true rfl)
      rw [own_nar8 c8_c0] at tmp81
      have OL := OL.wr W81 ge_b80
      have KP := KP.wr W81 (Or.inr sz_b80)
      have hk1 := Nat.le_trans hk1 (Keep.of_wr W81).1
      have E_b79 := E_b79.wr W81
      have F_coder_b79 := F_coder_b79.other W81 (Or.inl ne_b79_b80)
      have F_value_b79 := F_value_b79.other W81 (Or.inl ne_b79_b80)
      have V_b80 := tmp81
      refine own_to (T' := T81) (mkF m 232 #[iv p0, iv p1, iv p2, iv b0, iv b1, iv b2, iv b3, iv c0, iv c1, iv c2, iv c3, iv cx, iv 1, iv sh, iv d14, .val .null, .unset, .unset, .unset, .unset] [(.ref b80), (.ref b80), (.ref b79), (.ref b79)]) (fun _ k => XS.dup X81.here hx rfl (hb hby at_231) rfl rfl k) ?_
      refine own_to (T' := T81) (mkF m 233 #[iv p0, iv p1, iv p2, iv b0, iv b1, iv b2, iv b3, iv c0, iv c1, iv c2, iv c3, iv cx, iv 1, iv sh, iv d14, .val .null, .unset, .unset, .unset, .unset] [(.int (1 : Int32)), (.ref b80), (.ref b80), (.ref b79), (.ref b79)]) (fun _ k => XS.iconst X81.here hx rfl (hb hby at_232) k) ?_
      refine own_to (T' := T81) (mkF m 235 #[iv p0, iv p1, iv p2, iv b0, iv b1, iv b2, iv b3, iv c0, iv c1, iv c2, iv c3, iv cx, iv 1, iv sh, iv d14, .val .null, .unset, .unset, .unset, .unset] [(.int c1), (.int (1 : Int32)), (.ref b80), (.ref b80), (.ref b79), (.ref b79)]) (fun _ k => XS.iload X81.here hx rfl (hb hby at_233) rfl k) ?_
      obtain ⟨cl82, Ar82, q82, S82, M82, H82, G82⟩ := id V_b80
      obtain ⟨T82, h82, X82, e82, W82, st82⟩ := stC X81 hx hZ e81 Ar82 (j := (1 : Int32)) (inb_of S82 ⟨by decide, by decide⟩) (g := (mkF m 235 #[iv p0, iv p1, iv p2, iv b0, iv b1, iv b2, iv b3, iv c0, iv c1, iv c2, iv c3, iv cx, iv 1, iv sh, iv d14, .val .null, .unset, .unset, .unset, .unset] [(.int c1), (.int (1 : Int32)), (.ref b80), (.ref b80), (.ref b79), (.ref b79)])) rfl rfl (hb hby at_235)
      refine own_to (mkF m 236 #[iv p0, iv p1, iv p2, iv b0, iv b1, iv b2, iv b3, iv c0, iv c1, iv c2, iv c3, iv cx, iv 1, iv sh, iv d14, .val .null, .unset, .unset, .unset, .unset] [(.ref b80), (.ref b79), (.ref b79)]) st82 ?_
      have N82 := Fr.snoc X82 N81 ge_b80
      have tmp82 : Arv Z h82 b80 k80 .char (3 : Int32) [(.int c0), (.int (nar .char c1)), (.int (0 : Int32))] (.int (0 : Int32)) := Arv.set Ar82 q82 S82 M82 H82 G82 (fits_nar_char _) W82 1 rfl (Nat.le_of_ble_eq_true rfl)
      rw [own_nar8 c8_c1] at tmp82
      have OL := OL.wr W82 ge_b80
      have KP := KP.wr W82 (Or.inr sz_b80)
      have hk1 := Nat.le_trans hk1 (Keep.of_wr W82).1
      have E_b79 := E_b79.wr W82
      have F_coder_b79 := F_coder_b79.other W82 (Or.inl ne_b79_b80)
      have F_value_b79 := F_value_b79.other W82 (Or.inl ne_b79_b80)
      have V_b80 := tmp82
      refine own_to (T' := T82) (mkF m 237 #[iv p0, iv p1, iv p2, iv b0, iv b1, iv b2, iv b3, iv c0, iv c1, iv c2, iv c3, iv cx, iv 1, iv sh, iv d14, .val .null, .unset, .unset, .unset, .unset] [(.ref b80), (.ref b80), (.ref b79), (.ref b79)]) (fun _ k => XS.dup X82.here hx rfl (hb hby at_236) rfl rfl k) ?_
      refine own_to (T' := T82) (mkF m 238 #[iv p0, iv p1, iv p2, iv b0, iv b1, iv b2, iv b3, iv c0, iv c1, iv c2, iv c3, iv cx, iv 1, iv sh, iv d14, .val .null, .unset, .unset, .unset, .unset] [(.int (2 : Int32)), (.ref b80), (.ref b80), (.ref b79), (.ref b79)]) (fun _ k => XS.iconst X82.here hx rfl (hb hby at_237) k) ?_
      refine own_to (T' := T82) (mkF m 240 #[iv p0, iv p1, iv p2, iv b0, iv b1, iv b2, iv b3, iv c0, iv c1, iv c2, iv c3, iv cx, iv 1, iv sh, iv d14, .val .null, .unset, .unset, .unset, .unset] [(.int c2), (.int (2 : Int32)), (.ref b80), (.ref b80), (.ref b79), (.ref b79)]) (fun _ k => XS.iload X82.here hx rfl (hb hby at_238) rfl k) ?_
      obtain ⟨cl83, Ar83, q83, S83, M83, H83, G83⟩ := id V_b80
      obtain ⟨T83, h83, X83, e83, W83, st83⟩ := stC X82 hx hZ e82 Ar83 (j := (2 : Int32)) (inb_of S83 ⟨by decide, by decide⟩) (g := (mkF m 240 #[iv p0, iv p1, iv p2, iv b0, iv b1, iv b2, iv b3, iv c0, iv c1, iv c2, iv c3, iv cx, iv 1, iv sh, iv d14, .val .null, .unset, .unset, .unset, .unset] [(.int c2), (.int (2 : Int32)), (.ref b80), (.ref b80), (.ref b79), (.ref b79)])) rfl rfl (hb hby at_240)
      refine own_to (mkF m 241 #[iv p0, iv p1, iv p2, iv b0, iv b1, iv b2, iv b3, iv c0, iv c1, iv c2, iv c3, iv cx, iv 1, iv sh, iv d14, .val .null, .unset, .unset, .unset, .unset] [(.ref b80), (.ref b79), (.ref b79)]) st83 ?_
      have N83 := Fr.snoc X83 N82 ge_b80
      have tmp83 : Arv Z h83 b80 k80 .char (3 : Int32) [(.int c0), (.int c1), (.int (nar .char c2))] (.int (0 : Int32)) := Arv.set Ar83 q83 S83 M83 H83 G83 (fits_nar_char _) W83 2 rfl (Nat.le_of_ble_eq_true rfl)
      rw [own_nar8 c8_c2] at tmp83
      have OL := OL.wr W83 ge_b80
      have KP := KP.wr W83 (Or.inr sz_b80)
      have hk1 := Nat.le_trans hk1 (Keep.of_wr W83).1
      have E_b79 := E_b79.wr W83
      have F_coder_b79 := F_coder_b79.other W83 (Or.inl ne_b79_b80)
      have F_value_b79 := F_value_b79.other W83 (Or.inl ne_b79_b80)
      have V_b80 := tmp83
      have hp84 : ∀ c ∈ ([c0, c1, c2] : List Int32), ¬ c < 0 ∧ ¬ (255 : Int32) < c := (own_allS c8_c0 (own_allS c8_c1 (own_allS c8_c2 own_all0)))
      have KP0 := KP
      have lt0_b79 := E_b79.lt
      have lt0_b80 := V_b80.lt
      obtain ⟨_, _, ⟨T85, L85, k85, n85⟩, -, X85, ⟨Lc85, hQ85, l85, y85, z85⟩, st85⟩ := X83.specialBack hx (y := (⟨"java/lang/String", "<init>", "([C)V"⟩ : MethodName)) rfl hown (mvT hZ (hw _ (List.mem_of_getElem? (i := 4) rfl))) (mvT hZ (hw _ (List.mem_of_getElem? (i := 5) rfl))) (mvT hZ (hw _ (List.mem_of_getElem? (i := 6) rfl))) (by decide) (StrChars.Road.backV (W := 1) hZ hwsV (kI := 4) (hw _ (List.mem_of_getElem? (i := 1) rfl)) (cs := ([c0, c1, c2] : List Int32)) (bs := (([c0, c1, c2] : List Int32)).map (fun c => c.toInt8.toInt32)) (n := 3) ge_b79 (Nat.le_trans Z0 KP.1) E_b79 F_value_b79 F_coder_b79 V_b80 (O2.ext OL.2) P5 rfl rfl (by decide) (by decide) hp84 rfl (by decide) (by decide)) (g := (mkF m 241 #[iv p0, iv p1, iv p2, iv b0, iv b1, iv b2, iv b3, iv c0, iv c1, iv c2, iv c3, iv cx, iv 1, iv sh, iv d14, .val .null, .unset, .unset, .unset, .unset] [(.ref b80), (.ref b79), (.ref b79)])) rfl (by rw [hml]; rfl) (Steps.refl _) (a := b79) (argsL := [(.ref b80)]) (rest := [(.ref b79)]) (lenOf own_pd1 rfl) rfl (by show 2 * 0 + _ ≤ _; exact Nat.le_of_eq rfl) (hb hby at_241) (fun _ _ => ⟨rfl, e83, (by decide : 2 + 1 ≤ _), (by decide : 7 + 3 ≤ _)⟩)
      dsimp only [Pt.U, Pt.locs, Pt.cells, Pt.slots] at X85 l85 y85 z85 st85 hQ85
      subst l85 y85 z85
      obtain ⟨rfl, N85q, K85, Ex85, Cx85, t_co, kb_co, ge_t_co, sz0_t_co, ne_t_co_b79, Vx85, Kx85⟩ := hQ85
      have N85 := Fr.app N83 N85q
      have OL := OL.keep K85 (allS ge_b79 all0)
      have KP := KP.trans K85 (allS (Or.inr sz_b79) all0)
      have hk1 := Nat.le_trans hk1 K85.1
      have E_b79 := E_b79.keep K85
      have V_b80 := V_b80.keep K85 (ninS (Ne.symm ne_b79_b80) nin0)
      refine own_via (mkF m 244 #[iv p0, iv p1, iv p2, iv b0, iv b1, iv b2, iv b3, iv c0, iv c1, iv c2, iv c3, iv cx, iv 1, iv sh, iv d14, .val .null, .unset, .unset, .unset, .unset] [(.ref b79)]) st85 ?_
      have sz_t_co : h0.size ≤ t_co := Nat.le_trans KP0.1 sz0_t_co
      have ne_b80_t_co : b80 ≠ t_co := Nat.ne_of_lt (Nat.lt_of_lt_of_le lt0_b80 sz0_t_co)
      have S_co : own_Str Z T85.heap b79 t_co kb_co ([c0, c1, c2] : List Int32) := ⟨Ex85, Vx85, Cx85, Kx85, hp84, Nat.le_of_ble_eq_true rfl⟩
      refine own_to (T' := T85) (mkF m 246 #[iv p0, iv p1, iv p2, iv b0, iv b1, iv b2, iv b3, iv c0, iv c1, iv c2, iv c3, iv cx, iv 1, iv sh, iv d14, .val .null, rv b79, .unset, .unset, .unset] []) (fun _ k => XS.astore X85.here hx rfl (hb hby at_244) rfl rfl (l' := #[iv p0, iv p1, iv p2, iv b0, iv b1, iv b2, iv b3, iv c0, iv c1, iv c2, iv c3, iv cx, iv 1, iv sh, iv d14, .val .null, rv b79, .unset, .unset, .unset]) rfl k) ?_
      refine own_to (T' := T85) (mkF m 247 #[iv p0, iv p1, iv p2, iv b0, iv b1, iv b2, iv b3, iv c0, iv c1, iv c2, iv c3, iv cx, iv 1, iv sh, iv d14, .val .null, rv b79, .unset, .unset, .unset] [(.int (3 : Int32))]) (fun _ k => XS.iconst X85.here hx rfl (hb hby at_246) k) ?_
      refine own_to (T' := T85) (mkF m 249 #[iv p0, iv p1, iv p2, iv b0, iv b1, iv b2, iv b3, iv c0, iv c1, iv c2, iv c3, iv cx, iv 1, iv sh, iv d14, .val .null, rv b79, iv 3, .unset, .unset] []) (fun _ k => XS.istore X85.here hx rfl (hb hby at_247) rfl (l' := #[iv p0, iv p1, iv p2, iv b0, iv b1, iv b2, iv b3, iv c0, iv c1, iv c2, iv c3, iv cx, iv 1, iv sh, iv d14, .val .null, rv b79, iv 3, .unset, .unset]) rfl k) ?_
      refine own_to (T' := T85) (mkF m 336 #[iv p0, iv p1, iv p2, iv b0, iv b1, iv b2, iv b3, iv c0, iv c1, iv c2, iv c3, iv cx, iv 1, iv sh, iv d14, .val .null, rv b79, iv 3, .unset, .unset] []) (fun _ k => XS.goto X85.here hx rfl (pc0 := 249) (pc' := 336) rfl (hb hby at_249) (by decide) (by decide) k) ?_
      refine own_to (T' := T85) (mkF m 338 #[iv p0, iv p1, iv p2, iv b0, iv b1, iv b2, iv b3, iv c0, iv c1, iv c2, iv c3, iv cx, iv 1, iv sh, iv d14, .val .null, rv b79, iv 3, .unset, .unset] [(.int (1 : Int32))]) (fun _ k => XS.iload X85.here hx rfl (hb hby at_336) rfl k) ?_
      refine own_to (T' := T85) (mkF m 341 #[iv p0, iv p1, iv p2, iv b0, iv b1, iv b2, iv b3, iv c0, iv c1, iv c2, iv c3, iv cx, iv 1, iv sh, iv d14, .val .null, rv b79, iv 3, .unset, .unset] []) (fun _ k => XS.ifNo X85.here hx rfl (hb hby at_338) rfl ((if0 _ _).trans (feq (by decide : ¬ ((1 : Int32) = (0 : Int32)))).1) k) ?_
      refine own_to (T' := T85) (mkF m 342 #[iv p0, iv p1, iv p2, iv b0, iv b1, iv b2, iv b3, iv c0, iv c1, iv c2, iv c3, iv cx, iv 1, iv sh, iv d14, .val .null, rv b79, iv 3, .unset, .unset] [(.int (1 : Int32))]) (fun _ k => XS.iconst X85.here hx rfl (hb hby at_341) k) ?_
      refine own_to (T' := T85) (mkF m 344 #[iv p0, iv p1, iv p2, iv b0, iv b1, iv b2, iv b3, iv c0, iv c1, iv c2, iv c3, iv cx, iv 1, iv sh, iv d14, .val .null, rv b79, iv 3, iv 1, .unset] []) (fun _ k => XS.istore X85.here hx rfl (hb hby at_342) rfl (l' := #[iv p0, iv p1, iv p2, iv b0, iv b1, iv b2, iv b3, iv c0, iv c1, iv c2, iv c3, iv cx, iv 1, iv sh, iv d14, .val .null, rv b79, iv 3, iv 1, .unset]) rfl k) ?_
      refine own_to (T' := T85) (mkF m 393 #[iv p0, iv p1, iv p2, iv b0, iv b1, iv b2, iv b3, iv c0, iv c1, iv c2, iv c3, iv cx, iv 1, iv sh, iv d14, .val .null, rv b79, iv 3, iv 1, .unset] []) (fun _ k => XS.goto X85.here hx rfl (pc0 := 344) (pc' := 393) rfl (hb hby at_344) (by decide) (by decide) k) ?_
      obtain ⟨T86, h86, X86, e86, E86, A86, D86, -, st86⟩ := newO X85 hx hZ hown (hw _ (List.mem_of_getElem? (i := 30) rfl)) (hw _ (List.mem_of_getElem? (i := 31) rfl)) (hw _ (List.mem_of_getElem? (i := 32) rfl)) rfl (g := (mkF m 393 #[iv p0, iv p1, iv p2, iv b0, iv b1, iv b2, iv b3, iv c0, iv c1, iv c2, iv c3, iv cx, iv 1, iv sh, iv d14, .val .null, rv b79, iv 3, iv 1, .unset] [])) rfl (hb hby at_393) (by decide) (by decide)
      obtain ⟨b86, g86⟩ : ∃ z, z = T85.heap.size := ⟨_, rfl⟩
      rw [← g86] at A86 D86 st86
      have sz_b86 : h0.size ≤ b86 := Nat.le_trans KP.1 (Nat.le_of_eq g86.symm)
      have ge_b86 : n0 ≤ b86 := Nat.le_trans Z0 sz_b86
      have ne_b80_b86 : b80 ≠ b86 := Nat.ne_of_lt (Nat.lt_of_lt_of_le V_b80.lt (Nat.le_of_eq g86.symm))
      have ne_b79_b86 : b79 ≠ b86 := Nat.ne_of_lt (Nat.lt_of_lt_of_le S_co.lt (Nat.le_of_eq g86.symm))
      have ne_t_co_b86 : t_co ≠ b86 := Nat.ne_of_lt (Nat.lt_of_lt_of_le S_co.ltT (Nat.le_of_eq g86.symm))
      have OL := OL.ext E86
      have KP := KP.ext E86
      have hk1 := Nat.le_trans hk1 E86.1
      have V_b80 := V_b80.ext E86
      have S_co := S_co.ext E86
      have E_b86 : Exa Z h86 b86 "com/example/saldera/saldera/coupon/Cashier" := A86
      have F_username_b86 : Fld Z h86 b86 "com/example/saldera/saldera/coupon/Cashier" "username" "Ljava/lang/String;" .null := D86 (Or.inr (hw _ (List.mem_of_getElem? (i := 41) rfl))) (ty := (.object "java/lang/String")) (by decide)
      have F_branch_b86 : Fld Z h86 b86 "com/example/saldera/saldera/coupon/Cashier" "branch" "Ljava/lang/String;" .null := D86 (Or.inr (hw _ (List.mem_of_getElem? (i := 43) rfl))) (ty := (.object "java/lang/String")) (by decide)
      have F_crossBranch_b86 : Fld Z h86 b86 "com/example/saldera/saldera/coupon/Cashier" "crossBranch" "Z" (.int (0 : Int32)) := D86 (Or.inr (hw _ (List.mem_of_getElem? (i := 45) rfl))) (ty := .boolean) (by decide)
      refine own_to (mkF m 396 #[iv p0, iv p1, iv p2, iv b0, iv b1, iv b2, iv b3, iv c0, iv c1, iv c2, iv c3, iv cx, iv 1, iv sh, iv d14, .val .null, rv b79, iv 3, iv 1, .unset] [(.ref b86)]) st86 ?_
      refine own_to (T' := T86) (mkF m 397 #[iv p0, iv p1, iv p2, iv b0, iv b1, iv b2, iv b3, iv c0, iv c1, iv c2, iv c3, iv cx, iv 1, iv sh, iv d14, .val .null, rv b79, iv 3, iv 1, .unset] [(.ref b86), (.ref b86)]) (fun _ k => XS.dup X86.here hx rfl (hb hby at_396) rfl rfl k) ?_
      obtain ⟨aU, T87, h87, k1, X87, e87, E87, hS, hk2, hZ, hown, st87⟩ := ldcS (s := s) (vm0 := s.vm) X86 hx hZ hown (hw _ (List.mem_of_getElem? (i := 33) rfl)) hwsS e86 hS hk1 (g := (mkF m 397 #[iv p0, iv p1, iv p2, iv b0, iv b1, iv b2, iv b3, iv c0, iv c1, iv c2, iv c3, iv cx, iv 1, iv sh, iv d14, .val .null, rv b79, iv 3, iv 1, .unset] [(.ref b86), (.ref b86)])) rfl (hb hby at_397) (n := 4) (by decide) (by decide) (by decide) (by decide)
      have OL := OL.ext E87
      have KP := KP.ext E87
      have V_b80 := V_b80.ext E87
      have S_co := S_co.ext E87
      have E_b86 := E_b86.ext E87
      have F_username_b86 := F_username_b86.ext E87
      have F_branch_b86 := F_branch_b86.ext E87
      have F_crossBranch_b86 := F_crossBranch_b86.ext E87
      have hk1 := hk2
      refine own_to (mkF m 399 #[iv p0, iv p1, iv p2, iv b0, iv b1, iv b2, iv b3, iv c0, iv c1, iv c2, iv c3, iv cx, iv 1, iv sh, iv d14, .val .null, rv b79, iv 3, iv 1, .unset] [(.ref aU), (.ref b86), (.ref b86)]) st87 ?_
      refine own_to (T' := T87) (mkF m 401 #[iv p0, iv p1, iv p2, iv b0, iv b1, iv b2, iv b3, iv c0, iv c1, iv c2, iv c3, iv cx, iv 1, iv sh, iv d14, .val .null, rv b79, iv 3, iv 1, .unset] [.null, (.ref aU), (.ref b86), (.ref b86)]) (fun _ k => XS.aload X87.here hx rfl (hb hby at_399) rfl rfl k) ?_
      refine own_to (T' := T87) (mkF m 403 #[iv p0, iv p1, iv p2, iv b0, iv b1, iv b2, iv b3, iv c0, iv c1, iv c2, iv c3, iv cx, iv 1, iv sh, iv d14, .val .null, rv b79, iv 3, iv 1, .unset] [(.int d14), .null, (.ref aU), (.ref b86), (.ref b86)]) (fun _ k => XS.iload X87.here hx rfl (hb hby at_401) rfl k) ?_
      obtain ⟨_, _, ⟨T88, L88, k88, n88⟩, -, X88, ⟨Lc88, hQ88, l88, y88, z88⟩, st88⟩ := X87.specialBack hx (y := (⟨"com/example/saldera/saldera/coupon/Cashier", "<init>", "(Ljava/lang/String;Ljava/lang/String;Z)V"⟩ : MethodName)) rfl hown (mvT hZ (hw _ (List.mem_of_getElem? (i := 36) rfl))) (mvT hZ (hw _ (List.mem_of_getElem? (i := 37) rfl))) (mvT hZ (hw _ (List.mem_of_getElem? (i := 38) rfl))) (by decide) (backOf (W := 1) (own_rmCN l Z a0 hw [] b86 aU  d14 h87 n0 (Nat.le_trans Z0 KP.1) OL E_b86 ge_b86 F_username_b86 F_branch_b86 F_crossBranch_b86) hZ (hw _ (List.mem_of_getElem? (i := 38) rfl)) (hw _ (List.mem_of_getElem? (i := 32) rfl)) (by decide) (by decide)) (g := (mkF m 403 #[iv p0, iv p1, iv p2, iv b0, iv b1, iv b2, iv b3, iv c0, iv c1, iv c2, iv c3, iv cx, iv 1, iv sh, iv d14, .val .null, rv b79, iv 3, iv 1, .unset] [(.int d14), .null, (.ref aU), (.ref b86), (.ref b86)])) rfl (by rw [hml]; rfl) (Steps.refl _) (a := b86) (argsL := [(.ref aU), .null, (.int d14)]) (rest := [(.ref b86)]) (lenOf own_pd2 rfl) rfl (by show 2 * 0 + _ ≤ _; exact Nat.le_of_eq rfl) (hb hby at_403) (fun _ _ => ⟨rfl, e87, (by decide : 6 + 0 ≤ _), (by decide : 21 + 0 ≤ _)⟩)
      dsimp only [Pt.U, Pt.locs, Pt.cells, Pt.slots] at X88 l88 y88 z88 st88 hQ88
      subst l88 y88 z88
      obtain ⟨rfl, N88q, K88, Ea88, Fb88, Fx88⟩ := hQ88
      have N88 := Fr.app N85 N88q
      have OL := OL.keep K88 (allS ge_b86 all0)
      have KP := KP.trans K88 (allS (Or.inr sz_b86) all0)
      have hk1 := Nat.le_trans hk1 K88.1
      have V_b80 := V_b80.keep K88 (ninS ne_b80_b86 nin0)
      have S_co := S_co.keep K88 (ninS ne_b79_b86 nin0) (ninS ne_t_co_b86 nin0)
      have E_b86 := E_b86.keep K88
      refine own_via (mkF m 406 #[iv p0, iv p1, iv p2, iv b0, iv b1, iv b2, iv b3, iv c0, iv c1, iv c2, iv c3, iv cx, iv 1, iv sh, iv d14, .val .null, rv b79, iv 3, iv 1, .unset] [(.ref b86)]) st88 ?_
      have EC : Exa Z T88.heap b86 "com/example/saldera/saldera/coupon/Cashier" := Ea88
      have FB : Fld Z T88.heap b86 "com/example/saldera/saldera/coupon/Cashier" "branch" "Ljava/lang/String;" .null := Fb88
      refine own_to (T' := T88) (mkF m 408 #[iv p0, iv p1, iv p2, iv b0, iv b1, iv b2, iv b3, iv c0, iv c1, iv c2, iv c3, iv cx, iv 1, iv sh, iv d14, .val .null, rv b79, iv 3, iv 1, rv b86] []) (fun _ k => XS.astore X88.here hx rfl (hb hby at_406) rfl rfl (l' := #[iv p0, iv p1, iv p2, iv b0, iv b1, iv b2, iv b3, iv c0, iv c1, iv c2, iv c3, iv cx, iv 1, iv sh, iv d14, .val .null, rv b79, iv 3, iv 1, rv b86]) rfl k) ?_
      refine own_to (T' := T88) (mkF m 410 #[iv p0, iv p1, iv p2, iv b0, iv b1, iv b2, iv b3, iv c0, iv c1, iv c2, iv c3, iv cx, iv 1, iv sh, iv d14, .val .null, rv b79, iv 3, iv 1, rv b86] [(.ref b86)]) (fun _ k => XS.aload X88.here hx rfl (hb hby at_408) rfl rfl k) ?_
      refine own_to (T' := T88) (mkF m 412 #[iv p0, iv p1, iv p2, iv b0, iv b1, iv b2, iv b3, iv c0, iv c1, iv c2, iv c3, iv cx, iv 1, iv sh, iv d14, .val .null, rv b79, iv 3, iv 1, rv b86] [(.ref b79), (.ref b86)]) (fun _ k => XS.aload X88.here hx rfl (hb hby at_410) rfl rfl k) ?_
      obtain ⟨cq89, kq89, q89a, q89b, q89c⟩ := isOf hZ rfl EC
      obtain ⟨_, _, ⟨T89, L89, k89, n89⟩, -, X89, ⟨Lc89, hQ89, l89, y89, z89⟩, st89⟩ := X88.virtualBack hx (y := (⟨"com/example/saldera/saldera/coupon/Cashier", "isOtherBranch", "(Ljava/lang/String;)Z"⟩ : MethodName)) (z := (⟨"com/example/saldera/saldera/coupon/Cashier", "isOtherBranch", "(Ljava/lang/String;)Z"⟩ : MethodName)) hown (mvT hZ (hw _ (List.mem_of_getElem? (i := 46) rfl))) (mvT hZ (hw _ (List.mem_of_getElem? (i := 47) rfl))) (notFace_of_selects (args := #[]) (mvT hZ (hw _ (List.mem_of_getElem? (i := 49) rfl)))) (mvT hZ (hw _ (List.mem_of_getElem? (i := 49) rfl))) (mvT hZ (hw _ (List.mem_of_getElem? (i := 48) rfl))) (by decide) (backOf (W := 0) (own_rmON l Z a0 hw [] b86 b79 T88.heap n0 (Nat.le_trans Z0 KP.1) OL FB S_co.1) hZ (hw _ (List.mem_of_getElem? (i := 50) rfl)) (hw _ (List.mem_of_getElem? (i := 32) rfl)) (by decide) (by decide)) q89a q89c (g := (mkF m 412 #[iv p0, iv p1, iv p2, iv b0, iv b1, iv b2, iv b3, iv c0, iv c1, iv c2, iv c3, iv cx, iv 1, iv sh, iv d14, .val .null, rv b79, iv 3, iv 1, rv b86] [(.ref b79), (.ref b86)])) rfl (by rw [hml]; rfl) (Steps.refl _) (argsL := [(.ref b79)]) (rest := []) (lenOf own_pd3 rfl) rfl (by show 2 * 0 + _ ≤ _; exact Nat.le_of_eq rfl) (hb hby at_412) (fun _ _ => ⟨rfl, rfl, (by decide : 6 + 0 ≤ _), (by decide : 21 + 0 ≤ _)⟩)
      dsimp only [Pt.U, Pt.locs, Pt.cells, Pt.slots] at X89 l89 y89 z89 st89 hQ89
      subst l89 y89 z89
      obtain ⟨rfl, N89q, e89⟩ := hQ89
      have N89 := Fr.app N88 N89q
      refine own_via (mkF m 415 #[iv p0, iv p1, iv p2, iv b0, iv b1, iv b2, iv b3, iv c0, iv c1, iv c2, iv c3, iv cx, iv 1, iv sh, iv d14, .val .null, rv b79, iv 3, iv 1, rv b86] [(.int (1 : Int32))]) st89 ?_
      refine own_to (T' := T89) (mkF m 417 #[iv p0, iv p1, iv p2, iv b0, iv b1, iv b2, iv b3, iv c0, iv c1, iv c2, iv c3, iv cx, iv 1, iv sh, iv d14, .val .null, rv b79, iv 3, iv 1, rv b86] [(.int (1 : Int32)), (.int (1 : Int32))]) (fun _ k => XS.iload X89.here hx rfl (hb hby at_415) rfl k) ?_
      refine own_to (T' := T89) (mkF m 420 #[iv p0, iv p1, iv p2, iv b0, iv b1, iv b2, iv b3, iv c0, iv c1, iv c2, iv c3, iv cx, iv 1, iv sh, iv d14, .val .null, rv b79, iv 3, iv 1, rv b86] []) (fun _ k => XS.icmpNo X89.here hx rfl (hb hby at_417) rfl (teq (by decide : (1 : Int32) = (1 : Int32))).2 k) ?_
      refine own_to (T' := T89) (mkF m 421 #[iv p0, iv p1, iv p2, iv b0, iv b1, iv b2, iv b3, iv c0, iv c1, iv c2, iv c3, iv cx, iv 1, iv sh, iv d14, .val .null, rv b79, iv 3, iv 1, rv b86] [(.int (1 : Int32))]) (fun _ k => XS.iconst X89.here hx rfl (hb hby at_420) k) ?_
      refine own_to (T' := T89) (mkF m 425 #[iv p0, iv p1, iv p2, iv b0, iv b1, iv b2, iv b3, iv c0, iv c1, iv c2, iv c3, iv cx, iv 1, iv sh, iv d14, .val .null, rv b79, iv 3, iv 1, rv b86] [(.int (1 : Int32))]) (fun _ k => XS.goto X89.here hx rfl (pc0 := 421) (pc' := 425) rfl (hb hby at_421) (by decide) (by decide) k) ?_
      exact own_retNW (s := s) (vm₁ := T87.vm) X89 hS (by rw [e89]; exact hk1) hx (t := .boolean) Bd.returns (by simp) hlk (hb hby at_425) (by decide) (by decide) (by rw [e89]; exact ⟨rfl, N89⟩)
    · refine own_to (T' := s₁) (mkF m 252 #[iv p0, iv p1, iv p2, iv b0, iv b1, iv b2, iv b3, iv c0, iv c1, iv c2, iv c3, iv cx, iv 1, iv sh, iv d14, .val .null, .unset, .unset, .unset, .unset] []) (fun _ k => XS.icmpYes X0.here hx rfl (pc0 := 216) (pc' := 252) rfl (hb hby at_216) rfl (feq hs2).2 (by decide) (by decide) k) ?_
      refine own_to (T' := s₁) (mkF m 254 #[iv p0, iv p1, iv p2, iv b0, iv b1, iv b2, iv b3, iv c0, iv c1, iv c2, iv c3, iv cx, iv 1, iv sh, iv d14, .val .null, .unset, .unset, .unset, .unset] [(.int sh)]) (fun _ k => XS.iload X0.here hx rfl (hb hby at_252) rfl k) ?_
      refine own_to (T' := s₁) (mkF m 255 #[iv p0, iv p1, iv p2, iv b0, iv b1, iv b2, iv b3, iv c0, iv c1, iv c2, iv c3, iv cx, iv 1, iv sh, iv d14, .val .null, .unset, .unset, .unset, .unset] [(.int (3 : Int32)), (.int sh)]) (fun _ k => XS.iconst X0.here hx rfl (hb hby at_254) k) ?_
      by_cases hs3 : sh = (3 : Int32)
      · refine own_to (T' := s₁) (mkF m 258 #[iv p0, iv p1, iv p2, iv b0, iv b1, iv b2, iv b3, iv c0, iv c1, iv c2, iv c3, iv cx, iv 1, iv sh, iv d14, .val .null, .unset, .unset, .unset, .unset] []) (fun _ k => XS.icmpNo X0.here hx rfl (hb hby at_255) rfl (teq hs3).2 k) ?_
        obtain ⟨T90, h90, X90, e90, E90, A90, D90, -, st90⟩ := newO X0 hx hZ hown (hw _ (List.mem_of_getElem? (i := 0) rfl)) (hw _ (List.mem_of_getElem? (i := 1) rfl)) (hw _ (List.mem_of_getElem? (i := 2) rfl)) e0 (g := (mkF m 258 #[iv p0, iv p1, iv p2, iv b0, iv b1, iv b2, iv b3, iv c0, iv c1, iv c2, iv c3, iv cx, iv 1, iv sh, iv d14, .val .null, .unset, .unset, .unset, .unset] [])) rfl (hb hby at_258) (by decide) (by decide)
        obtain ⟨b90, g90⟩ : ∃ z, z = h0.size := ⟨_, rfl⟩
        rw [← g90] at A90 D90 st90
        have sz_b90 : h0.size ≤ b90 := Nat.le_trans KP.1 (Nat.le_of_eq g90.symm)
        have ge_b90 : n0 ≤ b90 := Nat.le_trans Z0 sz_b90
        have OL := OL.ext E90
        have KP := KP.ext E90
        have hk1 := Nat.le_trans hk1 E90.1
        have E_b90 : Exa Z h90 b90 "java/lang/String" := A90
        have F_coder_b90 : Fld Z h90 b90 "java/lang/String" "coder" "B" (.int (0 : Int32)) := D90 (Or.inr (hw _ (List.mem_of_getElem? (i := 27) rfl))) (ty := .byte) (by decide)
        have F_value_b90 : Fld Z h90 b90 "java/lang/String" "value" "[B" .null := D90 (Or.inr (hw _ (List.mem_of_getElem? (i := 29) rfl))) (ty := (.array .byte)) (by decide)
        refine own_to (mkF m 261 #[iv p0, iv p1, iv p2, iv b0, iv b1, iv b2, iv b3, iv c0, iv c1, iv c2, iv c3, iv cx, iv 1, iv sh, iv d14, .val .null, .unset, .unset, .unset, .unset] [(.ref b90)]) st90 ?_
        refine own_to (T' := T90) (mkF m 262 #[iv p0, iv p1, iv p2, iv b0, iv b1, iv b2, iv b3, iv c0, iv c1, iv c2, iv c3, iv cx, iv 1, iv sh, iv d14, .val .null, .unset, .unset, .unset, .unset] [(.ref b90), (.ref b90)]) (fun _ k => XS.dup X90.here hx rfl (hb hby at_261) rfl rfl k) ?_
        refine own_to (T' := T90) (mkF m 263 #[iv p0, iv p1, iv p2, iv b0, iv b1, iv b2, iv b3, iv c0, iv c1, iv c2, iv c3, iv cx, iv 1, iv sh, iv d14, .val .null, .unset, .unset, .unset, .unset] [(.int (5 : Int32)), (.ref b90), (.ref b90)]) (fun _ k => XS.iconst X90.here hx rfl (hb hby at_262) k) ?_
        obtain ⟨T91, h91, k91, X91, e91, E91, A91, B91, st91⟩ := newPE X90 hx hZ (hw _ (List.mem_of_getElem? (i := 3) rfl)) e90 (g := (mkF m 263 #[iv p0, iv p1, iv p2, iv b0, iv b1, iv b2, iv b3, iv c0, iv c1, iv c2, iv c3, iv cx, iv 1, iv sh, iv d14, .val .null, .unset, .unset, .unset, .unset] [(.int (5 : Int32)), (.ref b90), (.ref b90)])) rfl (hb hby at_263) rfl (by decide) (cap := 5) (by decide) (by decide) (by decide) (by decide) (ad := "[C") (by decide)
        obtain ⟨b91, g91⟩ : ∃ z, z = h90.size := ⟨_, rfl⟩
        rw [← g91] at A91 B91 st91
        have sz_b91 : h0.size ≤ b91 := Nat.le_trans KP.1 (Nat.le_of_eq g91.symm)
        have ge_b91 : n0 ≤ b91 := Nat.le_trans Z0 sz_b91
        have ne_b90_b91 : b90 ≠ b91 := Nat.ne_of_lt (Nat.lt_of_lt_of_le E_b90.lt (Nat.le_of_eq g91.symm))
        have OL := OL.ext E91
        have KP := KP.ext E91
        have hk1 := Nat.le_trans hk1 E91.1
        have E_b90 := E_b90.ext E91
        have F_coder_b90 := F_coder_b90.ext E91
        have F_value_b90 := F_value_b90.ext E91
        have V_b91 : Arv Z h91 b91 k91 .char (5 : Int32) [(.int (0 : Int32)), (.int (0 : Int32)), (.int (0 : Int32)), (.int (0 : Int32)), (.int (0 : Int32))] (.int (0 : Int32)) := (Arv.new A91 (by decide)).pad (pad_rep [] (.int (0 : Int32)) 5)
        refine own_to (mkF m 265 #[iv p0, iv p1, iv p2, iv b0, iv b1, iv b2, iv b3, iv c0, iv c1, iv c2, iv c3, iv cx, iv 1, iv sh, iv d14, .val .null, .unset, .unset, .unset, .unset] [(.ref b91), (.ref b90), (.ref b90)]) st91 ?_
        refine own_to (T' := T91) (mkF m 266 #[iv p0, iv p1, iv p2, iv b0, iv b1, iv b2, iv b3, iv c0, iv c1, iv c2, iv c3, iv cx, iv 1, iv sh, iv d14, .val .null, .unset, .unset, .unset, .unset] [(.ref b91), (.ref b91), (.ref b90), (.ref b90)]) (fun _ k => XS.dup X91.here hx rfl (hb hby at_265) rfl rfl k) ?_
        refine own_to (T' := T91) (mkF m 267 #[iv p0, iv p1, iv p2, iv b0, iv b1, iv b2, iv b3, iv c0, iv c1, iv c2, iv c3, iv cx, iv 1, iv sh, iv d14, .val .null, .unset, .unset, .unset, .unset] [(.int (0 : Int32)), (.ref b91), (.ref b91), (.ref b90), (.ref b90)]) (fun _ k => XS.iconst X91.here hx rfl (hb hby at_266) k) ?_
        refine own_to (T' := T91) (mkF m 269 #[iv p0, iv p1, iv p2, iv b0, iv b1, iv b2, iv b3, iv c0, iv c1, iv c2, iv c3, iv cx, iv 1, iv sh, iv d14, .val .null, .unset, .unset, .unset, .unset] [(.int c0), (.int (0 : Int32)), (.ref b91), (.ref b91), (.ref b90), (.ref b90)]) (fun _ k => XS.iload X91.here hx rfl (hb hby at_267) rfl k) ?_
        obtain ⟨cl92, Ar92, q92, S92, M92, H92, G92⟩ := id V_b91
        obtain ⟨T92, h92, X92, e92, W92, st92⟩ := stC X91 hx hZ e91 Ar92 (j := (0 : Int32)) (inb_of S92 ⟨by decide, by decide⟩) (g := (mkF m 269 #[iv p0, iv p1, iv p2, iv b0, iv b1, iv b2, iv b3, iv c0, iv c1, iv c2, iv c3, iv cx, iv 1, iv sh, iv d14, .val .null, .unset, .unset, .unset, .unset] [(.int c0), (.int (0 : Int32)), (.ref b91), (.ref b91), (.ref b90), (.ref b90)])) rfl rfl (hb hby at_269)
        refine own_to (mkF m 270 #[iv p0, iv p1, iv p2, iv b0, iv b1, iv b2, iv b3, iv c0, iv c1, iv c2, iv c3, iv cx, iv 1, iv sh, iv d14, .val .null, .unset, .unset, .unset, .unset] [(.ref b91), (.ref b90), (.ref b90)]) st92 ?_
        have N92 := Fr.snoc X92 N0 ge_b91
        have tmp92 : Arv Z h92 b91 k91 .char (5 : Int32) [(.int (nar .char c0)), (.int (0 : Int32)), (.int (0 : Int32)), (.int (0 : Int32)), (.int (0 : Int32))] (.int (0 : Int32)) := Arv.set Ar92 q92 S92 M92 H92 G92 (fits_nar_char _) W92 0 rfl (Nat.le_of_ble_eq_true rfl)
        rw [own_nar8 c8_c0] at tmp92
        have OL := OL.wr W92 ge_b91
        have KP := KP.wr W92 (Or.inr sz_b91)
        have hk1 := Nat.le_trans hk1 (Keep.of_wr W92).1
        have E_b90 := E_b90.wr W92
        have F_coder_b90 := F_coder_b90.other W92 (Or.inl ne_b90_b91)
        have F_value_b90 := F_value_b90.other W92 (Or.inl ne_b90_b91)
        have V_b91 := tmp92
        refine own_to (T' := T92) (mkF m 271 #[iv p0, iv p1, iv p2, iv b0, iv b1, iv b2, iv b3, iv c0, iv c1, iv c2, iv c3, iv cx, iv 1, iv sh, iv d14, .val .null, .unset, .unset, .unset, .unset] [(.ref b91), (.ref b91), (.ref b90), (.ref b90)]) (fun _ k => XS.dup X92.here hx rfl (hb hby at_270) rfl rfl k) ?_
        refine own_to (T' := T92) (mkF m 272 #[iv p0, iv p1, iv p2, iv b0, iv b1, iv b2, iv b3, iv c0, iv c1, iv c2, iv c3, iv cx, iv 1, iv sh, iv d14, .val .null, .unset, .unset, .unset, .unset] [(.int (1 : Int32)), (.ref b91), (.ref b91), (.ref b90), (.ref b90)]) (fun _ k => XS.iconst X92.here hx rfl (hb hby at_271) k) ?_
        refine own_to (T' := T92) (mkF m 274 #[iv p0, iv p1, iv p2, iv b0, iv b1, iv b2, iv b3, iv c0, iv c1, iv c2, iv c3, iv cx, iv 1, iv sh, iv d14, .val .null, .unset, .unset, .unset, .unset] [(.int c1), (.int (1 : Int32)), (.ref b91), (.ref b91), (.ref b90), (.ref b90)]) (fun _ k => XS.iload X92.here hx rfl (hb hby at_272) rfl k) ?_
        obtain ⟨cl93, Ar93, q93, S93, M93, H93, G93⟩ := id V_b91
        obtain ⟨T93, h93, X93, e93, W93, st93⟩ := stC X92 hx hZ e92 Ar93 (j := (1 : Int32)) (inb_of S93 ⟨by decide, by decide⟩) (g := (mkF m 274 #[iv p0, iv p1, iv p2, iv b0, iv b1, iv b2, iv b3, iv c0, iv c1, iv c2, iv c3, iv cx, iv 1, iv sh, iv d14, .val .null, .unset, .unset, .unset, .unset] [(.int c1), (.int (1 : Int32)), (.ref b91), (.ref b91), (.ref b90), (.ref b90)])) rfl rfl (hb hby at_274)
        refine own_to (mkF m 275 #[iv p0, iv p1, iv p2, iv b0, iv b1, iv b2, iv b3, iv c0, iv c1, iv c2, iv c3, iv cx, iv 1, iv sh, iv d14, .val .null, .unset, .unset, .unset, .unset] [(.ref b91), (.ref b90), (.ref b90)]) st93 ?_
        have N93 := Fr.snoc X93 N92 ge_b91
        have tmp93 : Arv Z h93 b91 k91 .char (5 : Int32) [(.int c0), (.int (nar .char c1)), (.int (0 : Int32)), (.int (0 : Int32)), (.int (0 : Int32))] (.int (0 : Int32)) := Arv.set Ar93 q93 S93 M93 H93 G93 (fits_nar_char _) W93 1 rfl (Nat.le_of_ble_eq_true rfl)
        rw [own_nar8 c8_c1] at tmp93
        have OL := OL.wr W93 ge_b91
        have KP := KP.wr W93 (Or.inr sz_b91)
        have hk1 := Nat.le_trans hk1 (Keep.of_wr W93).1
        have E_b90 := E_b90.wr W93
        have F_coder_b90 := F_coder_b90.other W93 (Or.inl ne_b90_b91)
        have F_value_b90 := F_value_b90.other W93 (Or.inl ne_b90_b91)
        have V_b91 := tmp93
        refine own_to (T' := T93) (mkF m 276 #[iv p0, iv p1, iv p2, iv b0, iv b1, iv b2, iv b3, iv c0, iv c1, iv c2, iv c3, iv cx, iv 1, iv sh, iv d14, .val .null, .unset, .unset, .unset, .unset] [(.ref b91), (.ref b91), (.ref b90), (.ref b90)]) (fun _ k => XS.dup X93.here hx rfl (hb hby at_275) rfl rfl k) ?_
        refine own_to (T' := T93) (mkF m 277 #[iv p0, iv p1, iv p2, iv b0, iv b1, iv b2, iv b3, iv c0, iv c1, iv c2, iv c3, iv cx, iv 1, iv sh, iv d14, .val .null, .unset, .unset, .unset, .unset] [(.int (2 : Int32)), (.ref b91), (.ref b91), (.ref b90), (.ref b90)]) (fun _ k => XS.iconst X93.here hx rfl (hb hby at_276) k) ?_
        refine own_to (T' := T93) (mkF m 279 #[iv p0, iv p1, iv p2, iv b0, iv b1, iv b2, iv b3, iv c0, iv c1, iv c2, iv c3, iv cx, iv 1, iv sh, iv d14, .val .null, .unset, .unset, .unset, .unset] [(.int c2), (.int (2 : Int32)), (.ref b91), (.ref b91), (.ref b90), (.ref b90)]) (fun _ k => XS.iload X93.here hx rfl (hb hby at_277) rfl k) ?_
        obtain ⟨cl94, Ar94, q94, S94, M94, H94, G94⟩ := id V_b91
        obtain ⟨T94, h94, X94, e94, W94, st94⟩ := stC X93 hx hZ e93 Ar94 (j := (2 : Int32)) (inb_of S94 ⟨by decide, by decide⟩) (g := (mkF m 279 #[iv p0, iv p1, iv p2, iv b0, iv b1, iv b2, iv b3, iv c0, iv c1, iv c2, iv c3, iv cx, iv 1, iv sh, iv d14, .val .null, .unset, .unset, .unset, .unset] [(.int c2), (.int (2 : Int32)), (.ref b91), (.ref b91), (.ref b90), (.ref b90)])) rfl rfl (hb hby at_279)
        refine own_to (mkF m 280 #[iv p0, iv p1, iv p2, iv b0, iv b1, iv b2, iv b3, iv c0, iv c1, iv c2, iv c3, iv cx, iv 1, iv sh, iv d14, .val .null, .unset, .unset, .unset, .unset] [(.ref b91), (.ref b90), (.ref b90)]) st94 ?_
        have N94 := Fr.snoc X94 N93 ge_b91
        have tmp94 : Arv Z h94 b91 k91 .char (5 : Int32) [(.int c0), (.int c1), (.int (nar .char c2)), (.int (0 : Int32)), (.int (0 : Int32))] (.int (0 : Int32)) := Arv.set Ar94 q94 S94 M94 H94 G94 (fits_nar_char _) W94 2 rfl (Nat.le_of_ble_eq_true rfl)
        rw [own_nar8 c8_c2] at tmp94
        have OL := OL.wr W94 ge_b91
        have KP := KP.wr W94 (Or.inr sz_b91)
        have hk1 := Nat.le_trans hk1 (Keep.of_wr W94).1
        have E_b90 := E_b90.wr W94
        have F_coder_b90 := F_coder_b90.other W94 (Or.inl ne_b90_b91)
        have F_value_b90 := F_value_b90.other W94 (Or.inl ne_b90_b91)
        have V_b91 := tmp94
        refine own_to (T' := T94) (mkF m 281 #[iv p0, iv p1, iv p2, iv b0, iv b1, iv b2, iv b3, iv c0, iv c1, iv c2, iv c3, iv cx, iv 1, iv sh, iv d14, .val .null, .unset, .unset, .unset, .unset] [(.ref b91), (.ref b91), (.ref b90), (.ref b90)]) (fun _ k => XS.dup X94.here hx rfl (hb hby at_280) rfl rfl k) ?_
        refine own_to (T' := T94) (mkF m 282 #[iv p0, iv p1, iv p2, iv b0, iv b1, iv b2, iv b3, iv c0, iv c1, iv c2, iv c3, iv cx, iv 1, iv sh, iv d14, .val .null, .unset, .unset, .unset, .unset] [(.int (3 : Int32)), (.ref b91), (.ref b91), (.ref b90), (.ref b90)]) (fun _ k => XS.iconst X94.here hx rfl (hb hby at_281) k) ?_
        refine own_to (T' := T94) (mkF m 284 #[iv p0, iv p1, iv p2, iv b0, iv b1, iv b2, iv b3, iv c0, iv c1, iv c2, iv c3, iv cx, iv 1, iv sh, iv d14, .val .null, .unset, .unset, .unset, .unset] [(.int c3), (.int (3 : Int32)), (.ref b91), (.ref b91), (.ref b90), (.ref b90)]) (fun _ k => XS.iload X94.here hx rfl (hb hby at_282) rfl k) ?_
        obtain ⟨cl95, Ar95, q95, S95, M95, H95, G95⟩ := id V_b91
        obtain ⟨T95, h95, X95, e95, W95, st95⟩ := stC X94 hx hZ e94 Ar95 (j := (3 : Int32)) (inb_of S95 ⟨by decide, by decide⟩) (g := (mkF m 284 #[iv p0, iv p1, iv p2, iv b0, iv b1, iv b2, iv b3, iv c0, iv c1, iv c2, iv c3, iv cx, iv 1, iv sh, iv d14, .val .null, .unset, .unset, .unset, .unset] [(.int c3), (.int (3 : Int32)), (.ref b91), (.ref b91), (.ref b90), (.ref b90)])) rfl rfl (hb hby at_284)
        refine own_to (mkF m 285 #[iv p0, iv p1, iv p2, iv b0, iv b1, iv b2, iv b3, iv c0, iv c1, iv c2, iv c3, iv cx, iv 1, iv sh, iv d14, .val .null, .unset, .unset, .unset, .unset] [(.ref b91), (.ref b90), (.ref b90)]) st95 ?_
        have N95 := Fr.snoc X95 N94 ge_b91
        have tmp95 : Arv Z h95 b91 k91 .char (5 : Int32) [(.int c0), (.int c1), (.int c2), (.int (nar .char c3)), (.int (0 : Int32))] (.int (0 : Int32)) := Arv.set Ar95 q95 S95 M95 H95 G95 (fits_nar_char _) W95 3 rfl (Nat.le_of_ble_eq_true rfl)
        rw [own_nar8 c8_c3] at tmp95
        have OL := OL.wr W95 ge_b91
        have KP := KP.wr W95 (Or.inr sz_b91)
        have hk1 := Nat.le_trans hk1 (Keep.of_wr W95).1
        have E_b90 := E_b90.wr W95
        have F_coder_b90 := F_coder_b90.other W95 (Or.inl ne_b90_b91)
        have F_value_b90 := F_value_b90.other W95 (Or.inl ne_b90_b91)
        have V_b91 := tmp95
        refine own_to (T' := T95) (mkF m 286 #[iv p0, iv p1, iv p2, iv b0, iv b1, iv b2, iv b3, iv c0, iv c1, iv c2, iv c3, iv cx, iv 1, iv sh, iv d14, .val .null, .unset, .unset, .unset, .unset] [(.ref b91), (.ref b91), (.ref b90), (.ref b90)]) (fun _ k => XS.dup X95.here hx rfl (hb hby at_285) rfl rfl k) ?_
        refine own_to (T' := T95) (mkF m 287 #[iv p0, iv p1, iv p2, iv b0, iv b1, iv b2, iv b3, iv c0, iv c1, iv c2, iv c3, iv cx, iv 1, iv sh, iv d14, .val .null, .unset, .unset, .unset, .unset] [(.int (4 : Int32)), (.ref b91), (.ref b91), (.ref b90), (.ref b90)]) (fun _ k => XS.iconst X95.here hx rfl (hb hby at_286) k) ?_
        refine own_to (T' := T95) (mkF m 289 #[iv p0, iv p1, iv p2, iv b0, iv b1, iv b2, iv b3, iv c0, iv c1, iv c2, iv c3, iv cx, iv 1, iv sh, iv d14, .val .null, .unset, .unset, .unset, .unset] [(.int cx), (.int (4 : Int32)), (.ref b91), (.ref b91), (.ref b90), (.ref b90)]) (fun _ k => XS.iload X95.here hx rfl (hb hby at_287) rfl k) ?_
        obtain ⟨cl96, Ar96, q96, S96, M96, H96, G96⟩ := id V_b91
        obtain ⟨T96, h96, X96, e96, W96, st96⟩ := stC X95 hx hZ e95 Ar96 (j := (4 : Int32)) (inb_of S96 ⟨by decide, by decide⟩) (g := (mkF m 289 #[iv p0, iv p1, iv p2, iv b0, iv b1, iv b2, iv b3, iv c0, iv c1, iv c2, iv c3, iv cx, iv 1, iv sh, iv d14, .val .null, .unset, .unset, .unset, .unset] [(.int cx), (.int (4 : Int32)), (.ref b91), (.ref b91), (.ref b90), (.ref b90)])) rfl rfl (hb hby at_289)
        refine own_to (mkF m 290 #[iv p0, iv p1, iv p2, iv b0, iv b1, iv b2, iv b3, iv c0, iv c1, iv c2, iv c3, iv cx, iv 1, iv sh, iv d14, .val .null, .unset, .unset, .unset, .unset] [(.ref b91), (.ref b90), (.ref b90)]) st96 ?_
        have N96 := Fr.snoc X96 N95 ge_b91
        have tmp96 : Arv Z h96 b91 k91 .char (5 : Int32) [(.int c0), (.int c1), (.int c2), (.int c3), (.int (nar .char cx))] (.int (0 : Int32)) := Arv.set Ar96 q96 S96 M96 H96 G96 (fits_nar_char _) W96 4 rfl (Nat.le_of_ble_eq_true rfl)
        rw [own_nar8 c8_cx] at tmp96
        have OL := OL.wr W96 ge_b91
        have KP := KP.wr W96 (Or.inr sz_b91)
        have hk1 := Nat.le_trans hk1 (Keep.of_wr W96).1
        have E_b90 := E_b90.wr W96
        have F_coder_b90 := F_coder_b90.other W96 (Or.inl ne_b90_b91)
        have F_value_b90 := F_value_b90.other W96 (Or.inl ne_b90_b91)
        have V_b91 := tmp96
        have hp97 : ∀ c ∈ ([c0, c1, c2, c3, cx] : List Int32), ¬ c < 0 ∧ ¬ (255 : Int32) < c := (own_allS c8_c0 (own_allS c8_c1 (own_allS c8_c2 (own_allS c8_c3 (own_allS c8_cx own_all0)))))
        have KP0 := KP
        have lt0_b90 := E_b90.lt
        have lt0_b91 := V_b91.lt
        obtain ⟨_, _, ⟨T98, L98, k98, n98⟩, -, X98, ⟨Lc98, hQ98, l98, y98, z98⟩, st98⟩ := X96.specialBack hx (y := (⟨"java/lang/String", "<init>", "([C)V"⟩ : MethodName)) rfl hown (mvT hZ (hw _ (List.mem_of_getElem? (i := 4) rfl))) (mvT hZ (hw _ (List.mem_of_getElem? (i := 5) rfl))) (mvT hZ (hw _ (List.mem_of_getElem? (i := 6) rfl))) (by decide) (StrChars.Road.backV (W := 1) hZ hwsV (kI := 4) (hw _ (List.mem_of_getElem? (i := 1) rfl)) (cs := ([c0, c1, c2, c3, cx] : List Int32)) (bs := (([c0, c1, c2, c3, cx] : List Int32)).map (fun c => c.toInt8.toInt32)) (n := 5) ge_b90 (Nat.le_trans Z0 KP.1) E_b90 F_value_b90 F_coder_b90 V_b91 (O2.ext OL.2) P5 rfl rfl (by decide) (by decide) hp97 rfl (by decide) (by decide)) (g := (mkF m 290 #[iv p0, iv p1, iv p2, iv b0, iv b1, iv b2, iv b3, iv c0, iv c1, iv c2, iv c3, iv cx, iv 1, iv sh, iv d14, .val .null, .unset, .unset, .unset, .unset] [(.ref b91), (.ref b90), (.ref b90)])) rfl (by rw [hml]; rfl) (Steps.refl _) (a := b90) (argsL := [(.ref b91)]) (rest := [(.ref b90)]) (lenOf own_pd1 rfl) rfl (by show 2 * 0 + _ ≤ _; exact Nat.le_of_eq rfl) (hb hby at_290) (fun _ _ => ⟨rfl, e96, (by decide : 2 + 1 ≤ _), (by decide : 9 + 5 ≤ _)⟩)
        dsimp only [Pt.U, Pt.locs, Pt.cells, Pt.slots] at X98 l98 y98 z98 st98 hQ98
        subst l98 y98 z98
        obtain ⟨rfl, N98q, K98, Ex98, Cx98, t_co, kb_co, ge_t_co, sz0_t_co, ne_t_co_b90, Vx98, Kx98⟩ := hQ98
        have N98 := Fr.app N96 N98q
        have OL := OL.keep K98 (allS ge_b90 all0)
        have KP := KP.trans K98 (allS (Or.inr sz_b90) all0)
        have hk1 := Nat.le_trans hk1 K98.1
        have E_b90 := E_b90.keep K98
        have V_b91 := V_b91.keep K98 (ninS (Ne.symm ne_b90_b91) nin0)
        refine own_via (mkF m 293 #[iv p0, iv p1, iv p2, iv b0, iv b1, iv b2, iv b3, iv c0, iv c1, iv c2, iv c3, iv cx, iv 1, iv sh, iv d14, .val .null, .unset, .unset, .unset, .unset] [(.ref b90)]) st98 ?_
        have sz_t_co : h0.size ≤ t_co := Nat.le_trans KP0.1 sz0_t_co
        have ne_b91_t_co : b91 ≠ t_co := Nat.ne_of_lt (Nat.lt_of_lt_of_le lt0_b91 sz0_t_co)
        have S_co : own_Str Z T98.heap b90 t_co kb_co ([c0, c1, c2, c3, cx] : List Int32) := ⟨Ex98, Vx98, Cx98, Kx98, hp97, Nat.le_of_ble_eq_true rfl⟩
        refine own_to (T' := T98) (mkF m 295 #[iv p0, iv p1, iv p2, iv b0, iv b1, iv b2, iv b3, iv c0, iv c1, iv c2, iv c3, iv cx, iv 1, iv sh, iv d14, .val .null, rv b90, .unset, .unset, .unset] []) (fun _ k => XS.astore X98.here hx rfl (hb hby at_293) rfl rfl (l' := #[iv p0, iv p1, iv p2, iv b0, iv b1, iv b2, iv b3, iv c0, iv c1, iv c2, iv c3, iv cx, iv 1, iv sh, iv d14, .val .null, rv b90, .unset, .unset, .unset]) rfl k) ?_
        refine own_to (T' := T98) (mkF m 296 #[iv p0, iv p1, iv p2, iv b0, iv b1, iv b2, iv b3, iv c0, iv c1, iv c2, iv c3, iv cx, iv 1, iv sh, iv d14, .val .null, rv b90, .unset, .unset, .unset] [(.int (5 : Int32))]) (fun _ k => XS.iconst X98.here hx rfl (hb hby at_295) k) ?_
        refine own_to (T' := T98) (mkF m 298 #[iv p0, iv p1, iv p2, iv b0, iv b1, iv b2, iv b3, iv c0, iv c1, iv c2, iv c3, iv cx, iv 1, iv sh, iv d14, .val .null, rv b90, iv 5, .unset, .unset] []) (fun _ k => XS.istore X98.here hx rfl (hb hby at_296) rfl (l' := #[iv p0, iv p1, iv p2, iv b0, iv b1, iv b2, iv b3, iv c0, iv c1, iv c2, iv c3, iv cx, iv 1, iv sh, iv d14, .val .null, rv b90, iv 5, .unset, .unset]) rfl k) ?_
        refine own_to (T' := T98) (mkF m 336 #[iv p0, iv p1, iv p2, iv b0, iv b1, iv b2, iv b3, iv c0, iv c1, iv c2, iv c3, iv cx, iv 1, iv sh, iv d14, .val .null, rv b90, iv 5, .unset, .unset] []) (fun _ k => XS.goto X98.here hx rfl (pc0 := 298) (pc' := 336) rfl (hb hby at_298) (by decide) (by decide) k) ?_
        refine own_to (T' := T98) (mkF m 338 #[iv p0, iv p1, iv p2, iv b0, iv b1, iv b2, iv b3, iv c0, iv c1, iv c2, iv c3, iv cx, iv 1, iv sh, iv d14, .val .null, rv b90, iv 5, .unset, .unset] [(.int (1 : Int32))]) (fun _ k => XS.iload X98.here hx rfl (hb hby at_336) rfl k) ?_
        refine own_to (T' := T98) (mkF m 341 #[iv p0, iv p1, iv p2, iv b0, iv b1, iv b2, iv b3, iv c0, iv c1, iv c2, iv c3, iv cx, iv 1, iv sh, iv d14, .val .null, rv b90, iv 5, .unset, .unset] []) (fun _ k => XS.ifNo X98.here hx rfl (hb hby at_338) rfl ((if0 _ _).trans (feq (by decide : ¬ ((1 : Int32) = (0 : Int32)))).1) k) ?_
        refine own_to (T' := T98) (mkF m 342 #[iv p0, iv p1, iv p2, iv b0, iv b1, iv b2, iv b3, iv c0, iv c1, iv c2, iv c3, iv cx, iv 1, iv sh, iv d14, .val .null, rv b90, iv 5, .unset, .unset] [(.int (1 : Int32))]) (fun _ k => XS.iconst X98.here hx rfl (hb hby at_341) k) ?_
        refine own_to (T' := T98) (mkF m 344 #[iv p0, iv p1, iv p2, iv b0, iv b1, iv b2, iv b3, iv c0, iv c1, iv c2, iv c3, iv cx, iv 1, iv sh, iv d14, .val .null, rv b90, iv 5, iv 1, .unset] []) (fun _ k => XS.istore X98.here hx rfl (hb hby at_342) rfl (l' := #[iv p0, iv p1, iv p2, iv b0, iv b1, iv b2, iv b3, iv c0, iv c1, iv c2, iv c3, iv cx, iv 1, iv sh, iv d14, .val .null, rv b90, iv 5, iv 1, .unset]) rfl k) ?_
        refine own_to (T' := T98) (mkF m 393 #[iv p0, iv p1, iv p2, iv b0, iv b1, iv b2, iv b3, iv c0, iv c1, iv c2, iv c3, iv cx, iv 1, iv sh, iv d14, .val .null, rv b90, iv 5, iv 1, .unset] []) (fun _ k => XS.goto X98.here hx rfl (pc0 := 344) (pc' := 393) rfl (hb hby at_344) (by decide) (by decide) k) ?_
        obtain ⟨T99, h99, X99, e99, E99, A99, D99, -, st99⟩ := newO X98 hx hZ hown (hw _ (List.mem_of_getElem? (i := 30) rfl)) (hw _ (List.mem_of_getElem? (i := 31) rfl)) (hw _ (List.mem_of_getElem? (i := 32) rfl)) rfl (g := (mkF m 393 #[iv p0, iv p1, iv p2, iv b0, iv b1, iv b2, iv b3, iv c0, iv c1, iv c2, iv c3, iv cx, iv 1, iv sh, iv d14, .val .null, rv b90, iv 5, iv 1, .unset] [])) rfl (hb hby at_393) (by decide) (by decide)
        obtain ⟨b99, g99⟩ : ∃ z, z = T98.heap.size := ⟨_, rfl⟩
        rw [← g99] at A99 D99 st99
        have sz_b99 : h0.size ≤ b99 := Nat.le_trans KP.1 (Nat.le_of_eq g99.symm)
        have ge_b99 : n0 ≤ b99 := Nat.le_trans Z0 sz_b99
        have ne_b91_b99 : b91 ≠ b99 := Nat.ne_of_lt (Nat.lt_of_lt_of_le V_b91.lt (Nat.le_of_eq g99.symm))
        have ne_b90_b99 : b90 ≠ b99 := Nat.ne_of_lt (Nat.lt_of_lt_of_le S_co.lt (Nat.le_of_eq g99.symm))
        have ne_t_co_b99 : t_co ≠ b99 := Nat.ne_of_lt (Nat.lt_of_lt_of_le S_co.ltT (Nat.le_of_eq g99.symm))
        have OL := OL.ext E99
        have KP := KP.ext E99
        have hk1 := Nat.le_trans hk1 E99.1
        have V_b91 := V_b91.ext E99
        have S_co := S_co.ext E99
        have E_b99 : Exa Z h99 b99 "com/example/saldera/saldera/coupon/Cashier" := A99
        have F_username_b99 : Fld Z h99 b99 "com/example/saldera/saldera/coupon/Cashier" "username" "Ljava/lang/String;" .null := D99 (Or.inr (hw _ (List.mem_of_getElem? (i := 41) rfl))) (ty := (.object "java/lang/String")) (by decide)
        have F_branch_b99 : Fld Z h99 b99 "com/example/saldera/saldera/coupon/Cashier" "branch" "Ljava/lang/String;" .null := D99 (Or.inr (hw _ (List.mem_of_getElem? (i := 43) rfl))) (ty := (.object "java/lang/String")) (by decide)
        have F_crossBranch_b99 : Fld Z h99 b99 "com/example/saldera/saldera/coupon/Cashier" "crossBranch" "Z" (.int (0 : Int32)) := D99 (Or.inr (hw _ (List.mem_of_getElem? (i := 45) rfl))) (ty := .boolean) (by decide)
        refine own_to (mkF m 396 #[iv p0, iv p1, iv p2, iv b0, iv b1, iv b2, iv b3, iv c0, iv c1, iv c2, iv c3, iv cx, iv 1, iv sh, iv d14, .val .null, rv b90, iv 5, iv 1, .unset] [(.ref b99)]) st99 ?_
        refine own_to (T' := T99) (mkF m 397 #[iv p0, iv p1, iv p2, iv b0, iv b1, iv b2, iv b3, iv c0, iv c1, iv c2, iv c3, iv cx, iv 1, iv sh, iv d14, .val .null, rv b90, iv 5, iv 1, .unset] [(.ref b99), (.ref b99)]) (fun _ k => XS.dup X99.here hx rfl (hb hby at_396) rfl rfl k) ?_
        obtain ⟨aU, T100, h100, k1, X100, e100, E100, hS, hk2, hZ, hown, st100⟩ := ldcS (s := s) (vm0 := s.vm) X99 hx hZ hown (hw _ (List.mem_of_getElem? (i := 33) rfl)) hwsS e99 hS hk1 (g := (mkF m 397 #[iv p0, iv p1, iv p2, iv b0, iv b1, iv b2, iv b3, iv c0, iv c1, iv c2, iv c3, iv cx, iv 1, iv sh, iv d14, .val .null, rv b90, iv 5, iv 1, .unset] [(.ref b99), (.ref b99)])) rfl (hb hby at_397) (n := 4) (by decide) (by decide) (by decide) (by decide)
        have OL := OL.ext E100
        have KP := KP.ext E100
        have V_b91 := V_b91.ext E100
        have S_co := S_co.ext E100
        have E_b99 := E_b99.ext E100
        have F_username_b99 := F_username_b99.ext E100
        have F_branch_b99 := F_branch_b99.ext E100
        have F_crossBranch_b99 := F_crossBranch_b99.ext E100
        have hk1 := hk2
        refine own_to (mkF m 399 #[iv p0, iv p1, iv p2, iv b0, iv b1, iv b2, iv b3, iv c0, iv c1, iv c2, iv c3, iv cx, iv 1, iv sh, iv d14, .val .null, rv b90, iv 5, iv 1, .unset] [(.ref aU), (.ref b99), (.ref b99)]) st100 ?_
        refine own_to (T' := T100) (mkF m 401 #[iv p0, iv p1, iv p2, iv b0, iv b1, iv b2, iv b3, iv c0, iv c1, iv c2, iv c3, iv cx, iv 1, iv sh, iv d14, .val .null, rv b90, iv 5, iv 1, .unset] [.null, (.ref aU), (.ref b99), (.ref b99)]) (fun _ k => XS.aload X100.here hx rfl (hb hby at_399) rfl rfl k) ?_
        refine own_to (T' := T100) (mkF m 403 #[iv p0, iv p1, iv p2, iv b0, iv b1, iv b2, iv b3, iv c0, iv c1, iv c2, iv c3, iv cx, iv 1, iv sh, iv d14, .val .null, rv b90, iv 5, iv 1, .unset] [(.int d14), .null, (.ref aU), (.ref b99), (.ref b99)]) (fun _ k => XS.iload X100.here hx rfl (hb hby at_401) rfl k) ?_
        obtain ⟨_, _, ⟨T101, L101, k101, n101⟩, -, X101, ⟨Lc101, hQ101, l101, y101, z101⟩, st101⟩ := X100.specialBack hx (y := (⟨"com/example/saldera/saldera/coupon/Cashier", "<init>", "(Ljava/lang/String;Ljava/lang/String;Z)V"⟩ : MethodName)) rfl hown (mvT hZ (hw _ (List.mem_of_getElem? (i := 36) rfl))) (mvT hZ (hw _ (List.mem_of_getElem? (i := 37) rfl))) (mvT hZ (hw _ (List.mem_of_getElem? (i := 38) rfl))) (by decide) (backOf (W := 1) (own_rmCN l Z a0 hw [] b99 aU  d14 h100 n0 (Nat.le_trans Z0 KP.1) OL E_b99 ge_b99 F_username_b99 F_branch_b99 F_crossBranch_b99) hZ (hw _ (List.mem_of_getElem? (i := 38) rfl)) (hw _ (List.mem_of_getElem? (i := 32) rfl)) (by decide) (by decide)) (g := (mkF m 403 #[iv p0, iv p1, iv p2, iv b0, iv b1, iv b2, iv b3, iv c0, iv c1, iv c2, iv c3, iv cx, iv 1, iv sh, iv d14, .val .null, rv b90, iv 5, iv 1, .unset] [(.int d14), .null, (.ref aU), (.ref b99), (.ref b99)])) rfl (by rw [hml]; rfl) (Steps.refl _) (a := b99) (argsL := [(.ref aU), .null, (.int d14)]) (rest := [(.ref b99)]) (lenOf own_pd2 rfl) rfl (by show 2 * 0 + _ ≤ _; exact Nat.le_of_eq rfl) (hb hby at_403) (fun _ _ => ⟨rfl, e100, (by decide : 6 + 0 ≤ _), (by decide : 25 + 0 ≤ _)⟩)
        dsimp only [Pt.U, Pt.locs, Pt.cells, Pt.slots] at X101 l101 y101 z101 st101 hQ101
        subst l101 y101 z101
        obtain ⟨rfl, N101q, K101, Ea101, Fb101, Fx101⟩ := hQ101
        have N101 := Fr.app N98 N101q
        have OL := OL.keep K101 (allS ge_b99 all0)
        have KP := KP.trans K101 (allS (Or.inr sz_b99) all0)
        have hk1 := Nat.le_trans hk1 K101.1
        have V_b91 := V_b91.keep K101 (ninS ne_b91_b99 nin0)
        have S_co := S_co.keep K101 (ninS ne_b90_b99 nin0) (ninS ne_t_co_b99 nin0)
        have E_b99 := E_b99.keep K101
        refine own_via (mkF m 406 #[iv p0, iv p1, iv p2, iv b0, iv b1, iv b2, iv b3, iv c0, iv c1, iv c2, iv c3, iv cx, iv 1, iv sh, iv d14, .val .null, rv b90, iv 5, iv 1, .unset] [(.ref b99)]) st101 ?_
        have EC : Exa Z T101.heap b99 "com/example/saldera/saldera/coupon/Cashier" := Ea101
        have FB : Fld Z T101.heap b99 "com/example/saldera/saldera/coupon/Cashier" "branch" "Ljava/lang/String;" .null := Fb101
        refine own_to (T' := T101) (mkF m 408 #[iv p0, iv p1, iv p2, iv b0, iv b1, iv b2, iv b3, iv c0, iv c1, iv c2, iv c3, iv cx, iv 1, iv sh, iv d14, .val .null, rv b90, iv 5, iv 1, rv b99] []) (fun _ k => XS.astore X101.here hx rfl (hb hby at_406) rfl rfl (l' := #[iv p0, iv p1, iv p2, iv b0, iv b1, iv b2, iv b3, iv c0, iv c1, iv c2, iv c3, iv cx, iv 1, iv sh, iv d14, .val .null, rv b90, iv 5, iv 1, rv b99]) rfl k) ?_
        refine own_to (T' := T101) (mkF m 410 #[iv p0, iv p1, iv p2, iv b0, iv b1, iv b2, iv b3, iv c0, iv c1, iv c2, iv c3, iv cx, iv 1, iv sh, iv d14, .val .null, rv b90, iv 5, iv 1, rv b99] [(.ref b99)]) (fun _ k => XS.aload X101.here hx rfl (hb hby at_408) rfl rfl k) ?_
        refine own_to (T' := T101) (mkF m 412 #[iv p0, iv p1, iv p2, iv b0, iv b1, iv b2, iv b3, iv c0, iv c1, iv c2, iv c3, iv cx, iv 1, iv sh, iv d14, .val .null, rv b90, iv 5, iv 1, rv b99] [(.ref b90), (.ref b99)]) (fun _ k => XS.aload X101.here hx rfl (hb hby at_410) rfl rfl k) ?_
        obtain ⟨cq102, kq102, q102a, q102b, q102c⟩ := isOf hZ rfl EC
        obtain ⟨_, _, ⟨T102, L102, k102, n102⟩, -, X102, ⟨Lc102, hQ102, l102, y102, z102⟩, st102⟩ := X101.virtualBack hx (y := (⟨"com/example/saldera/saldera/coupon/Cashier", "isOtherBranch", "(Ljava/lang/String;)Z"⟩ : MethodName)) (z := (⟨"com/example/saldera/saldera/coupon/Cashier", "isOtherBranch", "(Ljava/lang/String;)Z"⟩ : MethodName)) hown (mvT hZ (hw _ (List.mem_of_getElem? (i := 46) rfl))) (mvT hZ (hw _ (List.mem_of_getElem? (i := 47) rfl))) (notFace_of_selects (args := #[]) (mvT hZ (hw _ (List.mem_of_getElem? (i := 49) rfl)))) (mvT hZ (hw _ (List.mem_of_getElem? (i := 49) rfl))) (mvT hZ (hw _ (List.mem_of_getElem? (i := 48) rfl))) (by decide) (backOf (W := 0) (own_rmON l Z a0 hw [] b99 b90 T101.heap n0 (Nat.le_trans Z0 KP.1) OL FB S_co.1) hZ (hw _ (List.mem_of_getElem? (i := 50) rfl)) (hw _ (List.mem_of_getElem? (i := 32) rfl)) (by decide) (by decide)) q102a q102c (g := (mkF m 412 #[iv p0, iv p1, iv p2, iv b0, iv b1, iv b2, iv b3, iv c0, iv c1, iv c2, iv c3, iv cx, iv 1, iv sh, iv d14, .val .null, rv b90, iv 5, iv 1, rv b99] [(.ref b90), (.ref b99)])) rfl (by rw [hml]; rfl) (Steps.refl _) (argsL := [(.ref b90)]) (rest := []) (lenOf own_pd3 rfl) rfl (by show 2 * 0 + _ ≤ _; exact Nat.le_of_eq rfl) (hb hby at_412) (fun _ _ => ⟨rfl, rfl, (by decide : 6 + 0 ≤ _), (by decide : 25 + 0 ≤ _)⟩)
        dsimp only [Pt.U, Pt.locs, Pt.cells, Pt.slots] at X102 l102 y102 z102 st102 hQ102
        subst l102 y102 z102
        obtain ⟨rfl, N102q, e102⟩ := hQ102
        have N102 := Fr.app N101 N102q
        refine own_via (mkF m 415 #[iv p0, iv p1, iv p2, iv b0, iv b1, iv b2, iv b3, iv c0, iv c1, iv c2, iv c3, iv cx, iv 1, iv sh, iv d14, .val .null, rv b90, iv 5, iv 1, rv b99] [(.int (1 : Int32))]) st102 ?_
        refine own_to (T' := T102) (mkF m 417 #[iv p0, iv p1, iv p2, iv b0, iv b1, iv b2, iv b3, iv c0, iv c1, iv c2, iv c3, iv cx, iv 1, iv sh, iv d14, .val .null, rv b90, iv 5, iv 1, rv b99] [(.int (1 : Int32)), (.int (1 : Int32))]) (fun _ k => XS.iload X102.here hx rfl (hb hby at_415) rfl k) ?_
        refine own_to (T' := T102) (mkF m 420 #[iv p0, iv p1, iv p2, iv b0, iv b1, iv b2, iv b3, iv c0, iv c1, iv c2, iv c3, iv cx, iv 1, iv sh, iv d14, .val .null, rv b90, iv 5, iv 1, rv b99] []) (fun _ k => XS.icmpNo X102.here hx rfl (hb hby at_417) rfl (teq (by decide : (1 : Int32) = (1 : Int32))).2 k) ?_
        refine own_to (T' := T102) (mkF m 421 #[iv p0, iv p1, iv p2, iv b0, iv b1, iv b2, iv b3, iv c0, iv c1, iv c2, iv c3, iv cx, iv 1, iv sh, iv d14, .val .null, rv b90, iv 5, iv 1, rv b99] [(.int (1 : Int32))]) (fun _ k => XS.iconst X102.here hx rfl (hb hby at_420) k) ?_
        refine own_to (T' := T102) (mkF m 425 #[iv p0, iv p1, iv p2, iv b0, iv b1, iv b2, iv b3, iv c0, iv c1, iv c2, iv c3, iv cx, iv 1, iv sh, iv d14, .val .null, rv b90, iv 5, iv 1, rv b99] [(.int (1 : Int32))]) (fun _ k => XS.goto X102.here hx rfl (pc0 := 421) (pc' := 425) rfl (hb hby at_421) (by decide) (by decide) k) ?_
        exact own_retNW (s := s) (vm₁ := T100.vm) X102 hS (by rw [e102]; exact hk1) hx (t := .boolean) Bd.returns (by simp) hlk (hb hby at_425) (by decide) (by decide) (by rw [e102]; exact ⟨rfl, N102⟩)
      · refine own_to (T' := s₁) (mkF m 301 #[iv p0, iv p1, iv p2, iv b0, iv b1, iv b2, iv b3, iv c0, iv c1, iv c2, iv c3, iv cx, iv 1, iv sh, iv d14, .val .null, .unset, .unset, .unset, .unset] []) (fun _ k => XS.icmpYes X0.here hx rfl (pc0 := 255) (pc' := 301) rfl (hb hby at_255) rfl (feq hs3).2 (by decide) (by decide) k) ?_
        obtain ⟨T103, h103, X103, e103, E103, A103, D103, -, st103⟩ := newO X0 hx hZ hown (hw _ (List.mem_of_getElem? (i := 0) rfl)) (hw _ (List.mem_of_getElem? (i := 1) rfl)) (hw _ (List.mem_of_getElem? (i := 2) rfl)) e0 (g := (mkF m 301 #[iv p0, iv p1, iv p2, iv b0, iv b1, iv b2, iv b3, iv c0, iv c1, iv c2, iv c3, iv cx, iv 1, iv sh, iv d14, .val .null, .unset, .unset, .unset, .unset] [])) rfl (hb hby at_301) (by decide) (by decide)
        obtain ⟨b103, g103⟩ : ∃ z, z = h0.size := ⟨_, rfl⟩
        rw [← g103] at A103 D103 st103
        have sz_b103 : h0.size ≤ b103 := Nat.le_trans KP.1 (Nat.le_of_eq g103.symm)
        have ge_b103 : n0 ≤ b103 := Nat.le_trans Z0 sz_b103
        have OL := OL.ext E103
        have KP := KP.ext E103
        have hk1 := Nat.le_trans hk1 E103.1
        have E_b103 : Exa Z h103 b103 "java/lang/String" := A103
        have F_coder_b103 : Fld Z h103 b103 "java/lang/String" "coder" "B" (.int (0 : Int32)) := D103 (Or.inr (hw _ (List.mem_of_getElem? (i := 27) rfl))) (ty := .byte) (by decide)
        have F_value_b103 : Fld Z h103 b103 "java/lang/String" "value" "[B" .null := D103 (Or.inr (hw _ (List.mem_of_getElem? (i := 29) rfl))) (ty := (.array .byte)) (by decide)
        refine own_to (mkF m 304 #[iv p0, iv p1, iv p2, iv b0, iv b1, iv b2, iv b3, iv c0, iv c1, iv c2, iv c3, iv cx, iv 1, iv sh, iv d14, .val .null, .unset, .unset, .unset, .unset] [(.ref b103)]) st103 ?_
        refine own_to (T' := T103) (mkF m 305 #[iv p0, iv p1, iv p2, iv b0, iv b1, iv b2, iv b3, iv c0, iv c1, iv c2, iv c3, iv cx, iv 1, iv sh, iv d14, .val .null, .unset, .unset, .unset, .unset] [(.ref b103), (.ref b103)]) (fun _ k => XS.dup X103.here hx rfl (hb hby at_304) rfl rfl k) ?_
        refine own_to (T' := T103) (mkF m 306 #[iv p0, iv p1, iv p2, iv b0, iv b1, iv b2, iv b3, iv c0, iv c1, iv c2, iv c3, iv cx, iv 1, iv sh, iv d14, .val .null, .unset, .unset, .unset, .unset] [(.int (4 : Int32)), (.ref b103), (.ref b103)]) (fun _ k => XS.iconst X103.here hx rfl (hb hby at_305) k) ?_
        obtain ⟨T104, h104, k104, X104, e104, E104, A104, B104, st104⟩ := newPE X103 hx hZ (hw _ (List.mem_of_getElem? (i := 3) rfl)) e103 (g := (mkF m 306 #[iv p0, iv p1, iv p2, iv b0, iv b1, iv b2, iv b3, iv c0, iv c1, iv c2, iv c3, iv cx, iv 1, iv sh, iv d14, .val .null, .unset, .unset, .unset, .unset] [(.int (4 : Int32)), (.ref b103), (.ref b103)])) rfl (hb hby at_306) rfl (by decide) (cap := 4) (by decide) (by decide) (by decide) (by decide) (ad := "[C") (by decide)
        obtain ⟨b104, g104⟩ : ∃ z, z = h103.size := ⟨_, rfl⟩
        rw [← g104] at A104 B104 st104
        have sz_b104 : h0.size ≤ b104 := Nat.le_trans KP.1 (Nat.le_of_eq g104.symm)
        have ge_b104 : n0 ≤ b104 := Nat.le_trans Z0 sz_b104
        have ne_b103_b104 : b103 ≠ b104 := Nat.ne_of_lt (Nat.lt_of_lt_of_le E_b103.lt (Nat.le_of_eq g104.symm))
        have OL := OL.ext E104
        have KP := KP.ext E104
        have hk1 := Nat.le_trans hk1 E104.1
        have E_b103 := E_b103.ext E104
        have F_coder_b103 := F_coder_b103.ext E104
        have F_value_b103 := F_value_b103.ext E104
        have V_b104 : Arv Z h104 b104 k104 .char (4 : Int32) [(.int (0 : Int32)), (.int (0 : Int32)), (.int (0 : Int32)), (.int (0 : Int32))] (.int (0 : Int32)) := (Arv.new A104 (by decide)).pad (pad_rep [] (.int (0 : Int32)) 4)
        refine own_to (mkF m 308 #[iv p0, iv p1, iv p2, iv b0, iv b1, iv b2, iv b3, iv c0, iv c1, iv c2, iv c3, iv cx, iv 1, iv sh, iv d14, .val .null, .unset, .unset, .unset, .unset] [(.ref b104), (.ref b103), (.ref b103)]) st104 ?_
        refine own_to (T' := T104) (mkF m 309 #[iv p0, iv p1, iv p2, iv b0, iv b1, iv b2, iv b3, iv c0, iv c1, iv c2, iv c3, iv cx, iv 1, iv sh, iv d14, .val .null, .unset, .unset, .unset, .unset] [(.ref b104), (.ref b104), (.ref b103), (.ref b103)]) (fun _ k => XS.dup X104.here hx rfl (hb hby at_308) rfl rfl k) ?_
        refine own_to (T' := T104) (mkF m 310 #[iv p0, iv p1, iv p2, iv b0, iv b1, iv b2, iv b3, iv c0, iv c1, iv c2, iv c3, iv cx, iv 1, iv sh, iv d14, .val .null, .unset, .unset, .unset, .unset] [(.int (0 : Int32)), (.ref b104), (.ref b104), (.ref b103), (.ref b103)]) (fun _ k => XS.iconst X104.here hx rfl (hb hby at_309) k) ?_
        refine own_to (T' := T104) (mkF m 312 #[iv p0, iv p1, iv p2, iv b0, iv b1, iv b2, iv b3, iv c0, iv c1, iv c2, iv c3, iv cx, iv 1, iv sh, iv d14, .val .null, .unset, .unset, .unset, .unset] [(.int c0), (.int (0 : Int32)), (.ref b104), (.ref b104), (.ref b103), (.ref b103)]) (fun _ k => XS.iload X104.here hx rfl (hb hby at_310) rfl k) ?_
        obtain ⟨cl105, Ar105, q105, S105, M105, H105, G105⟩ := id V_b104
        obtain ⟨T105, h105, X105, e105, W105, st105⟩ := stC X104 hx hZ e104 Ar105 (j := (0 : Int32)) (inb_of S105 ⟨by decide, by decide⟩) (g := (mkF m 312 #[iv p0, iv p1, iv p2, iv b0, iv b1, iv b2, iv b3, iv c0, iv c1, iv c2, iv c3, iv cx, iv 1, iv sh, iv d14, .val .null, .unset, .unset, .unset, .unset] [(.int c0), (.int (0 : Int32)), (.ref b104), (.ref b104), (.ref b103), (.ref b103)])) rfl rfl (hb hby at_312)
        refine own_to (mkF m 313 #[iv p0, iv p1, iv p2, iv b0, iv b1, iv b2, iv b3, iv c0, iv c1, iv c2, iv c3, iv cx, iv 1, iv sh, iv d14, .val .null, .unset, .unset, .unset, .unset] [(.ref b104), (.ref b103), (.ref b103)]) st105 ?_
        have N105 := Fr.snoc X105 N0 ge_b104
        have tmp105 : Arv Z h105 b104 k104 .char (4 : Int32) [(.int (nar .char c0)), (.int (0 : Int32)), (.int (0 : Int32)), (.int (0 : Int32))] (.int (0 : Int32)) := Arv.set Ar105 q105 S105 M105 H105 G105 (fits_nar_char _) W105 0 rfl (Nat.le_of_ble_eq_true rfl)
        rw [own_nar8 c8_c0] at tmp105
        have OL := OL.wr W105 ge_b104
        have KP := KP.wr W105 (Or.inr sz_b104)
        have hk1 := Nat.le_trans hk1 (Keep.of_wr W105).1
        have E_b103 := E_b103.wr W105
        have F_coder_b103 := F_coder_b103.other W105 (Or.inl ne_b103_b104)
        have F_value_b103 := F_value_b103.other W105 (Or.inl ne_b103_b104)
        have V_b104 := tmp105
        refine own_to (T' := T105) (mkF m 314 #[iv p0, iv p1, iv p2, iv b0, iv b1, iv b2, iv b3, iv c0, iv c1, iv c2, iv c3, iv cx, iv 1, iv sh, iv d14, .val .null, .unset, .unset, .unset, .unset] [(.ref b104), (.ref b104), (.ref b103), (.ref b103)]) (fun _ k => XS.dup X105.here hx rfl (hb hby at_313) rfl rfl k) ?_
        refine own_to (T' := T105) (mkF m 315 #[iv p0, iv p1, iv p2, iv b0, iv b1, iv b2, iv b3, iv c0, iv c1, iv c2, iv c3, iv cx, iv 1, iv sh, iv d14, .val .null, .unset, .unset, .unset, .unset] [(.int (1 : Int32)), (.ref b104), (.ref b104), (.ref b103), (.ref b103)]) (fun _ k => XS.iconst X105.here hx rfl (hb hby at_314) k) ?_
        refine own_to (T' := T105) (mkF m 317 #[iv p0, iv p1, iv p2, iv b0, iv b1, iv b2, iv b3, iv c0, iv c1, iv c2, iv c3, iv cx, iv 1, iv sh, iv d14, .val .null, .unset, .unset, .unset, .unset] [(.int c1), (.int (1 : Int32)), (.ref b104), (.ref b104), (.ref b103), (.ref b103)]) (fun _ k => XS.iload X105.here hx rfl (hb hby at_315) rfl k) ?_
        obtain ⟨cl106, Ar106, q106, S106, M106, H106, G106⟩ := id V_b104
        obtain ⟨T106, h106, X106, e106, W106, st106⟩ := stC X105 hx hZ e105 Ar106 (j := (1 : Int32)) (inb_of S106 ⟨by decide, by decide⟩) (g := (mkF m 317 #[iv p0, iv p1, iv p2, iv b0, iv b1, iv b2, iv b3, iv c0, iv c1, iv c2, iv c3, iv cx, iv 1, iv sh, iv d14, .val .null, .unset, .unset, .unset, .unset] [(.int c1), (.int (1 : Int32)), (.ref b104), (.ref b104), (.ref b103), (.ref b103)])) rfl rfl (hb hby at_317)
        refine own_to (mkF m 318 #[iv p0, iv p1, iv p2, iv b0, iv b1, iv b2, iv b3, iv c0, iv c1, iv c2, iv c3, iv cx, iv 1, iv sh, iv d14, .val .null, .unset, .unset, .unset, .unset] [(.ref b104), (.ref b103), (.ref b103)]) st106 ?_
        have N106 := Fr.snoc X106 N105 ge_b104
        have tmp106 : Arv Z h106 b104 k104 .char (4 : Int32) [(.int c0), (.int (nar .char c1)), (.int (0 : Int32)), (.int (0 : Int32))] (.int (0 : Int32)) := Arv.set Ar106 q106 S106 M106 H106 G106 (fits_nar_char _) W106 1 rfl (Nat.le_of_ble_eq_true rfl)
        rw [own_nar8 c8_c1] at tmp106
        have OL := OL.wr W106 ge_b104
        have KP := KP.wr W106 (Or.inr sz_b104)
        have hk1 := Nat.le_trans hk1 (Keep.of_wr W106).1
        have E_b103 := E_b103.wr W106
        have F_coder_b103 := F_coder_b103.other W106 (Or.inl ne_b103_b104)
        have F_value_b103 := F_value_b103.other W106 (Or.inl ne_b103_b104)
        have V_b104 := tmp106
        refine own_to (T' := T106) (mkF m 319 #[iv p0, iv p1, iv p2, iv b0, iv b1, iv b2, iv b3, iv c0, iv c1, iv c2, iv c3, iv cx, iv 1, iv sh, iv d14, .val .null, .unset, .unset, .unset, .unset] [(.ref b104), (.ref b104), (.ref b103), (.ref b103)]) (fun _ k => XS.dup X106.here hx rfl (hb hby at_318) rfl rfl k) ?_
        refine own_to (T' := T106) (mkF m 320 #[iv p0, iv p1, iv p2, iv b0, iv b1, iv b2, iv b3, iv c0, iv c1, iv c2, iv c3, iv cx, iv 1, iv sh, iv d14, .val .null, .unset, .unset, .unset, .unset] [(.int (2 : Int32)), (.ref b104), (.ref b104), (.ref b103), (.ref b103)]) (fun _ k => XS.iconst X106.here hx rfl (hb hby at_319) k) ?_
        refine own_to (T' := T106) (mkF m 322 #[iv p0, iv p1, iv p2, iv b0, iv b1, iv b2, iv b3, iv c0, iv c1, iv c2, iv c3, iv cx, iv 1, iv sh, iv d14, .val .null, .unset, .unset, .unset, .unset] [(.int c2), (.int (2 : Int32)), (.ref b104), (.ref b104), (.ref b103), (.ref b103)]) (fun _ k => XS.iload X106.here hx rfl (hb hby at_320) rfl k) ?_
        obtain ⟨cl107, Ar107, q107, S107, M107, H107, G107⟩ := id V_b104
        obtain ⟨T107, h107, X107, e107, W107, st107⟩ := stC X106 hx hZ e106 Ar107 (j := (2 : Int32)) (inb_of S107 ⟨by decide, by decide⟩) (g := (mkF m 322 #[iv p0, iv p1, iv p2, iv b0, iv b1, iv b2, iv b3, iv c0, iv c1, iv c2, iv c3, iv cx, iv 1, iv sh, iv d14, .val .null, .unset, .unset, .unset, .unset] [(.int c2), (.int (2 : Int32)), (.ref b104), (.ref b104), (.ref b103), (.ref b103)])) rfl rfl (hb hby at_322)
        refine own_to (mkF m 323 #[iv p0, iv p1, iv p2, iv b0, iv b1, iv b2, iv b3, iv c0, iv c1, iv c2, iv c3, iv cx, iv 1, iv sh, iv d14, .val .null, .unset, .unset, .unset, .unset] [(.ref b104), (.ref b103), (.ref b103)]) st107 ?_
        have N107 := Fr.snoc X107 N106 ge_b104
        have tmp107 : Arv Z h107 b104 k104 .char (4 : Int32) [(.int c0), (.int c1), (.int (nar .char c2)), (.int (0 : Int32))] (.int (0 : Int32)) := Arv.set Ar107 q107 S107 M107 H107 G107 (fits_nar_char _) W107 2 rfl (Nat.le_of_ble_eq_true rfl)
        rw [own_nar8 c8_c2] at tmp107
        have OL := OL.wr W107 ge_b104
        have KP := KP.wr W107 (Or.inr sz_b104)
        have hk1 := Nat.le_trans hk1 (Keep.of_wr W107).1
        have E_b103 := E_b103.wr W107
        have F_coder_b103 := F_coder_b103.other W107 (Or.inl ne_b103_b104)
        have F_value_b103 := F_value_b103.other W107 (Or.inl ne_b103_b104)
        have V_b104 := tmp107
        refine own_to (T' := T107) (mkF m 324 #[iv p0, iv p1, iv p2, iv b0, iv b1, iv b2, iv b3, iv c0, iv c1, iv c2, iv c3, iv cx, iv 1, iv sh, iv d14, .val .null, .unset, .unset, .unset, .unset] [(.ref b104), (.ref b104), (.ref b103), (.ref b103)]) (fun _ k => XS.dup X107.here hx rfl (hb hby at_323) rfl rfl k) ?_
        refine own_to (T' := T107) (mkF m 325 #[iv p0, iv p1, iv p2, iv b0, iv b1, iv b2, iv b3, iv c0, iv c1, iv c2, iv c3, iv cx, iv 1, iv sh, iv d14, .val .null, .unset, .unset, .unset, .unset] [(.int (3 : Int32)), (.ref b104), (.ref b104), (.ref b103), (.ref b103)]) (fun _ k => XS.iconst X107.here hx rfl (hb hby at_324) k) ?_
        refine own_to (T' := T107) (mkF m 327 #[iv p0, iv p1, iv p2, iv b0, iv b1, iv b2, iv b3, iv c0, iv c1, iv c2, iv c3, iv cx, iv 1, iv sh, iv d14, .val .null, .unset, .unset, .unset, .unset] [(.int c3), (.int (3 : Int32)), (.ref b104), (.ref b104), (.ref b103), (.ref b103)]) (fun _ k => XS.iload X107.here hx rfl (hb hby at_325) rfl k) ?_
        obtain ⟨cl108, Ar108, q108, S108, M108, H108, G108⟩ := id V_b104
        obtain ⟨T108, h108, X108, e108, W108, st108⟩ := stC X107 hx hZ e107 Ar108 (j := (3 : Int32)) (inb_of S108 ⟨by decide, by decide⟩) (g := (mkF m 327 #[iv p0, iv p1, iv p2, iv b0, iv b1, iv b2, iv b3, iv c0, iv c1, iv c2, iv c3, iv cx, iv 1, iv sh, iv d14, .val .null, .unset, .unset, .unset, .unset] [(.int c3), (.int (3 : Int32)), (.ref b104), (.ref b104), (.ref b103), (.ref b103)])) rfl rfl (hb hby at_327)
        refine own_to (mkF m 328 #[iv p0, iv p1, iv p2, iv b0, iv b1, iv b2, iv b3, iv c0, iv c1, iv c2, iv c3, iv cx, iv 1, iv sh, iv d14, .val .null, .unset, .unset, .unset, .unset] [(.ref b104), (.ref b103), (.ref b103)]) st108 ?_
        have N108 := Fr.snoc X108 N107 ge_b104
        have tmp108 : Arv Z h108 b104 k104 .char (4 : Int32) [(.int c0), (.int c1), (.int c2), (.int (nar .char c3))] (.int (0 : Int32)) := Arv.set Ar108 q108 S108 M108 H108 G108 (fits_nar_char _) W108 3 rfl (Nat.le_of_ble_eq_true rfl)
        rw [own_nar8 c8_c3] at tmp108
        have OL := OL.wr W108 ge_b104
        have KP := KP.wr W108 (Or.inr sz_b104)
        have hk1 := Nat.le_trans hk1 (Keep.of_wr W108).1
        have E_b103 := E_b103.wr W108
        have F_coder_b103 := F_coder_b103.other W108 (Or.inl ne_b103_b104)
        have F_value_b103 := F_value_b103.other W108 (Or.inl ne_b103_b104)
        have V_b104 := tmp108
        have hp109 : ∀ c ∈ ([c0, c1, c2, c3] : List Int32), ¬ c < 0 ∧ ¬ (255 : Int32) < c := (own_allS c8_c0 (own_allS c8_c1 (own_allS c8_c2 (own_allS c8_c3 own_all0))))
        have KP0 := KP
        have lt0_b103 := E_b103.lt
        have lt0_b104 := V_b104.lt
        obtain ⟨_, _, ⟨T110, L110, k110, n110⟩, -, X110, ⟨Lc110, hQ110, l110, y110, z110⟩, st110⟩ := X108.specialBack hx (y := (⟨"java/lang/String", "<init>", "([C)V"⟩ : MethodName)) rfl hown (mvT hZ (hw _ (List.mem_of_getElem? (i := 4) rfl))) (mvT hZ (hw _ (List.mem_of_getElem? (i := 5) rfl))) (mvT hZ (hw _ (List.mem_of_getElem? (i := 6) rfl))) (by decide) (StrChars.Road.backV (W := 1) hZ hwsV (kI := 4) (hw _ (List.mem_of_getElem? (i := 1) rfl)) (cs := ([c0, c1, c2, c3] : List Int32)) (bs := (([c0, c1, c2, c3] : List Int32)).map (fun c => c.toInt8.toInt32)) (n := 4) ge_b103 (Nat.le_trans Z0 KP.1) E_b103 F_value_b103 F_coder_b103 V_b104 (O2.ext OL.2) P5 rfl rfl (by decide) (by decide) hp109 rfl (by decide) (by decide)) (g := (mkF m 328 #[iv p0, iv p1, iv p2, iv b0, iv b1, iv b2, iv b3, iv c0, iv c1, iv c2, iv c3, iv cx, iv 1, iv sh, iv d14, .val .null, .unset, .unset, .unset, .unset] [(.ref b104), (.ref b103), (.ref b103)])) rfl (by rw [hml]; rfl) (Steps.refl _) (a := b103) (argsL := [(.ref b104)]) (rest := [(.ref b103)]) (lenOf own_pd1 rfl) rfl (by show 2 * 0 + _ ≤ _; exact Nat.le_of_eq rfl) (hb hby at_328) (fun _ _ => ⟨rfl, e108, (by decide : 2 + 1 ≤ _), (by decide : 8 + 4 ≤ _)⟩)
        dsimp only [Pt.U, Pt.locs, Pt.cells, Pt.slots] at X110 l110 y110 z110 st110 hQ110
        subst l110 y110 z110
        obtain ⟨rfl, N110q, K110, Ex110, Cx110, t_co, kb_co, ge_t_co, sz0_t_co, ne_t_co_b103, Vx110, Kx110⟩ := hQ110
        have N110 := Fr.app N108 N110q
        have OL := OL.keep K110 (allS ge_b103 all0)
        have KP := KP.trans K110 (allS (Or.inr sz_b103) all0)
        have hk1 := Nat.le_trans hk1 K110.1
        have E_b103 := E_b103.keep K110
        have V_b104 := V_b104.keep K110 (ninS (Ne.symm ne_b103_b104) nin0)
        refine own_via (mkF m 331 #[iv p0, iv p1, iv p2, iv b0, iv b1, iv b2, iv b3, iv c0, iv c1, iv c2, iv c3, iv cx, iv 1, iv sh, iv d14, .val .null, .unset, .unset, .unset, .unset] [(.ref b103)]) st110 ?_
        have sz_t_co : h0.size ≤ t_co := Nat.le_trans KP0.1 sz0_t_co
        have ne_b104_t_co : b104 ≠ t_co := Nat.ne_of_lt (Nat.lt_of_lt_of_le lt0_b104 sz0_t_co)
        have S_co : own_Str Z T110.heap b103 t_co kb_co ([c0, c1, c2, c3] : List Int32) := ⟨Ex110, Vx110, Cx110, Kx110, hp109, Nat.le_of_ble_eq_true rfl⟩
        refine own_to (T' := T110) (mkF m 333 #[iv p0, iv p1, iv p2, iv b0, iv b1, iv b2, iv b3, iv c0, iv c1, iv c2, iv c3, iv cx, iv 1, iv sh, iv d14, .val .null, rv b103, .unset, .unset, .unset] []) (fun _ k => XS.astore X110.here hx rfl (hb hby at_331) rfl rfl (l' := #[iv p0, iv p1, iv p2, iv b0, iv b1, iv b2, iv b3, iv c0, iv c1, iv c2, iv c3, iv cx, iv 1, iv sh, iv d14, .val .null, rv b103, .unset, .unset, .unset]) rfl k) ?_
        refine own_to (T' := T110) (mkF m 334 #[iv p0, iv p1, iv p2, iv b0, iv b1, iv b2, iv b3, iv c0, iv c1, iv c2, iv c3, iv cx, iv 1, iv sh, iv d14, .val .null, rv b103, .unset, .unset, .unset] [(.int (4 : Int32))]) (fun _ k => XS.iconst X110.here hx rfl (hb hby at_333) k) ?_
        refine own_to (T' := T110) (mkF m 336 #[iv p0, iv p1, iv p2, iv b0, iv b1, iv b2, iv b3, iv c0, iv c1, iv c2, iv c3, iv cx, iv 1, iv sh, iv d14, .val .null, rv b103, iv 4, .unset, .unset] []) (fun _ k => XS.istore X110.here hx rfl (hb hby at_334) rfl (l' := #[iv p0, iv p1, iv p2, iv b0, iv b1, iv b2, iv b3, iv c0, iv c1, iv c2, iv c3, iv cx, iv 1, iv sh, iv d14, .val .null, rv b103, iv 4, .unset, .unset]) rfl k) ?_
        refine own_to (T' := T110) (mkF m 338 #[iv p0, iv p1, iv p2, iv b0, iv b1, iv b2, iv b3, iv c0, iv c1, iv c2, iv c3, iv cx, iv 1, iv sh, iv d14, .val .null, rv b103, iv 4, .unset, .unset] [(.int (1 : Int32))]) (fun _ k => XS.iload X110.here hx rfl (hb hby at_336) rfl k) ?_
        refine own_to (T' := T110) (mkF m 341 #[iv p0, iv p1, iv p2, iv b0, iv b1, iv b2, iv b3, iv c0, iv c1, iv c2, iv c3, iv cx, iv 1, iv sh, iv d14, .val .null, rv b103, iv 4, .unset, .unset] []) (fun _ k => XS.ifNo X110.here hx rfl (hb hby at_338) rfl ((if0 _ _).trans (feq (by decide : ¬ ((1 : Int32) = (0 : Int32)))).1) k) ?_
        refine own_to (T' := T110) (mkF m 342 #[iv p0, iv p1, iv p2, iv b0, iv b1, iv b2, iv b3, iv c0, iv c1, iv c2, iv c3, iv cx, iv 1, iv sh, iv d14, .val .null, rv b103, iv 4, .unset, .unset] [(.int (1 : Int32))]) (fun _ k => XS.iconst X110.here hx rfl (hb hby at_341) k) ?_
        refine own_to (T' := T110) (mkF m 344 #[iv p0, iv p1, iv p2, iv b0, iv b1, iv b2, iv b3, iv c0, iv c1, iv c2, iv c3, iv cx, iv 1, iv sh, iv d14, .val .null, rv b103, iv 4, iv 1, .unset] []) (fun _ k => XS.istore X110.here hx rfl (hb hby at_342) rfl (l' := #[iv p0, iv p1, iv p2, iv b0, iv b1, iv b2, iv b3, iv c0, iv c1, iv c2, iv c3, iv cx, iv 1, iv sh, iv d14, .val .null, rv b103, iv 4, iv 1, .unset]) rfl k) ?_
        refine own_to (T' := T110) (mkF m 393 #[iv p0, iv p1, iv p2, iv b0, iv b1, iv b2, iv b3, iv c0, iv c1, iv c2, iv c3, iv cx, iv 1, iv sh, iv d14, .val .null, rv b103, iv 4, iv 1, .unset] []) (fun _ k => XS.goto X110.here hx rfl (pc0 := 344) (pc' := 393) rfl (hb hby at_344) (by decide) (by decide) k) ?_
        obtain ⟨T111, h111, X111, e111, E111, A111, D111, -, st111⟩ := newO X110 hx hZ hown (hw _ (List.mem_of_getElem? (i := 30) rfl)) (hw _ (List.mem_of_getElem? (i := 31) rfl)) (hw _ (List.mem_of_getElem? (i := 32) rfl)) rfl (g := (mkF m 393 #[iv p0, iv p1, iv p2, iv b0, iv b1, iv b2, iv b3, iv c0, iv c1, iv c2, iv c3, iv cx, iv 1, iv sh, iv d14, .val .null, rv b103, iv 4, iv 1, .unset] [])) rfl (hb hby at_393) (by decide) (by decide)
        obtain ⟨b111, g111⟩ : ∃ z, z = T110.heap.size := ⟨_, rfl⟩
        rw [← g111] at A111 D111 st111
        have sz_b111 : h0.size ≤ b111 := Nat.le_trans KP.1 (Nat.le_of_eq g111.symm)
        have ge_b111 : n0 ≤ b111 := Nat.le_trans Z0 sz_b111
        have ne_b104_b111 : b104 ≠ b111 := Nat.ne_of_lt (Nat.lt_of_lt_of_le V_b104.lt (Nat.le_of_eq g111.symm))
        have ne_b103_b111 : b103 ≠ b111 := Nat.ne_of_lt (Nat.lt_of_lt_of_le S_co.lt (Nat.le_of_eq g111.symm))
        have ne_t_co_b111 : t_co ≠ b111 := Nat.ne_of_lt (Nat.lt_of_lt_of_le S_co.ltT (Nat.le_of_eq g111.symm))
        have OL := OL.ext E111
        have KP := KP.ext E111
        have hk1 := Nat.le_trans hk1 E111.1
        have V_b104 := V_b104.ext E111
        have S_co := S_co.ext E111
        have E_b111 : Exa Z h111 b111 "com/example/saldera/saldera/coupon/Cashier" := A111
        have F_username_b111 : Fld Z h111 b111 "com/example/saldera/saldera/coupon/Cashier" "username" "Ljava/lang/String;" .null := D111 (Or.inr (hw _ (List.mem_of_getElem? (i := 41) rfl))) (ty := (.object "java/lang/String")) (by decide)
        have F_branch_b111 : Fld Z h111 b111 "com/example/saldera/saldera/coupon/Cashier" "branch" "Ljava/lang/String;" .null := D111 (Or.inr (hw _ (List.mem_of_getElem? (i := 43) rfl))) (ty := (.object "java/lang/String")) (by decide)
        have F_crossBranch_b111 : Fld Z h111 b111 "com/example/saldera/saldera/coupon/Cashier" "crossBranch" "Z" (.int (0 : Int32)) := D111 (Or.inr (hw _ (List.mem_of_getElem? (i := 45) rfl))) (ty := .boolean) (by decide)
        refine own_to (mkF m 396 #[iv p0, iv p1, iv p2, iv b0, iv b1, iv b2, iv b3, iv c0, iv c1, iv c2, iv c3, iv cx, iv 1, iv sh, iv d14, .val .null, rv b103, iv 4, iv 1, .unset] [(.ref b111)]) st111 ?_
        refine own_to (T' := T111) (mkF m 397 #[iv p0, iv p1, iv p2, iv b0, iv b1, iv b2, iv b3, iv c0, iv c1, iv c2, iv c3, iv cx, iv 1, iv sh, iv d14, .val .null, rv b103, iv 4, iv 1, .unset] [(.ref b111), (.ref b111)]) (fun _ k => XS.dup X111.here hx rfl (hb hby at_396) rfl rfl k) ?_
        obtain ⟨aU, T112, h112, k1, X112, e112, E112, hS, hk2, hZ, hown, st112⟩ := ldcS (s := s) (vm0 := s.vm) X111 hx hZ hown (hw _ (List.mem_of_getElem? (i := 33) rfl)) hwsS e111 hS hk1 (g := (mkF m 397 #[iv p0, iv p1, iv p2, iv b0, iv b1, iv b2, iv b3, iv c0, iv c1, iv c2, iv c3, iv cx, iv 1, iv sh, iv d14, .val .null, rv b103, iv 4, iv 1, .unset] [(.ref b111), (.ref b111)])) rfl (hb hby at_397) (n := 4) (by decide) (by decide) (by decide) (by decide)
        have OL := OL.ext E112
        have KP := KP.ext E112
        have V_b104 := V_b104.ext E112
        have S_co := S_co.ext E112
        have E_b111 := E_b111.ext E112
        have F_username_b111 := F_username_b111.ext E112
        have F_branch_b111 := F_branch_b111.ext E112
        have F_crossBranch_b111 := F_crossBranch_b111.ext E112
        have hk1 := hk2
        refine own_to (mkF m 399 #[iv p0, iv p1, iv p2, iv b0, iv b1, iv b2, iv b3, iv c0, iv c1, iv c2, iv c3, iv cx, iv 1, iv sh, iv d14, .val .null, rv b103, iv 4, iv 1, .unset] [(.ref aU), (.ref b111), (.ref b111)]) st112 ?_
        refine own_to (T' := T112) (mkF m 401 #[iv p0, iv p1, iv p2, iv b0, iv b1, iv b2, iv b3, iv c0, iv c1, iv c2, iv c3, iv cx, iv 1, iv sh, iv d14, .val .null, rv b103, iv 4, iv 1, .unset] [.null, (.ref aU), (.ref b111), (.ref b111)]) (fun _ k => XS.aload X112.here hx rfl (hb hby at_399) rfl rfl k) ?_
        refine own_to (T' := T112) (mkF m 403 #[iv p0, iv p1, iv p2, iv b0, iv b1, iv b2, iv b3, iv c0, iv c1, iv c2, iv c3, iv cx, iv 1, iv sh, iv d14, .val .null, rv b103, iv 4, iv 1, .unset] [(.int d14), .null, (.ref aU), (.ref b111), (.ref b111)]) (fun _ k => XS.iload X112.here hx rfl (hb hby at_401) rfl k) ?_
        obtain ⟨_, _, ⟨T113, L113, k113, n113⟩, -, X113, ⟨Lc113, hQ113, l113, y113, z113⟩, st113⟩ := X112.specialBack hx (y := (⟨"com/example/saldera/saldera/coupon/Cashier", "<init>", "(Ljava/lang/String;Ljava/lang/String;Z)V"⟩ : MethodName)) rfl hown (mvT hZ (hw _ (List.mem_of_getElem? (i := 36) rfl))) (mvT hZ (hw _ (List.mem_of_getElem? (i := 37) rfl))) (mvT hZ (hw _ (List.mem_of_getElem? (i := 38) rfl))) (by decide) (backOf (W := 1) (own_rmCN l Z a0 hw [] b111 aU  d14 h112 n0 (Nat.le_trans Z0 KP.1) OL E_b111 ge_b111 F_username_b111 F_branch_b111 F_crossBranch_b111) hZ (hw _ (List.mem_of_getElem? (i := 38) rfl)) (hw _ (List.mem_of_getElem? (i := 32) rfl)) (by decide) (by decide)) (g := (mkF m 403 #[iv p0, iv p1, iv p2, iv b0, iv b1, iv b2, iv b3, iv c0, iv c1, iv c2, iv c3, iv cx, iv 1, iv sh, iv d14, .val .null, rv b103, iv 4, iv 1, .unset] [(.int d14), .null, (.ref aU), (.ref b111), (.ref b111)])) rfl (by rw [hml]; rfl) (Steps.refl _) (a := b111) (argsL := [(.ref aU), .null, (.int d14)]) (rest := [(.ref b111)]) (lenOf own_pd2 rfl) rfl (by show 2 * 0 + _ ≤ _; exact Nat.le_of_eq rfl) (hb hby at_403) (fun _ _ => ⟨rfl, e112, (by decide : 6 + 0 ≤ _), (by decide : 23 + 0 ≤ _)⟩)
        dsimp only [Pt.U, Pt.locs, Pt.cells, Pt.slots] at X113 l113 y113 z113 st113 hQ113
        subst l113 y113 z113
        obtain ⟨rfl, N113q, K113, Ea113, Fb113, Fx113⟩ := hQ113
        have N113 := Fr.app N110 N113q
        have OL := OL.keep K113 (allS ge_b111 all0)
        have KP := KP.trans K113 (allS (Or.inr sz_b111) all0)
        have hk1 := Nat.le_trans hk1 K113.1
        have V_b104 := V_b104.keep K113 (ninS ne_b104_b111 nin0)
        have S_co := S_co.keep K113 (ninS ne_b103_b111 nin0) (ninS ne_t_co_b111 nin0)
        have E_b111 := E_b111.keep K113
        refine own_via (mkF m 406 #[iv p0, iv p1, iv p2, iv b0, iv b1, iv b2, iv b3, iv c0, iv c1, iv c2, iv c3, iv cx, iv 1, iv sh, iv d14, .val .null, rv b103, iv 4, iv 1, .unset] [(.ref b111)]) st113 ?_
        have EC : Exa Z T113.heap b111 "com/example/saldera/saldera/coupon/Cashier" := Ea113
        have FB : Fld Z T113.heap b111 "com/example/saldera/saldera/coupon/Cashier" "branch" "Ljava/lang/String;" .null := Fb113
        refine own_to (T' := T113) (mkF m 408 #[iv p0, iv p1, iv p2, iv b0, iv b1, iv b2, iv b3, iv c0, iv c1, iv c2, iv c3, iv cx, iv 1, iv sh, iv d14, .val .null, rv b103, iv 4, iv 1, rv b111] []) (fun _ k => XS.astore X113.here hx rfl (hb hby at_406) rfl rfl (l' := #[iv p0, iv p1, iv p2, iv b0, iv b1, iv b2, iv b3, iv c0, iv c1, iv c2, iv c3, iv cx, iv 1, iv sh, iv d14, .val .null, rv b103, iv 4, iv 1, rv b111]) rfl k) ?_
        refine own_to (T' := T113) (mkF m 410 #[iv p0, iv p1, iv p2, iv b0, iv b1, iv b2, iv b3, iv c0, iv c1, iv c2, iv c3, iv cx, iv 1, iv sh, iv d14, .val .null, rv b103, iv 4, iv 1, rv b111] [(.ref b111)]) (fun _ k => XS.aload X113.here hx rfl (hb hby at_408) rfl rfl k) ?_
        refine own_to (T' := T113) (mkF m 412 #[iv p0, iv p1, iv p2, iv b0, iv b1, iv b2, iv b3, iv c0, iv c1, iv c2, iv c3, iv cx, iv 1, iv sh, iv d14, .val .null, rv b103, iv 4, iv 1, rv b111] [(.ref b103), (.ref b111)]) (fun _ k => XS.aload X113.here hx rfl (hb hby at_410) rfl rfl k) ?_
        obtain ⟨cq114, kq114, q114a, q114b, q114c⟩ := isOf hZ rfl EC
        obtain ⟨_, _, ⟨T114, L114, k114, n114⟩, -, X114, ⟨Lc114, hQ114, l114, y114, z114⟩, st114⟩ := X113.virtualBack hx (y := (⟨"com/example/saldera/saldera/coupon/Cashier", "isOtherBranch", "(Ljava/lang/String;)Z"⟩ : MethodName)) (z := (⟨"com/example/saldera/saldera/coupon/Cashier", "isOtherBranch", "(Ljava/lang/String;)Z"⟩ : MethodName)) hown (mvT hZ (hw _ (List.mem_of_getElem? (i := 46) rfl))) (mvT hZ (hw _ (List.mem_of_getElem? (i := 47) rfl))) (notFace_of_selects (args := #[]) (mvT hZ (hw _ (List.mem_of_getElem? (i := 49) rfl)))) (mvT hZ (hw _ (List.mem_of_getElem? (i := 49) rfl))) (mvT hZ (hw _ (List.mem_of_getElem? (i := 48) rfl))) (by decide) (backOf (W := 0) (own_rmON l Z a0 hw [] b111 b103 T113.heap n0 (Nat.le_trans Z0 KP.1) OL FB S_co.1) hZ (hw _ (List.mem_of_getElem? (i := 50) rfl)) (hw _ (List.mem_of_getElem? (i := 32) rfl)) (by decide) (by decide)) q114a q114c (g := (mkF m 412 #[iv p0, iv p1, iv p2, iv b0, iv b1, iv b2, iv b3, iv c0, iv c1, iv c2, iv c3, iv cx, iv 1, iv sh, iv d14, .val .null, rv b103, iv 4, iv 1, rv b111] [(.ref b103), (.ref b111)])) rfl (by rw [hml]; rfl) (Steps.refl _) (argsL := [(.ref b103)]) (rest := []) (lenOf own_pd3 rfl) rfl (by show 2 * 0 + _ ≤ _; exact Nat.le_of_eq rfl) (hb hby at_412) (fun _ _ => ⟨rfl, rfl, (by decide : 6 + 0 ≤ _), (by decide : 23 + 0 ≤ _)⟩)
        dsimp only [Pt.U, Pt.locs, Pt.cells, Pt.slots] at X114 l114 y114 z114 st114 hQ114
        subst l114 y114 z114
        obtain ⟨rfl, N114q, e114⟩ := hQ114
        have N114 := Fr.app N113 N114q
        refine own_via (mkF m 415 #[iv p0, iv p1, iv p2, iv b0, iv b1, iv b2, iv b3, iv c0, iv c1, iv c2, iv c3, iv cx, iv 1, iv sh, iv d14, .val .null, rv b103, iv 4, iv 1, rv b111] [(.int (1 : Int32))]) st114 ?_
        refine own_to (T' := T114) (mkF m 417 #[iv p0, iv p1, iv p2, iv b0, iv b1, iv b2, iv b3, iv c0, iv c1, iv c2, iv c3, iv cx, iv 1, iv sh, iv d14, .val .null, rv b103, iv 4, iv 1, rv b111] [(.int (1 : Int32)), (.int (1 : Int32))]) (fun _ k => XS.iload X114.here hx rfl (hb hby at_415) rfl k) ?_
        refine own_to (T' := T114) (mkF m 420 #[iv p0, iv p1, iv p2, iv b0, iv b1, iv b2, iv b3, iv c0, iv c1, iv c2, iv c3, iv cx, iv 1, iv sh, iv d14, .val .null, rv b103, iv 4, iv 1, rv b111] []) (fun _ k => XS.icmpNo X114.here hx rfl (hb hby at_417) rfl (teq (by decide : (1 : Int32) = (1 : Int32))).2 k) ?_
        refine own_to (T' := T114) (mkF m 421 #[iv p0, iv p1, iv p2, iv b0, iv b1, iv b2, iv b3, iv c0, iv c1, iv c2, iv c3, iv cx, iv 1, iv sh, iv d14, .val .null, rv b103, iv 4, iv 1, rv b111] [(.int (1 : Int32))]) (fun _ k => XS.iconst X114.here hx rfl (hb hby at_420) k) ?_
        refine own_to (T' := T114) (mkF m 425 #[iv p0, iv p1, iv p2, iv b0, iv b1, iv b2, iv b3, iv c0, iv c1, iv c2, iv c3, iv cx, iv 1, iv sh, iv d14, .val .null, rv b103, iv 4, iv 1, rv b111] [(.int (1 : Int32))]) (fun _ k => XS.goto X114.here hx rfl (pc0 := 421) (pc' := 425) rfl (hb hby at_421) (by decide) (by decide) k) ?_
        exact own_retNW (s := s) (vm₁ := T112.vm) X114 hS (by rw [e114]; exact hk1) hx (t := .boolean) Bd.returns (by simp) hlk (hb hby at_425) (by decide) (by decide) (by rw [e114]; exact ⟨rfl, N114⟩)
set_option maxRecDepth 65536 in
set_option maxHeartbeats 40000000 in
theorem own_comes {Post : Tables → Env → Array Value → State → Outcome → State → Prop} (hpost : ∀ tb e args s v u, (limb_1_1.after args s (.returned v) u = true ∧ limb_1_2.after args s (.returned v) u = true ∧ True) → ReturnedEndW s (.returned v) u (Jvm.fieldLocs frame_1_writes args s ++ Jvm.arrayLocs frame_1_arrays args s ++ Jvm.staticLocs frame_1_statics s) 24 1152 → Post tb e args s (.returned v) u) :
    ArmFor flags0 classFile x code maxLocals ret World_1 tables_1 room_1 Calls_1 rest_1 Pre_1 Post := by
  intro l hfl _ _ p e ha hc hk s m args below hf hA hF happ hP
  obtain ⟨hcalls, hrest, hpre⟩ := hP
  obtain ⟨-, -, -, hnamed, -, -, -, hat⟩ := (Spec.applies_iff hf).mp happ
  obtain ⟨hg, hn⟩ := and_e (Cond.before_iff.mp (show (Jvm.Cond.and given_1 narrow_1).before args s = true from hpre))
  obtain ⟨hg0, hgr0⟩ := and_e hg
  obtain ⟨hg1, hgr1⟩ := and_e hgr0
  obtain ⟨hg2, hgr2⟩ := and_e hgr1
  obtain ⟨w0, w1, w2, rfl⟩ : ∃ w0 w1 w2 : Value, args = #[w0, w1, w2] := by
    have hs : args.size = 3 := by simpa [Cond.value, given_1] using hg0
    obtain ⟨L⟩ := args
    match L, hs with
    | [w0, w1, w2], _ => exact ⟨w0, w1, w2, rfl⟩
  have hw := fun d (hd : d ∈ tables_1) => atoms_spec (ws := Jvm.Cond.code x code maxLocals ret :: tables_1) hat d (List.mem_cons_of_mem _ hd)
  have hfit : Fit s := fun {y c} hc i hi => by
    obtain ⟨ha, rfl⟩ := Array.getElem?_eq_some_iff.mp hc
    have q := List.all_eq_true.mp ((Array.all_eq_true_iff_forall_mem.mp hF) _ (Array.getElem_mem ha)) i (List.mem_range.mpr hi)
    simpa [Array.getElem?_eq_getElem hi] using q
  obtain ⟨i0, ei0⟩ := is_v hg1
  obtain rfl : w0 = (.int i0) := Option.some.inj ei0
  obtain ⟨i1, ei1⟩ := is_v hg2
  obtain rfl : w1 = (.int i1) := Option.some.inj ei1
  obtain ⟨i2, ei2⟩ := is_v hgr2
  obtain rfl : w2 = (.int i2) := Option.some.inj ei2
  obtain ⟨hsets, hown0⟩ := atoms_of _ (rest_1_c_eq ▸ (show rest_1_c.before _ s = true from hrest))
  have n5 := not_v (Cond.before_iff.mp (hsets _ (List.mem_of_getElem? (i := 2) rfl)))
  obtain ⟨G1, eG1⟩ := is_v (Cond.before_iff.mp (hsets _ (List.mem_of_getElem? (i := 1) rfl)))
  have O2 : Sta s s.heap "java/lang/String" "COMPACT_STRINGS" "Z" (.int G1) := Sta.start eG1 (Or.inl (hsets _ (List.mem_of_getElem? (i := 0) rfl)))
  have P5 : ¬ (G1 = (0 : Int32)) := gotF (Cond.eq_ints eG1 (Term.int_eval (0))) n5
  obtain ⟨n, o, h1, h2, h3, _, L, rfl, ⟨rfl, N⟩, hq⟩ := own_rm0 l s _ hw tables_1 i0 i1 i2 G1 s.heap s.heap.size (Nat.le_refl _) (Old.start s) O2 P5 p e ha hc hk s m _ below hf ((Spec.applies_iff_loose hf).mp happ).1 ⟨rfl, State.Warmed39.refl s, rfl⟩ trivial
  refine ⟨n, _, h1, h2, h3, hpost _ _ _ _ _ _ ⟨Cond.after_iff.mpr rfl, Cond.after_iff.mpr (eq_i res_at (Term.int_eval (1)) rfl), trivial⟩ ⟨hq.1, hq.2.1, hq.2.2.1, (hq.2.2.2.sift fun y hy => Or.inr (N y hy)).mono (by decide) (by decide)⟩⟩
theorem main_1_1 : Claimed_1_1 := own_comes fun _ _ _ _ _ _ h hF => ⟨h.1, hF⟩
theorem main_1_2 : Claimed_1_2 := own_comes fun _ _ _ _ _ _ h hF => ⟨h.2.1, hF⟩
end Jvm.Pilot.@@N@@
namespace Jvm.Pilot.@@N@@
open Jvm Jvm.ClassFile Sem Op Lib Jvm.Free Jvm.Stand Jvm.Pilot.@@N@@.Jvm.D
/-! MADE BY PROGRAM (witnessworld.py) out of the Statement's table words and the real class files: 20 classes; the members and pool entries that the words name. The judged class is class 1, her method 1. -/
namespace start1
open Jvm.ClassFile
def u (s : String) : CpInfo := .utf8 (stringToUtf16 s)
/-- a pool by its gaps: so many unusable entries, then the entry; so many at the end -/
def gap : Nat → List CpInfo → List CpInfo
  | 0, r => r
  | n + 1, r => .unusable :: gap n r
def poolList (es : List (Nat × CpInfo)) (last : Nat) : List CpInfo := es.foldr (fun e r => gap e.1 (e.2 :: r)) (gap last [])
def pool (es : List (Nat × CpInfo)) (last : Nat) : Array CpInfo := ⟨poolList es last⟩
def fileOf (pool : Array CpInfo) (this : Nat) (attrs : Array Attribute := #[]) (ms : Array MethodInfo := #[]) (fl : Nat := 33) (sup : Nat := 0) (ifs : Array Nat := #[]) (fds : Array FieldInfo := #[]) : ClassFile where
  minorVersion := 0
  majorVersion := 65
  constantPool := pool
  accessFlags := fl
  thisClass := this
  superClass := sup
  interfaces := ifs
  fields := fds
  methods := ms
  attributes := attrs
def plain (name : String) (sup : Option ClassId) : Class where
  name := name
  kind := .ordinary
  loader := none
  accessFlags := 33
  super := sup
  interfaces := #[]
  cf := none
  fields := #[]
  methods := #[]
  instanceTypes := #[]
  staticTypes := #[]
  resolved := #[]
  callSites := []
  init := .initialized
  statics := none
  mirror := none

def pool0 : Array CpInfo := pool [(5, u "<init>"), (0, u "()V"), (1, .class_ 10), (1, u "java/lang/Object")] 113

def k0c0 : Code := { maxStack := 0, maxLocals := 1, code := object_method_1_code, exceptionTable := #[], attributes := #[] }
def k0m0 : Method := { name := "<init>", desc := "()V", sig := { parameters := [], returnType := none }, accessFlags := 1, code := some k0c0 }
/-- java/lang/Object -/
def k0 : Class := { plain "java/lang/Object" none with
  accessFlags := 33
  interfaces := #[]
  cf := some (fileOf pool0 8 #[] #[{ accessFlags := 1, nameIndex := 5, descriptorIndex := 6, attributes := #[] }] 33 0 #[] #[])
  fields := #[]
  methods := #[k0m0]
  instanceTypes := #[]
  staticTypes := #[]
  resolved := Array.replicate 124 none
  statics := none }

def pool1 : Array CpInfo := pool [(2, .class_ 4), (1, u "java/lang/Object"), (0, u "<init>"), (0, u "()V"), (0, .class_ 8), (0, u "java/lang/String"), (0, .methodref 7 10), (0, .nameAndType 5 11), (0, u "([C)V"), (0, .class_ 13), (0, u "com/example/saldera/saldera/coupon/Cashier"), (0, .string 15), (0, u "u"), (0, .methodref 12 17), (0, .nameAndType 5 18), (0, u "(Ljava/lang/String;Ljava/lang/String;Z)V"), (0, .methodref 12 20), (0, .nameAndType 21 22), (0, u "isOtherBranch"), (0, u "(Ljava/lang/String;)Z"), (0, .class_ 24), (0, u "com/example/saldera/saldera/coupon/CashierIsOtherBranchPinLaw"), (2, u "law"), (0, u "(III)Z")] 3

def k1m0 : Method := { name := "<init>", desc := "()V", sig := { parameters := [], returnType := none }, accessFlags := 1, code := none }
def k1c1 : Code := { maxStack := 6, maxLocals := 20, code := code, exceptionTable := #[], attributes := #[] }
def k1m1 : Method := { name := "law", desc := "(III)Z", sig := { parameters := [.int, .int, .int], returnType := some .boolean }, accessFlags := 9, code := some k1c1 }
/-- com/example/saldera/saldera/coupon/CashierIsOtherBranchPinLaw -/
def k1 : Class := { plain "com/example/saldera/saldera/coupon/CashierIsOtherBranchPinLaw" (some 0) with
  accessFlags := 49
  interfaces := #[]
  cf := some (fileOf pool1 23 #[] #[{ accessFlags := 1, nameIndex := 5, descriptorIndex := 6, attributes := #[] }, { accessFlags := 9, nameIndex := 27, descriptorIndex := 28, attributes := #[] }] 49 2 #[] #[])
  fields := #[]
  methods := #[k1m0, k1m1]
  instanceTypes := #[]
  staticTypes := #[]
  resolved := Array.replicate 32 none
  statics := none }

def pool2 : Array CpInfo := pool [(1, .class_ 2), (0, u "java/io/Serializable"), (0, .class_ 4), (0, u "java/lang/Object")] 2

/-- java/io/Serializable -/
def k2 : Class := { plain "java/io/Serializable" (some 0) with
  accessFlags := 1537
  interfaces := #[]
  cf := some (fileOf pool2 1 #[] #[] 1537 3 #[] #[])
  fields := #[]
  methods := #[]
  instanceTypes := #[]
  staticTypes := #[]
  resolved := Array.replicate 7 none
  statics := none }

def pool3 : Array CpInfo := pool [(1, .class_ 2), (0, u "java/lang/Comparable"), (0, .class_ 4), (0, u "java/lang/Object")] 7

/-- java/lang/Comparable -/
def k3 : Class := { plain "java/lang/Comparable" (some 0) with
  accessFlags := 1537
  interfaces := #[]
  cf := some (fileOf pool3 1 #[] #[] 1537 3 #[] #[])
  fields := #[]
  methods := #[]
  instanceTypes := #[]
  staticTypes := #[]
  resolved := Array.replicate 12 none
  statics := none }

def pool4 : Array CpInfo := pool [(2, .class_ 4), (1, u "java/lang/CharSequence"), (42, .class_ 48), (0, u "java/lang/CharSequence$1CodePointIterator"), (10, .class_ 60), (0, u "java/lang/CharSequence$1CharIterator"), (5, .class_ 67), (0, u "java/lang/Object")] 63

/-- java/lang/CharSequence -/
def k4 : Class := { plain "java/lang/CharSequence" (some 0) with
  accessFlags := 1537
  interfaces := #[]
  cf := some (fileOf pool4 2 #[.nestMembers #[47, 59]] #[] 1537 66 #[] #[])
  fields := #[]
  methods := #[]
  instanceTypes := #[]
  staticTypes := #[]
  resolved := Array.replicate 131 none
  statics := none }

def pool5 : Array CpInfo := pool [(1, .class_ 2), (0, u "java/lang/constant/Constable"), (0, .class_ 4), (0, u "java/lang/Object")] 6

/-- java/lang/constant/Constable -/
def k5 : Class := { plain "java/lang/constant/Constable" (some 0) with
  accessFlags := 1537
  interfaces := #[]
  cf := some (fileOf pool5 1 #[] #[] 1537 3 #[] #[])
  fields := #[]
  methods := #[]
  instanceTypes := #[]
  staticTypes := #[]
  resolved := Array.replicate 11 none
  statics := none }

def pool6 : Array CpInfo := pool [(1, .class_ 2), (0, u "java/lang/constant/ConstantDesc"), (0, .class_ 4), (0, u "java/lang/Object")] 32

/-- java/lang/constant/ConstantDesc -/
def k6 : Class := { plain "java/lang/constant/ConstantDesc" (some 0) with
  accessFlags := 1537
  interfaces := #[]
  cf := some (fileOf pool6 1 #[] #[] 1537 3 #[] #[])
  fields := #[]
  methods := #[]
  instanceTypes := #[]
  staticTypes := #[]
  resolved := Array.replicate 37 none
  statics := none }

def pool7 : Array CpInfo := pool [(1, .methodref 2 3), (0, .class_ 4), (0, .nameAndType 5 6), (0, u "java/lang/Object"), (0, u "<init>"), (0, u "()V"), (2, .fieldref 10 11), (0, .class_ 12), (0, .nameAndType 13 14), (0, u "java/lang/String"), (0, u "value"), (0, u "[B"), (0, .fieldref 10 16), (0, .nameAndType 17 18), (0, u "coder"), (0, u "B"), (2, u "hash"), (0, u "I"), (2, u "hashIsZero"), (0, u "Z"), (0, .methodref 10 28), (0, .nameAndType 5 29), (0, u "([CIILjava/lang/Void;)V"), (8, .fieldref 10 39), (0, .nameAndType 40 26), (0, u "COMPACT_STRINGS"), (1, .class_ 44), (1, u "java/lang/StringUTF16"), (0, u "compress"), (1, .methodref 42 48), (0, .nameAndType 49 50), (0, u "coderFromArrayLen"), (0, u "([BI)B"), (56, .class_ 109), (1, u "java/lang/StringLatin1"), (67, .methodref 42 178), (0, .nameAndType 45 179), (0, u "([CII)[B"), (361, .methodref 107 542), (0, .nameAndType 543 544), (0, u "equals"), (0, u "([B[B)Z"), (28, u "(Ljava/lang/Object;)Z"), (1, .class_ 576), (0, u "java/lang/CharSequence"), (22, u "CASE_INSENSITIVE_ORDER"), (0, u "Ljava/util/Comparator;"), (409, u "([C)V"), (90, u "serialPersistentFields"), (0, u "[Ljava/io/ObjectStreamField;"), (0, .class_ 1104), (0, u "java/lang/String$CaseInsensitiveComparator"), (1, .class_ 1107), (0, u "java/io/Serializable"), (0, .class_ 1109), (0, u "java/lang/Comparable"), (0, .class_ 1111), (0, u "java/lang/constant/Constable"), (0, .class_ 1113), (0, u "java/lang/constant/ConstantDesc"), (2, u "serialVersionUID"), (0, u "J"), (3, u "REPL"), (0, u "C"), (2, u "LATIN1"), (1, u "UTF16")] 323

def k7m0 : Method := { name := "<init>", desc := "()V", sig := { parameters := [], returnType := none }, accessFlags := 1, code := none }
def k7c1 : Code := { maxStack := 5, maxLocals := 2, code := jdk_42_method_3_code, exceptionTable := #[], attributes := #[] }
def k7m1 : Method := { name := "<init>", desc := "([C)V", sig := { parameters := [(.array .char)], returnType := none }, accessFlags := 1, code := some k7c1 }
def k7c2 : Code := { maxStack := 2, maxLocals := 3, code := jdk_42_method_66_code, exceptionTable := #[], attributes := #[] }
def k7m2 : Method := { name := "equals", desc := "(Ljava/lang/Object;)Z", sig := { parameters := [(.object "java/lang/Object")], returnType := some .boolean }, accessFlags := 1, code := some k7c2 }
def k7c3 : Code := { maxStack := 4, maxLocals := 6, code := jdk_42_method_149_code, exceptionTable := #[], attributes := #[] }
def k7m3 : Method := { name := "<init>", desc := "([CIILjava/lang/Void;)V", sig := { parameters := [(.array .char), .int, .int, (.object "java/lang/Void")], returnType := none }, accessFlags := 2, code := some k7c3 }
/-- java/lang/String -/
def k7 : Class := { plain "java/lang/String" (some 0) with
  accessFlags := 49
  interfaces := #[2, 3, 4, 5, 6]
  cf := some (fileOf pool7 10 #[.nestMembers #[1103]] #[{ accessFlags := 1, nameIndex := 5, descriptorIndex := 6, attributes := #[] }, { accessFlags := 1, nameIndex := 5, descriptorIndex := 1010, attributes := #[] }, { accessFlags := 1, nameIndex := 543, descriptorIndex := 573, attributes := #[] }, { accessFlags := 2, nameIndex := 5, descriptorIndex := 29, attributes := #[] }] 49 2 #[1106, 1108, 575, 1110, 1112] #[{ accessFlags := 18, nameIndex := 13, descriptorIndex := 14, attributes := #[] }, { accessFlags := 18, nameIndex := 17, descriptorIndex := 18, attributes := #[] }, { accessFlags := 2, nameIndex := 21, descriptorIndex := 22, attributes := #[] }, { accessFlags := 2, nameIndex := 25, descriptorIndex := 26, attributes := #[] }, { accessFlags := 26, nameIndex := 1116, descriptorIndex := 1117, attributes := #[] }, { accessFlags := 24, nameIndex := 40, descriptorIndex := 26, attributes := #[] }, { accessFlags := 26, nameIndex := 1101, descriptorIndex := 1102, attributes := #[] }, { accessFlags := 26, nameIndex := 1121, descriptorIndex := 1122, attributes := #[] }, { accessFlags := 25, nameIndex := 599, descriptorIndex := 600, attributes := #[] }, { accessFlags := 24, nameIndex := 1125, descriptorIndex := 18, attributes := #[] }, { accessFlags := 24, nameIndex := 1127, descriptorIndex := 18, attributes := #[] }])
  fields := #[{ name := "value", type := (.array .byte), accessFlags := 18, slot := 0, constantValue := 0 }, { name := "coder", type := .byte, accessFlags := 18, slot := 1, constantValue := 0 }, { name := "hash", type := .int, accessFlags := 2, slot := 2, constantValue := 0 }, { name := "hashIsZero", type := .boolean, accessFlags := 2, slot := 3, constantValue := 0 }, { name := "serialVersionUID", type := .long, accessFlags := 26, slot := 0, constantValue := 0 }, { name := "COMPACT_STRINGS", type := .boolean, accessFlags := 24, slot := 1, constantValue := 0 }, { name := "serialPersistentFields", type := (.array (.object "java/io/ObjectStreamField")), accessFlags := 26, slot := 2, constantValue := 0 }, { name := "REPL", type := .char, accessFlags := 26, slot := 3, constantValue := 0 }, { name := "CASE_INSENSITIVE_ORDER", type := (.object "java/util/Comparator"), accessFlags := 25, slot := 4, constantValue := 0 }, { name := "LATIN1", type := .byte, accessFlags := 24, slot := 5, constantValue := 0 }, { name := "UTF16", type := .byte, accessFlags := 24, slot := 6, constantValue := 0 }]
  methods := #[k7m0, k7m1, k7m2, k7m3]
  instanceTypes := #[(.array .byte), .byte, .int, .boolean]
  staticTypes := #[.long, .boolean, (.array (.object "java/io/ObjectStreamField")), .char, (.object "java/util/Comparator"), .byte, .byte]
  resolved := Array.replicate 1451 none
  statics := some 0 }

def pool8 : Array CpInfo := pool [(6, .class_ 8), (1, u "java/lang/Object"), (0, u "<init>"), (0, u "()V"), (1, .class_ 14), (1, u "java/lang/StringUTF16"), (31, u "$assertionsDisabled"), (0, u "Z"), (13, u "HI_BYTE_SHIFT"), (0, u "I"), (2, u "LO_BYTE_SHIFT"), (49, .methodref 12 116), (0, .nameAndType 117 118), (0, u "compress"), (0, u "([CI[BII)I"), (3, u "([CII)[B"), (138, u "coderFromArrayLen"), (0, u "([BI)B"), (106, .class_ 371), (1, u "java/lang/StringUTF16$LinesSpliterator"), (58, u "MAX_LENGTH"), (196, .class_ 628), (0, u "java/lang/StringUTF16$CodePointsSpliterator"), (0, .class_ 630), (0, u "java/lang/StringUTF16$CharsSpliterator")] 4

def k8m0 : Method := { name := "<init>", desc := "()V", sig := { parameters := [], returnType := none }, accessFlags := 0, code := none }
def k8c1 : Code := { maxStack := 2, maxLocals := 2, code := jdk_52_method_15_code, exceptionTable := #[], attributes := #[] }
def k8m1 : Method := { name := "coderFromArrayLen", desc := "([BI)B", sig := { parameters := [(.array .byte), .int], returnType := some .byte }, accessFlags := 8, code := some k8c1 }
def k8c2 : Code := { maxStack := 5, maxLocals := 6, code := jdk_52_method_16_code, exceptionTable := #[], attributes := #[] }
def k8m2 : Method := { name := "compress", desc := "([CII)[B", sig := { parameters := [(.array .char), .int, .int], returnType := some (.array .byte) }, accessFlags := 9, code := some k8c2 }
def k8c3 : Code := { maxStack := 3, maxLocals := 7, code := jdk_52_method_21_code, exceptionTable := #[], attributes := #[] }
def k8m3 : Method := { name := "compress", desc := "([CI[BII)I", sig := { parameters := [(.array .char), .int, (.array .byte), .int, .int], returnType := some .int }, accessFlags := 9, code := some k8c3 }
/-- java/lang/StringUTF16 -/
def k8 : Class := { plain "java/lang/StringUTF16" (some 0) with
  accessFlags := 48
  interfaces := #[]
  cf := some (fileOf pool8 12 #[.nestMembers #[627, 629, 369]] #[{ accessFlags := 0, nameIndex := 9, descriptorIndex := 10, attributes := #[] }, { accessFlags := 8, nameIndex := 261, descriptorIndex := 262, attributes := #[] }, { accessFlags := 9, nameIndex := 117, descriptorIndex := 122, attributes := #[] }, { accessFlags := 9, nameIndex := 117, descriptorIndex := 118, attributes := #[] }] 48 6 #[] #[{ accessFlags := 26, nameIndex := 61, descriptorIndex := 62, attributes := #[] }, { accessFlags := 26, nameIndex := 65, descriptorIndex := 62, attributes := #[] }, { accessFlags := 24, nameIndex := 430, descriptorIndex := 62, attributes := #[] }, { accessFlags := 4120, nameIndex := 46, descriptorIndex := 47, attributes := #[] }])
  fields := #[{ name := "HI_BYTE_SHIFT", type := .int, accessFlags := 26, slot := 0, constantValue := 0 }, { name := "LO_BYTE_SHIFT", type := .int, accessFlags := 26, slot := 1, constantValue := 0 }, { name := "MAX_LENGTH", type := .int, accessFlags := 24, slot := 2, constantValue := 0 }, { name := "$assertionsDisabled", type := .boolean, accessFlags := 4120, slot := 3, constantValue := 0 }]
  methods := #[k8m0, k8m1, k8m2, k8m3]
  instanceTypes := #[]
  staticTypes := #[.int, .int, .int, .boolean]
  resolved := Array.replicate 635 none
  statics := none }

def pool9 : Array CpInfo := pool [(1, .methodref 2 3), (0, .class_ 4), (0, .nameAndType 5 6), (0, u "java/lang/Object"), (0, u "<init>"), (0, u "()V"), (0, .fieldref 8 9), (0, .class_ 10), (0, .nameAndType 11 12), (0, u "com/example/saldera/saldera/coupon/Cashier"), (0, u "username"), (0, u "Ljava/lang/String;"), (0, .fieldref 8 14), (0, .nameAndType 15 12), (0, u "branch"), (0, .fieldref 8 17), (0, .nameAndType 18 19), (0, u "crossBranch"), (0, u "Z"), (0, .methodref 21 22), (0, .class_ 23), (0, .nameAndType 24 25), (0, u "java/lang/String"), (0, u "equals"), (0, u "(Ljava/lang/Object;)Z"), (2, u "isOtherBranch"), (0, u "(Ljava/lang/String;)Z"), (0, u "(Ljava/lang/String;Ljava/lang/String;Z)V")] 9

def k9c0 : Code := { maxStack := 2, maxLocals := 4, code := prog_14_method_1_code, exceptionTable := #[], attributes := #[] }
def k9m0 : Method := { name := "<init>", desc := "(Ljava/lang/String;Ljava/lang/String;Z)V", sig := { parameters := [(.object "java/lang/String"), (.object "java/lang/String"), .boolean], returnType := none }, accessFlags := 1, code := some k9c0 }
def k9c1 : Code := { maxStack := 2, maxLocals := 2, code := prog_14_method_4_code, exceptionTable := #[], attributes := #[] }
def k9m1 : Method := { name := "isOtherBranch", desc := "(Ljava/lang/String;)Z", sig := { parameters := [(.object "java/lang/String")], returnType := some .boolean }, accessFlags := 1, code := some k9c1 }
/-- com/example/saldera/saldera/coupon/Cashier -/
def k9 : Class := { plain "com/example/saldera/saldera/coupon/Cashier" (some 0) with
  accessFlags := 49
  interfaces := #[]
  cf := some (fileOf pool9 8 #[] #[{ accessFlags := 1, nameIndex := 5, descriptorIndex := 30, attributes := #[] }, { accessFlags := 1, nameIndex := 28, descriptorIndex := 29, attributes := #[] }] 49 2 #[] #[{ accessFlags := 18, nameIndex := 11, descriptorIndex := 12, attributes := #[] }, { accessFlags := 18, nameIndex := 15, descriptorIndex := 12, attributes := #[] }, { accessFlags := 18, nameIndex := 18, descriptorIndex := 19, attributes := #[] }])
  fields := #[{ name := "username", type := (.object "java/lang/String"), accessFlags := 18, slot := 0, constantValue := 0 }, { name := "branch", type := (.object "java/lang/String"), accessFlags := 18, slot := 1, constantValue := 0 }, { name := "crossBranch", type := .boolean, accessFlags := 18, slot := 2, constantValue := 0 }]
  methods := #[k9m0, k9m1]
  instanceTypes := #[(.object "java/lang/String"), (.object "java/lang/String"), .boolean]
  staticTypes := #[]
  resolved := Array.replicate 40 none
  statics := none }

def pool10 : Array CpInfo := pool [(4, .class_ 6), (1, u "java/lang/Object"), (0, u "<init>"), (0, u "()V"), (5, .class_ 16), (1, u "java/lang/StringLatin1"), (104, u "$assertionsDisabled"), (0, u "Z"), (98, .class_ 223), (1, u "java/lang/StringLatin1$LinesSpliterator"), (57, u "equals"), (0, u "([B[B)Z"), (107, .class_ 391), (0, u "java/lang/StringLatin1$CharsSpliterator")] 3

def k10m0 : Method := { name := "<init>", desc := "()V", sig := { parameters := [], returnType := none }, accessFlags := 0, code := none }
def k10c1 : Code := { maxStack := 3, maxLocals := 3, code := jdk_43_method_13_code, exceptionTable := #[], attributes := #[] }
def k10m1 : Method := { name := "equals", desc := "([B[B)Z", sig := { parameters := [(.array .byte), (.array .byte)], returnType := some .boolean }, accessFlags := 9, code := some k10c1 }
/-- java/lang/StringLatin1 -/
def k10 : Class := { plain "java/lang/StringLatin1" (some 0) with
  accessFlags := 48
  interfaces := #[]
  cf := some (fileOf pool10 14 #[.nestMembers #[390, 221]] #[{ accessFlags := 0, nameIndex := 7, descriptorIndex := 8, attributes := #[] }, { accessFlags := 9, nameIndex := 281, descriptorIndex := 282, attributes := #[] }] 48 4 #[] #[{ accessFlags := 4120, nameIndex := 121, descriptorIndex := 122, attributes := #[] }])
  fields := #[{ name := "$assertionsDisabled", type := .boolean, accessFlags := 4120, slot := 0, constantValue := 0 }]
  methods := #[k10m0, k10m1]
  instanceTypes := #[]
  staticTypes := #[.boolean]
  resolved := Array.replicate 395 none
  statics := none }

def pool11 : Array CpInfo := pool [(2, .class_ 4), (1, u "java/lang/Object"), (0, u "<init>"), (0, u "()V"), (17, .class_ 26), (1, u "jdk/internal/util/Preconditions"), (28, .class_ 56), (0, u "jdk/internal/util/Preconditions$4"), (57, .class_ 115), (0, u "jdk/internal/util/Preconditions$1"), (7, u "SIOOBE_FORMATTER"), (0, u "Ljava/util/function/BiFunction;"), (0, .class_ 126), (0, u "jdk/internal/util/Preconditions$2"), (3, u "AIOOBE_FORMATTER"), (0, .class_ 132), (0, u "jdk/internal/util/Preconditions$3"), (3, u "IOOBE_FORMATTER")] 57

def k11m0 : Method := { name := "<init>", desc := "()V", sig := { parameters := [], returnType := none }, accessFlags := 1, code := none }
/-- jdk/internal/util/Preconditions -/
def k11 : Class := { plain "jdk/internal/util/Preconditions" (some 0) with
  accessFlags := 33
  interfaces := #[]
  cf := some (fileOf pool11 24 #[.nestMembers #[55, 131, 125, 114]] #[{ accessFlags := 1, nameIndex := 5, descriptorIndex := 6, attributes := #[] }] 33 2 #[] #[{ accessFlags := 25, nameIndex := 123, descriptorIndex := 124, attributes := #[] }, { accessFlags := 25, nameIndex := 130, descriptorIndex := 124, attributes := #[] }, { accessFlags := 25, nameIndex := 136, descriptorIndex := 124, attributes := #[] }])
  fields := #[{ name := "SIOOBE_FORMATTER", type := (.object "java/util/function/BiFunction"), accessFlags := 25, slot := 0, constantValue := 0 }, { name := "AIOOBE_FORMATTER", type := (.object "java/util/function/BiFunction"), accessFlags := 25, slot := 1, constantValue := 0 }, { name := "IOOBE_FORMATTER", type := (.object "java/util/function/BiFunction"), accessFlags := 25, slot := 2, constantValue := 0 }]
  methods := #[k11m0]
  instanceTypes := #[]
  staticTypes := #[(.object "java/util/function/BiFunction"), (.object "java/util/function/BiFunction"), (.object "java/util/function/BiFunction")]
  resolved := Array.replicate 194 none
  statics := some 1 }

def pool12 : Array CpInfo := pool [(9, u "<init>"), (6, .class_ 18), (1, u "java/lang/Object"), (0, u "()V"), (1, .class_ 23), (1, u "jdk/internal/util/ArraysSupport"), (0, u "LOG2_ARRAY_LONG_INDEX_SCALE"), (0, u "I"), (2, u "U"), (0, u "Ljdk/internal/misc/Unsafe;"), (8, u "BIG_ENDIAN"), (0, u "Z"), (8, u "LOG2_BYTE_BIT_SIZE"), (4, u "LOG2_ARRAY_INT_INDEX_SCALE"), (54, u "JLA"), (0, u "Ljdk/internal/access/JavaLangAccess;"), (11, u "LOG2_ARRAY_BOOLEAN_INDEX_SCALE"), (9, u "LOG2_ARRAY_BYTE_INDEX_SCALE"), (5, u "LOG2_ARRAY_CHAR_INDEX_SCALE"), (5, u "LOG2_ARRAY_SHORT_INDEX_SCALE"), (18, u "LOG2_ARRAY_FLOAT_INDEX_SCALE"), (24, u "LOG2_ARRAY_DOUBLE_INDEX_SCALE"), (89, u "T_BOOLEAN"), (2, u "T_CHAR"), (1, u "T_FLOAT"), (1, u "T_DOUBLE"), (1, u "T_BYTE"), (1, u "T_SHORT"), (1, u "T_INT"), (1, u "T_LONG"), (1, u "SOFT_MAX_ARRAY_LENGTH")] 83

def k12m0 : Method := { name := "<init>", desc := "()V", sig := { parameters := [], returnType := none }, accessFlags := 2, code := none }
/-- jdk/internal/util/ArraysSupport -/
def k12 : Class := { plain "jdk/internal/util/ArraysSupport" (some 0) with
  accessFlags := 33
  interfaces := #[]
  cf := some (fileOf pool12 21 #[] #[{ accessFlags := 2, nameIndex := 9, descriptorIndex := 19, attributes := #[] }] 33 16 #[] #[{ accessFlags := 24, nameIndex := 28, descriptorIndex := 29, attributes := #[] }, { accessFlags := 26, nameIndex := 38, descriptorIndex := 39, attributes := #[] }, { accessFlags := 25, nameIndex := 121, descriptorIndex := 25, attributes := #[] }, { accessFlags := 25, nameIndex := 131, descriptorIndex := 25, attributes := #[] }, { accessFlags := 25, nameIndex := 137, descriptorIndex := 25, attributes := #[] }, { accessFlags := 25, nameIndex := 143, descriptorIndex := 25, attributes := #[] }, { accessFlags := 25, nameIndex := 53, descriptorIndex := 25, attributes := #[] }, { accessFlags := 25, nameIndex := 24, descriptorIndex := 25, attributes := #[] }, { accessFlags := 25, nameIndex := 162, descriptorIndex := 25, attributes := #[] }, { accessFlags := 25, nameIndex := 187, descriptorIndex := 25, attributes := #[] }, { accessFlags := 26, nameIndex := 48, descriptorIndex := 25, attributes := #[] }, { accessFlags := 25, nameIndex := 277, descriptorIndex := 25, attributes := #[] }, { accessFlags := 25, nameIndex := 280, descriptorIndex := 25, attributes := #[] }, { accessFlags := 25, nameIndex := 282, descriptorIndex := 25, attributes := #[] }, { accessFlags := 25, nameIndex := 284, descriptorIndex := 25, attributes := #[] }, { accessFlags := 25, nameIndex := 286, descriptorIndex := 25, attributes := #[] }, { accessFlags := 25, nameIndex := 288, descriptorIndex := 25, attributes := #[] }, { accessFlags := 25, nameIndex := 290, descriptorIndex := 25, attributes := #[] }, { accessFlags := 25, nameIndex := 292, descriptorIndex := 25, attributes := #[] }, { accessFlags := 26, nameIndex := 108, descriptorIndex := 109, attributes := #[] }, { accessFlags := 25, nameIndex := 294, descriptorIndex := 25, attributes := #[] }])
  fields := #[{ name := "U", type := (.object "jdk/internal/misc/Unsafe"), accessFlags := 24, slot := 0, constantValue := 0 }, { name := "BIG_ENDIAN", type := .boolean, accessFlags := 26, slot := 1, constantValue := 0 }, { name := "LOG2_ARRAY_BOOLEAN_INDEX_SCALE", type := .int, accessFlags := 25, slot := 2, constantValue := 0 }, { name := "LOG2_ARRAY_BYTE_INDEX_SCALE", type := .int, accessFlags := 25, slot := 3, constantValue := 0 }, { name := "LOG2_ARRAY_CHAR_INDEX_SCALE", type := .int, accessFlags := 25, slot := 4, constantValue := 0 }, { name := "LOG2_ARRAY_SHORT_INDEX_SCALE", type := .int, accessFlags := 25, slot := 5, constantValue := 0 }, { name := "LOG2_ARRAY_INT_INDEX_SCALE", type := .int, accessFlags := 25, slot := 6, constantValue := 0 }, { name := "LOG2_ARRAY_LONG_INDEX_SCALE", type := .int, accessFlags := 25, slot := 7, constantValue := 0 }, { name := "LOG2_ARRAY_FLOAT_INDEX_SCALE", type := .int, accessFlags := 25, slot := 8, constantValue := 0 }, { name := "LOG2_ARRAY_DOUBLE_INDEX_SCALE", type := .int, accessFlags := 25, slot := 9, constantValue := 0 }, { name := "LOG2_BYTE_BIT_SIZE", type := .int, accessFlags := 26, slot := 10, constantValue := 0 }, { name := "T_BOOLEAN", type := .int, accessFlags := 25, slot := 11, constantValue := 0 }, { name := "T_CHAR", type := .int, accessFlags := 25, slot := 12, constantValue := 0 }, { name := "T_FLOAT", type := .int, accessFlags := 25, slot := 13, constantValue := 0 }, { name := "T_DOUBLE", type := .int, accessFlags := 25, slot := 14, constantValue := 0 }, { name := "T_BYTE", type := .int, accessFlags := 25, slot := 15, constantValue := 0 }, { name := "T_SHORT", type := .int, accessFlags := 25, slot := 16, constantValue := 0 }, { name := "T_INT", type := .int, accessFlags := 25, slot := 17, constantValue := 0 }, { name := "T_LONG", type := .int, accessFlags := 25, slot := 18, constantValue := 0 }, { name := "JLA", type := (.object "jdk/internal/access/JavaLangAccess"), accessFlags := 26, slot := 19, constantValue := 0 }, { name := "SOFT_MAX_ARRAY_LENGTH", type := .int, accessFlags := 25, slot := 20, constantValue := 0 }]
  methods := #[k12m0]
  instanceTypes := #[]
  staticTypes := #[(.object "jdk/internal/misc/Unsafe"), .boolean, .int, .int, .int, .int, .int, .int, .int, .int, .int, .int, .int, .int, .int, .int, .int, .int, .int, (.object "jdk/internal/access/JavaLangAccess"), .int]
  resolved := Array.replicate 378 none
  statics := none }

def pool13 : Array CpInfo := pool [(1, u "java/lang/Cloneable"), (0, .class_ 1), (0, u "java/lang/Object"), (0, .class_ 3)] 3

/-- java/lang/Cloneable -/
def k13 : Class := { plain "java/lang/Cloneable" (some 0) with
  accessFlags := 1537
  interfaces := #[]
  cf := some (fileOf pool13 2 #[] #[] 1537 4 #[] #[])
  fields := #[]
  methods := #[]
  instanceTypes := #[]
  staticTypes := #[]
  resolved := Array.replicate 8 none
  statics := none }

/-- the primitive byte -/
def k14 : Class := { plain "byte" none with kind := .primitive 'B', accessFlags := 0x411 }
/-- [B -/
def k15 : Class := { plain "[B" (some 0) with kind := .array 14 .byte, interfaces := #[13, 2], accessFlags := 1041 }

/-- the primitive char -/
def k16 : Class := { plain "char" none with kind := .primitive 'C', accessFlags := 0x411 }
/-- [C -/
def k17 : Class := { plain "[C" (some 0) with kind := .array 16 .char, interfaces := #[13, 2], accessFlags := 1041 }

/-- the primitive int -/
def k18 : Class := { plain "int" none with kind := .primitive 'I', accessFlags := 0x411 }
/-- [I -/
def k19 : Class := { plain "[I" (some 0) with kind := .array 18 .int, interfaces := #[13, 2], accessFlags := 1041 }

def heap : Heap := #[{ cls := 7, slots := #[.long 0, .int 1, .null, .int 0, .null, .int 0, .int 0], vm := .statics 7 },
  { cls := 11, slots := #[.null, .null, .null], vm := .statics 11 }]
def classes : Array Class := #[k0, k1, k2, k3, k4, k5, k6, k7, k8, k9, k10, k11, k12, k13, k14, k15, k16, k17, k18, k19]
def interned : List (Array UInt16 × Addr) := []
def slotsUsed : Nat := 10
def theMethod : MethodId := ⟨1, 1⟩
def args0 : Array Value := #[.int 5, .int 3, .int 2]
def aboutOver (below : List Frame) : State where
  vm := { classes := classes, interned := interned.toArray }
  heap := heap
  slotsUsed := slotsUsed
  threads := #[{ frames := .invoking theMethod args0 :: below }]
def below0 : List Frame := [.native { method := ⟨0, 0⟩, args := #[] }]
def about1 : State := aboutOver below0
def p0 : Program := .bare "" "" ""
def e0 : Env := launch0.env 0 0 0
theorem w_frames : about1.frames = Frame.invoking theMethod args0 :: below0 := rfl
set_option maxRecDepth 65536 in
theorem w_args : argsFit about1.vm theMethod args0 = true := by decide +kernel
set_option maxRecDepth 65536 in
theorem w_heap : heapFits about1 = true := by decide +kernel
set_option maxRecDepth 65536 in
theorem w_runnable : about1.curStatus? = some .runnable := by decide +kernel
set_option maxRecDepth 65536 in
theorem w_alone : about1.alone = true := by decide +kernel
set_option maxRecDepth 65536 in
theorem w_named : about1.methodNamed? x = some theMethod := by decide +kernel
set_option maxRecDepth 65536 in
theorem w_hears : about1.hears theMethod below0 = true := by decide +kernel
set_option maxRecDepth 65536 in
theorem w_ripe : about1.ripe theMethod args0 below0 = true := by decide +kernel
theorem w_running : about1.status = .running := rfl
set_option maxRecDepth 65536 in
theorem w_room : about1.hasRoom e0.platform room_1 = true :=
  launch0.hasRoom_least _ room_1 (by decide +kernel) (by decide +kernel) (by decide +kernel) (by decide +kernel) (by decide +kernel) (by decide +kernel)
theorem allAtoms_all (ts : List Jvm.Cond) (a : Array Jvm.Value) (st : Jvm.State) : (allAtoms ts).before a st = ts.all (fun c => c.before a st) := by
  induction ts with
  | nil => rfl
  | cons c t ih =>
    show (Jvm.Cond.and c (allAtoms t)).before a st = _
    rw [Jvm.Cond.before_and, ih, List.all_cons]
def words1 : List Jvm.Cond := Jvm.Cond.code x code maxLocals ret :: tables_1
/-- a 'code' word, met by the world's own term for the bytes: nothing is compared byte by byte -/
theorem code_word {y : MethodName} {bytes : ByteArray} {mx : Nat} {rt : Option FieldType} {a : Array Value} {s : State} {m : MethodId} {meth : Method} {c : Code} (h1 : s.methodNamed? y = some m) (h2 : s.vm.method? m = some meth) (h3 : meth.code = some c) (h4 : c.code = bytes)
    (h5 : (c.maxLocals == mx && c.exceptionTable.isEmpty && decide (c.maxStack ≤ mostOperands) && decide (meth.sig.returnType = rt) && !meth.locks && decide (parseMethodDescriptor y.desc = some meth.sig)) = true) : (Jvm.Cond.code y bytes mx rt).before a s = true := by
  simp only [Bool.and_eq_true, beq_iff_eq, Bool.not_eq_true', decide_eq_true_eq] at h5
  obtain ⟨⟨⟨⟨⟨g1, g2⟩, g3⟩, g4⟩, g5⟩, g6⟩ := h5
  simp [Cond.before, Cond.holds, Cond.value, h1, h2, h3, h4, g1, g2, g3, g4, g5, g6]
def isCode : Jvm.Cond → Bool
  | .code _ _ _ _ => true
  | _ => false
theorem all_split {L : List Jvm.Cond} {P : Jvm.Cond → Bool} (h1 : L.all (fun c => isCode c || P c) = true) (h2 : ∀ c ∈ L.filter isCode, P c = true) : L.all P = true := by
  refine List.all_eq_true.mpr fun c hc => ?_
  have h := List.all_eq_true.mp h1 c hc
  rcases Bool.eq_false_or_eq_true (isCode c) with hi | hi
  · exact h2 c (List.mem_filter.mpr ⟨hc, hi⟩)
  · simpa [hi] using h
set_option maxRecDepth 65536 in
theorem w_c0 : (Jvm.Cond.code x code maxLocals ret).before args0 about1 = true := code_word (m := ⟨1, 1⟩) (meth := k1m1) (c := k1c1) (by decide +kernel) rfl rfl rfl (by decide +kernel)
set_option maxRecDepth 65536 in
theorem w_c1 : (Jvm.Cond.code ({ cls := "java/lang/String", name := "<init>", desc := "([C)V" } : Jvm.MethodName) jdk_42_method_3_code (2 : Nat) (Option.none : Option Jvm.ClassFile.FieldType)).before args0 about1 = true := code_word (m := ⟨7, 1⟩) (meth := k7m1) (c := k7c1) (by decide +kernel) rfl rfl rfl (by decide +kernel)
set_option maxRecDepth 65536 in
theorem w_c2 : (Jvm.Cond.code ({ cls := "java/lang/String", name := "<init>", desc := "([CIILjava/lang/Void;)V" } : Jvm.MethodName) jdk_42_method_149_code (6 : Nat) (Option.none : Option Jvm.ClassFile.FieldType)).before args0 about1 = true := code_word (m := ⟨7, 3⟩) (meth := k7m3) (c := k7c3) (by decide +kernel) rfl rfl rfl (by decide +kernel)
set_option maxRecDepth 65536 in
theorem w_c3 : (Jvm.Cond.code ({ cls := "java/lang/Object", name := "<init>", desc := "()V" } : Jvm.MethodName) object_method_1_code (1 : Nat) (Option.none : Option Jvm.ClassFile.FieldType)).before args0 about1 = true := code_word (m := ⟨0, 0⟩) (meth := k0m0) (c := k0c0) (by decide +kernel) rfl rfl rfl (by decide +kernel)
set_option maxRecDepth 65536 in
theorem w_c4 : (Jvm.Cond.code ({ cls := "java/lang/StringUTF16", name := "compress", desc := "([CII)[B" } : Jvm.MethodName) jdk_52_method_16_code (6 : Nat) (Option.some (Jvm.ClassFile.FieldType.array Jvm.ClassFile.FieldType.byte))).before args0 about1 = true := code_word (m := ⟨8, 2⟩) (meth := k8m2) (c := k8c2) (by decide +kernel) rfl rfl rfl (by decide +kernel)
set_option maxRecDepth 65536 in
theorem w_c5 : (Jvm.Cond.code ({ cls := "java/lang/StringUTF16", name := "compress", desc := "([CI[BII)I" } : Jvm.MethodName) jdk_52_method_21_code (7 : Nat) (Option.some Jvm.ClassFile.FieldType.int)).before args0 about1 = true := code_word (m := ⟨8, 3⟩) (meth := k8m3) (c := k8c3) (by decide +kernel) rfl rfl rfl (by decide +kernel)
set_option maxRecDepth 65536 in
theorem w_c6 : (Jvm.Cond.code ({ cls := "java/lang/StringUTF16", name := "coderFromArrayLen", desc := "([BI)B" } : Jvm.MethodName) jdk_52_method_15_code (2 : Nat) (Option.some Jvm.ClassFile.FieldType.byte)).before args0 about1 = true := code_word (m := ⟨8, 1⟩) (meth := k8m1) (c := k8c1) (by decide +kernel) rfl rfl rfl (by decide +kernel)
set_option maxRecDepth 65536 in
theorem w_c7 : (Jvm.Cond.code ({ cls := "com/example/saldera/saldera/coupon/Cashier", name := "<init>", desc := "(Ljava/lang/String;Ljava/lang/String;Z)V" } : Jvm.MethodName) prog_14_method_1_code (4 : Nat) (Option.none : Option Jvm.ClassFile.FieldType)).before args0 about1 = true := code_word (m := ⟨9, 0⟩) (meth := k9m0) (c := k9c0) (by decide +kernel) rfl rfl rfl (by decide +kernel)
set_option maxRecDepth 65536 in
theorem w_c8 : (Jvm.Cond.code ({ cls := "com/example/saldera/saldera/coupon/Cashier", name := "isOtherBranch", desc := "(Ljava/lang/String;)Z" } : Jvm.MethodName) prog_14_method_4_code (2 : Nat) (Option.some Jvm.ClassFile.FieldType.boolean)).before args0 about1 = true := code_word (m := ⟨9, 1⟩) (meth := k9m1) (c := k9c1) (by decide +kernel) rfl rfl rfl (by decide +kernel)
set_option maxRecDepth 65536 in
theorem w_c9 : (Jvm.Cond.code ({ cls := "java/lang/String", name := "equals", desc := "(Ljava/lang/Object;)Z" } : Jvm.MethodName) jdk_42_method_66_code (3 : Nat) (Option.some Jvm.ClassFile.FieldType.boolean)).before args0 about1 = true := code_word (m := ⟨7, 2⟩) (meth := k7m2) (c := k7c2) (by decide +kernel) rfl rfl rfl (by decide +kernel)
set_option maxRecDepth 65536 in
theorem w_c10 : (Jvm.Cond.code ({ cls := "java/lang/StringLatin1", name := "equals", desc := "([B[B)Z" } : Jvm.MethodName) jdk_43_method_13_code (3 : Nat) (Option.some Jvm.ClassFile.FieldType.boolean)).before args0 about1 = true := code_word (m := ⟨10, 1⟩) (meth := k10m1) (c := k10c1) (by decide +kernel) rfl rfl rfl (by decide +kernel)
def codes1 : List Jvm.Cond := [Jvm.Cond.code x code maxLocals ret, Jvm.Cond.code ({ cls := "java/lang/String", name := "<init>", desc := "([C)V" } : Jvm.MethodName) jdk_42_method_3_code (2 : Nat) (Option.none : Option Jvm.ClassFile.FieldType), Jvm.Cond.code ({ cls := "java/lang/String", name := "<init>", desc := "([CIILjava/lang/Void;)V" } : Jvm.MethodName) jdk_42_method_149_code (6 : Nat) (Option.none : Option Jvm.ClassFile.FieldType), Jvm.Cond.code ({ cls := "java/lang/Object", name := "<init>", desc := "()V" } : Jvm.MethodName) object_method_1_code (1 : Nat) (Option.none : Option Jvm.ClassFile.FieldType), Jvm.Cond.code ({ cls := "java/lang/StringUTF16", name := "compress", desc := "([CII)[B" } : Jvm.MethodName) jdk_52_method_16_code (6 : Nat) (Option.some (Jvm.ClassFile.FieldType.array Jvm.ClassFile.FieldType.byte)), Jvm.Cond.code ({ cls := "java/lang/StringUTF16", name := "compress", desc := "([CI[BII)I" } : Jvm.MethodName) jdk_52_method_21_code (7 : Nat) (Option.some Jvm.ClassFile.FieldType.int), Jvm.Cond.code ({ cls := "java/lang/StringUTF16", name := "coderFromArrayLen", desc := "([BI)B" } : Jvm.MethodName) jdk_52_method_15_code (2 : Nat) (Option.some Jvm.ClassFile.FieldType.byte), Jvm.Cond.code ({ cls := "com/example/saldera/saldera/coupon/Cashier", name := "<init>", desc := "(Ljava/lang/String;Ljava/lang/String;Z)V" } : Jvm.MethodName) prog_14_method_1_code (4 : Nat) (Option.none : Option Jvm.ClassFile.FieldType), Jvm.Cond.code ({ cls := "com/example/saldera/saldera/coupon/Cashier", name := "isOtherBranch", desc := "(Ljava/lang/String;)Z" } : Jvm.MethodName) prog_14_method_4_code (2 : Nat) (Option.some Jvm.ClassFile.FieldType.boolean), Jvm.Cond.code ({ cls := "java/lang/String", name := "equals", desc := "(Ljava/lang/Object;)Z" } : Jvm.MethodName) jdk_42_method_66_code (3 : Nat) (Option.some Jvm.ClassFile.FieldType.boolean), Jvm.Cond.code ({ cls := "java/lang/StringLatin1", name := "equals", desc := "([B[B)Z" } : Jvm.MethodName) jdk_43_method_13_code (3 : Nat) (Option.some Jvm.ClassFile.FieldType.boolean)]
set_option maxRecDepth 65536 in
theorem codes_eq : words1.filter isCode = codes1 := rfl
theorem w_codes : ∀ c ∈ words1.filter isCode, c.before args0 about1 = true := by
  rw [codes_eq]
  intro c hc
  simp only [codes1, List.mem_cons, List.not_mem_nil, or_false] at hc
  rcases hc with rfl | rfl | rfl | rfl | rfl | rfl | rfl | rfl | rfl | rfl | rfl
  · exact w_c0
  · exact w_c1
  · exact w_c2
  · exact w_c3
  · exact w_c4
  · exact w_c5
  · exact w_c6
  · exact w_c7
  · exact w_c8
  · exact w_c9
  · exact w_c10
set_option maxRecDepth 65536 in
theorem w_t1 : (words1.take 24).all (fun c => isCode c || c.before args0 about1) = true := by decide +kernel
set_option maxRecDepth 65536 in
theorem w_t2 : ((words1.drop 24).take 24).all (fun c => isCode c || c.before args0 about1) = true := by decide +kernel
set_option maxRecDepth 65536 in
theorem w_t3 : ((words1.drop 24).drop 24).all (fun c => isCode c || c.before args0 about1) = true := by decide +kernel
theorem w_tables : (allAtoms (Jvm.Cond.code x code maxLocals ret :: tables_1)).before args0 about1 = true := by
  rw [allAtoms_all]
  show words1.all (fun c => c.before args0 about1) = true
  refine all_split ?_ w_codes
  rw [← List.take_append_drop 24 words1, List.all_append, w_t1, ← List.take_append_drop 24 (words1.drop 24), List.all_append, w_t2, w_t3]
  rfl
set_option maxRecDepth 65536 in
theorem w_rest : rest_1_c.before args0 about1 = true := by decide +kernel
set_option maxRecDepth 65536 in
theorem w_case : (Jvm.Cond.and given_1 narrow_1).before args0 about1 = true := by decide +kernel
theorem w_applies : (headSpec (Jvm.Cond.code x code maxLocals ret :: tables_1) room_1).applies x e0.platform about1 = true :=
  (Spec.applies_iff w_frames).mpr ⟨w_running, w_runnable, w_alone, w_named, w_hears, w_ripe, w_room, w_tables⟩
theorem atStart : AtStart classFile x code maxLocals ret World_1 tables_1 room_1 Calls_1 rest_1 Pre_1 launch0 p0 e0 about1 theMethod args0 below0 :=
  ⟨lists_1, trivial, launch0.admits_env _ _ _, launch0.least_env, fairChoices_fair.cas, fairChoices_fair.clock, w_frames, w_args, w_heap, w_applies, trivial, w_rest, w_case⟩
end start1
theorem witness_1 : WitnessClaimed_1 := ⟨start1.p0, start1.e0, start1.about1, start1.theMethod, start1.args0, start1.below0, start1.atStart⟩
end Jvm.Pilot.@@N@@
