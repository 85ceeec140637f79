import JvmDerived
import JvmDerived.Pilot.@@N@@Statement
import JvmDerived.Pilot.@@N@@Code
set_option linter.unusedVariables false
set_option linter.unusedSimpArgs false
/- laws to paste: Road.backV, Road.eqW, Road.codOf (cut by pick.py; bodies as the Statement names them) -/
namespace Jvm.Pilot.@@N@@
namespace StrChars
open Jvm Sem ClassFile Op Lib Jvm.Stand Jvm.Free.XT Jvm.Free.ALB Jvm.Free.JM Jvm.Free
open Jvm.Lib.Cold (StaticIs)
/-- a char array whose places are chars -/
def Ch (a : Addr) (A : Cell) (U : State) : Prop := Arr .char a A U ∧ Typed .char A
theorem Ch.mv {a : Addr} {A : Cell} {U U' : State} (h : Ch a A U) (hal : U.vm.Alike U'.vm) (hh : U'.heap = U.heap) : Ch a A U' := ⟨h.1.mv hal hh, h.2⟩
theorem Ch.keep {a : Addr} {A : Cell} {U U' : State} (h : Ch a A U) (hal : U.vm.Alike U'.vm) (hk : U'.heap[a]? = some A) : Ch a A U' := ⟨h.1.keep hal hk, h.2⟩
/-- what place i of a char[]'s cell holds -/
def cv (A : Cell) (i : Nat) : Int32 := match A.slots[i]? with | some (.int x) => x | _ => 0
theorem Ch.get {a : Addr} {A : Cell} {U : State} (h : Ch a A U) {i : Nat} (hi : i < A.slots.size) : A.slots[i]? = some (.int (cv A i)) := by
  have e := Array.getElem?_eq_getElem hi
  have f := h.2 i _ e
  unfold cv; rw [e]
  generalize A.slots[i] = v at f
  cases v <;> simp [fits] at f ⊢
/-- the byte that i2b leaves of a char -/
def lo8 (x : Int32) : Int32 := x.toInt8.toInt32
theorem fits_lo8 (y : Int32) : fits .byte (.int (lo8 y)) = true := by
  have h1 := y.toInt8.le_toInt
  have h2 := y.toInt8.toInt_lt
  simp only [lo8, fits, Bool.and_eq_true, decide_eq_true_eq, Int32.le_iff_toInt_le, Int8.toInt_toInt32, show (-128 : Int32).toInt = -128 from by decide, show (127 : Int32).toInt = 127 from by decide]
  omega
/-- A' is A but that each place j of lo .. hi - 1 holds f j -/
def Laid (A A' : Cell) (lo hi : Nat) (f : Nat → Value) : Prop := A'.cls = A.cls ∧ A'.vm = A.vm ∧ A'.slots.size = A.slots.size ∧ ∀ i, A'.slots[i]? = if lo ≤ i ∧ i < hi then some (f i) else A.slots[i]?
theorem Laid.zero (A : Cell) (lo : Nat) (f : Nat → Value) : Laid A A lo (lo + 0) f := ⟨rfl, rfl, rfl, fun i => by rw [if_neg (by omega)]⟩
theorem Laid.step {A Ak : Cell} {lo k : Nat} {f : Nat → Value} {v : Value} (h : Laid A Ak lo k f) (hlo : lo ≤ k) (hk : k < Ak.slots.size) (hv : v = f k) : Laid A (Ak.setSlot k v) lo (k + 1) f := by
  refine ⟨h.1, h.2.1, by simpa [Cell.setSlot] using h.2.2.1, fun i => ?_⟩
  by_cases e : k = i
  · subst e; rw [Cell.slots_setSlot_self v hk, if_pos (by omega), hv]
  · rw [Cell.slots_setSlot_ne v e, h.2.2.2 i]
    by_cases q : lo ≤ i ∧ i < k
    · rw [if_pos q, if_pos (by omega)]
    · rw [if_neg q, if_neg (by omega)]
def U16 : String := "java/lang/StringUTF16"
namespace Cmp5
def yN : MethodName := ⟨"java/lang/StringUTF16", "compress", "([CI[BII)I"⟩
abbrev yB : ByteArray := jdk_52_method_21_code
theorem d0 : decode yB 0 = .ok (.iconst 0, 1) := by decide +kernel
theorem d1 : decode yB 1 = .ok (.istore 5, 2) := by decide +kernel
theorem d3 : decode yB 3 = .ok (.iload 5, 2) := by decide +kernel
theorem d5 : decode yB 5 = .ok (.iload 4, 2) := by decide +kernel
theorem d7 : decode yB 7 = .ok (.if_icmp (.ge) 37, 3) := by decide +kernel
theorem d10 : decode yB 10 = .ok (.aload_n 0, 1) := by decide +kernel
theorem d11 : decode yB 11 = .ok (.iload_n 1, 1) := by decide +kernel
theorem d12 : decode yB 12 = .ok (.caload, 1) := by decide +kernel
theorem d13 : decode yB 13 = .ok (.istore 6, 2) := by decide +kernel
theorem d15 : decode yB 15 = .ok (.iload 6, 2) := by decide +kernel
theorem d17 : decode yB 17 = .ok (.sipush 255, 3) := by decide +kernel
theorem d20 : decode yB 20 = .ok (.if_icmp (.le) 6, 3) := by decide +kernel
theorem d26 : decode yB 26 = .ok (.aload_n 2, 1) := by decide +kernel
theorem d27 : decode yB 27 = .ok (.iload_n 3, 1) := by decide +kernel
theorem d28 : decode yB 28 = .ok (.iload 6, 2) := by decide +kernel
theorem d30 : decode yB 30 = .ok (.i2b, 1) := by decide +kernel
theorem d31 : decode yB 31 = .ok (.bastore, 1) := by decide +kernel
theorem d32 : decode yB 32 = .ok (.iinc 1 1, 3) := by decide +kernel
theorem d35 : decode yB 35 = .ok (.iinc 3 1, 3) := by decide +kernel
theorem d38 : decode yB 38 = .ok (.iinc 5 1, 3) := by decide +kernel
theorem d41 : decode yB 41 = .ok (.goto (-38), 3) := by decide +kernel
theorem d44 : decode yB 44 = .ok (.iload 4, 2) := by decide +kernel
theorem d46 : decode yB 46 = .ok (.ireturn, 1) := by decide +kernel
def site : List Cond := []
def tab : Cond := tabOf yN yB 7 (some .int) site
def P (b : Addr) (A : Cell) (d : Addr) (B : Cell) (o q len : Nat) (args : Array Value) (s : State) : Prop := args = #[.ref b, .int (Int32.ofNat o), .ref d, .int (Int32.ofNat q), .int (Int32.ofNat len)] ∧ Ch b A s ∧ Arr .byte d B s ∧ b ≠ d ∧ o + len ≤ A.slots.size ∧ q + len ≤ B.slots.size ∧ ∀ i, i < len → ¬ 255 < cv A (o + i)
def E (b : Addr) (A : Cell) (d : Addr) (B : Cell) (o q len : Nat) (r : Option Value) (s u : State) : Prop := r = some (.int (Int32.ofNat len)) ∧ ∃ B', Put d B' s u ∧ Laid B B' q (q + len) (fun j => Value.int (lo8 (cv A (o + (j - q)))))
/-- no char of the range above 255: len; the places written hold each char's low byte -/
theorem law (l : Launch) (b : Addr) (A : Cell) (d : Addr) (B : Cell) (o q len : Nat) : Law l yN 5 5 0 0 yB 7 (some .int) site (P b A d B o q len) (E b A d B o q len) (copyLocs d q len) 0 0 := by
  refine Law.of_walk (plainFor_of_name (by decide +kernel)) (by decide +kernel) (by decide +kernel) (by decide) (fun _ _ h => by rw [h.1]; rfl) (fun _ U U' hal hh h => ⟨h.1, h.2.1.mv hal hh, h.2.2.1.mv hal hh, h.2.2.2⟩) (fun r U U' V V' h1 hal h2 h => ⟨h.1, h.2.elim fun B' q => ⟨B', q.1.mv h1 h2, q.2⟩⟩) ?_
  intro p e s m args below meth c s₁ X0 hexec hbytes hml hret hlk hnm hown hh0 W hP
  obtain ⟨rfl, hA, hB, hne, l1, l2, hp⟩ := hP
  have c1 : Steps p.tables e below (s₁.setTop (entryFrame m #[.ref b, .int (Int32.ofNat o), .ref d, .int (Int32.ofNat q), .int (Int32.ofNat len)] 7)) (s₁.setTop (mkF m 0 #[.val (.ref b), .val (.int (Int32.ofNat o)), .val (.ref d), .val (.int (Int32.ofNat q)), .val (.int (Int32.ofNat len)), .unset, .unset] [])) := entry rfl
  have hA0 := hA.1.mv X0.warmed.alike hh0
  have hB0 := hB.mv X0.warmed.alike hh0
  have a31 := hA.1.2.2.2
  have c2 : Steps p.tables e below (s₁.setTop (entryFrame m #[.ref b, .int (Int32.ofNat o), .ref d, .int (Int32.ofNat q), .int (Int32.ofNat len)] 7)) (s₁.setTop (mkF m 3 #[.val (.ref b), .val (.int (Int32.ofNat o)), .val (.ref d), .val (.int (Int32.ofNat q)), .val (.int (Int32.ofNat len)), .val (.int 0), .unset] [])) := c1.trans (by
    refine iconstV X0.here hexec rfl 0 (hb hbytes d0) (by decide) ?_
    refine XS.istore X0.here hexec rfl (hb hbytes d1) rfl rfl ?_
    exact Steps.refl _)
  have loop : ∀ (r i : Nat), i + r = len → ∀ (z : Slot), (z = .unset ∨ ∃ w, z = .val w ∧ w.category = 1) → ∀ (Tl : State) (Bk : Cell), Stand p l e { frames := 0, locals := 0, cells := 0, slots := 0 } s m #[.ref b, .int (Int32.ofNat o), .ref d, .int (Int32.ofNat q), .int (Int32.ofNat len)] below meth c Tl ([] ++ copyLocs d q i) 0 0 → Put d Bk s₁ Tl → Laid B Bk q (q + i) (fun j => Value.int (lo8 (cv A (o + (j - q))))) →
      Steps p.tables e below (s₁.setTop (entryFrame m #[.ref b, .int (Int32.ofNat o), .ref d, .int (Int32.ofNat q), .int (Int32.ofNat len)] 7)) (Tl.setTop (mkF m 3 #[.val (.ref b), .val (.int (Int32.ofNat (o + i))), .val (.ref d), .val (.int (Int32.ofNat (q + i))), .val (.int (Int32.ofNat len)), .val (.int (Int32.ofNat i)), z] [])) → ∃ (T' : State) (B' : Cell) (z' : Slot), Stand p l e { frames := 0, locals := 0, cells := 0, slots := 0 } s m #[.ref b, .int (Int32.ofNat o), .ref d, .int (Int32.ofNat q), .int (Int32.ofNat len)] below meth c T' ([] ++ copyLocs d q len) 0 0 ∧ Put d B' s₁ T' ∧ Laid B B' q (q + len) (fun j => Value.int (lo8 (cv A (o + (j - q))))) ∧
      Steps p.tables e below (s₁.setTop (entryFrame m #[.ref b, .int (Int32.ofNat o), .ref d, .int (Int32.ofNat q), .int (Int32.ofNat len)] 7)) (T'.setTop (mkF m 3 #[.val (.ref b), .val (.int (Int32.ofNat (o + len))), .val (.ref d), .val (.int (Int32.ofNat (q + len))), .val (.int (Int32.ofNat len)), .val (.int (Int32.ofNat len)), z'] [])) := by
    intro r
    induction r with
    | zero =>
      intro i hi z hz Tl Bk Xl pl fl cl
      have hil : i = len := by omega
      rw [hil] at Xl fl cl
      exact ⟨Tl, Bk, z, Xl, pl, fl, cl⟩
    | succ r ih =>
      intro i hi z hz Tl Bk Xl pl fl cl
      have all := X0.warmed.alike.symm.trans Xl.warmed.alike
      have hAl := hA0.keep all (pl.other hne hA0.1)
      have hBk := hB0.like all pl.1 fl.1 fl.2.1 fl.2.2.1
      have hlt : q + i < Bk.slots.size := by rw [fl.2.2.1]; omega
      have c3 : Steps p.tables e below (s₁.setTop (entryFrame m #[.ref b, .int (Int32.ofNat o), .ref d, .int (Int32.ofNat q), .int (Int32.ofNat len)] 7)) (Tl.setTop (mkF m 12 #[.val (.ref b), .val (.int (Int32.ofNat (o + i))), .val (.ref d), .val (.int (Int32.ofNat (q + i))), .val (.int (Int32.ofNat len)), .val (.int (Int32.ofNat i)), z] [.int (Int32.ofNat (o + i)), .ref b])) := cl.trans (by
        refine XS.iload Xl.here hexec rfl (hb hbytes d3) rfl ?_
        refine XS.iload Xl.here hexec rfl (hb hbytes d5) rfl ?_
        refine XS.icmpNo Xl.here hexec rfl (hb hbytes d7) rfl (ii_ge_f (lt32 (by omega) (by omega))) ?_
        refine XS.aloadN Xl.here hexec rfl (hb hbytes d10) rfl rfl ?_
        refine XS.iloadN Xl.here hexec rfl (hb hbytes d11) rfl ?_
        exact Steps.refl _)
      have c4 : Steps p.tables e below (s₁.setTop (entryFrame m #[.ref b, .int (Int32.ofNat o), .ref d, .int (Int32.ofNat q), .int (Int32.ofNat len)] 7)) (Tl.setTop (mkF m 13 #[.val (.ref b), .val (.int (Int32.ofNat (o + i))), .val (.ref d), .val (.int (Int32.ofNat (q + i))), .val (.int (Int32.ofNat len)), .val (.int (Int32.ofNat i)), z] [.int (cv A (o + i))])) := c3.trans (by
        refine Xl.aget hexec hAl rfl (hA.get (i := o + i) (by omega)) rfl rfl (hb hbytes d12) ?_
        exact Steps.refl _)
      have c5 : Steps p.tables e below (s₁.setTop (entryFrame m #[.ref b, .int (Int32.ofNat o), .ref d, .int (Int32.ofNat q), .int (Int32.ofNat len)] 7)) (Tl.setTop (mkF m 15 #[.val (.ref b), .val (.int (Int32.ofNat (o + i))), .val (.ref d), .val (.int (Int32.ofNat (q + i))), .val (.int (Int32.ofNat len)), .val (.int (Int32.ofNat i)), .val (.int (cv A (o + i)))] [])) := c4.trans (by
        refine XS.istoreS Xl.here hexec rfl (hb hbytes d13) rfl rfl hz ?_
        exact Steps.refl _)
      have c6 : Steps p.tables e below (s₁.setTop (entryFrame m #[.ref b, .int (Int32.ofNat o), .ref d, .int (Int32.ofNat q), .int (Int32.ofNat len)] 7)) (Tl.setTop (mkF m 31 #[.val (.ref b), .val (.int (Int32.ofNat (o + i))), .val (.ref d), .val (.int (Int32.ofNat (q + i))), .val (.int (Int32.ofNat len)), .val (.int (Int32.ofNat i)), .val (.int (cv A (o + i)))] [.int (lo8 (cv A (o + i))), .int (Int32.ofNat (q + i)), .ref d])) := c5.trans (by
        refine XS.iload Xl.here hexec rfl (hb hbytes d15) rfl ?_
        refine sipushV Xl.here hexec rfl 255 (hb hbytes d17) (by decide) ?_
        refine XS.icmpYes Xl.here hexec rfl (pc0 := 20) rfl (hb hbytes d20) rfl (ii_le_t (hp i (by omega))) (by decide) rfl ?_
        refine XS.aloadN Xl.here hexec rfl (hb hbytes d26) rfl rfl ?_
        refine XS.iloadN Xl.here hexec rfl (hb hbytes d27) rfl ?_
        refine XS.iload Xl.here hexec rfl (hb hbytes d28) rfl ?_
        refine i2b Xl.here hexec rfl (hb hbytes d30) rfl ?_
        exact Steps.refl _)
      obtain ⟨T7, X7, p7, st7⟩ := Xl.aput hexec hBk rfl hlt rfl (fits_lo8 (cv A (o + i))) (g := (mkF m 31 #[.val (.ref b), .val (.int (Int32.ofNat (o + i))), .val (.ref d), .val (.int (Int32.ofNat (q + i))), .val (.int (Int32.ofNat len)), .val (.int (Int32.ofNat i)), .val (.int (cv A (o + i)))] [.int (lo8 (cv A (o + i))), .int (Int32.ofNat (q + i)), .ref d])) rfl (rest := []) rfl (hb hbytes d31)
      have c8 : Steps p.tables e below (s₁.setTop (entryFrame m #[.ref b, .int (Int32.ofNat o), .ref d, .int (Int32.ofNat q), .int (Int32.ofNat len)] 7)) (T7.setTop (mkF m 32 #[.val (.ref b), .val (.int (Int32.ofNat (o + i))), .val (.ref d), .val (.int (Int32.ofNat (q + i))), .val (.int (Int32.ofNat len)), .val (.int (Int32.ofNat i)), .val (.int (cv A (o + i)))] [])) := c6.trans (st7 _ (Steps.refl _))
      have c9 : Steps p.tables e below (s₁.setTop (entryFrame m #[.ref b, .int (Int32.ofNat o), .ref d, .int (Int32.ofNat q), .int (Int32.ofNat len)] 7)) (T7.setTop (mkF m 3 #[.val (.ref b), .val (.int (Int32.ofNat (o + i) + 1)), .val (.ref d), .val (.int (Int32.ofNat (q + i) + 1)), .val (.int (Int32.ofNat len)), .val (.int (Int32.ofNat i + 1)), .val (.int (cv A (o + i)))] [])) := c8.trans (by
        refine iincV X7.here hexec rfl 1 (hb hbytes d32) (by decide) rfl rfl ?_
        refine iincV X7.here hexec rfl 1 (hb hbytes d35) (by decide) rfl rfl ?_
        refine iincV X7.here hexec rfl 1 (hb hbytes d38) (by decide) rfl rfl ?_
        refine XS.goto X7.here hexec rfl (pc0 := 41) rfl (hb hbytes d41) (by decide) rfl ?_
        exact Steps.refl _)
      have c10 : Steps p.tables e below (s₁.setTop (entryFrame m #[.ref b, .int (Int32.ofNat o), .ref d, .int (Int32.ofNat q), .int (Int32.ofNat len)] 7)) (T7.setTop (mkF m 3 #[.val (.ref b), .val (.int (Int32.ofNat (o + (i + 1)))), .val (.ref d), .val (.int (Int32.ofNat (q + (i + 1)))), .val (.int (Int32.ofNat len)), .val (.int (Int32.ofNat (i + 1))), .val (.int (cv A (o + i)))] [])) := by
        have := c9
        rw [succ32, succ32, succ32] at this
        exact this
      exact ih (i + 1) (by omega) _ (Or.inr ⟨_, rfl, rfl⟩) T7 _ (by rw [copyLocs_step, ← List.append_assoc]; exact X7) (pl.trans p7) (fl.step (by omega) hlt (by simp)) c10
  obtain ⟨T9, B9, z9, X9, p9, f9, g9⟩ := loop len 0 (by omega) .unset (Or.inl rfl) s₁ B (by simpa [copyLocs] using X0) ⟨hB0.1, fun _ _ => rfl, rfl⟩ (Laid.zero _ _ _) c2
  have c11 : Steps p.tables e below (s₁.setTop (entryFrame m #[.ref b, .int (Int32.ofNat o), .ref d, .int (Int32.ofNat q), .int (Int32.ofNat len)] 7)) (T9.setTop (mkF m 46 #[.val (.ref b), .val (.int (Int32.ofNat (o + len))), .val (.ref d), .val (.int (Int32.ofNat (q + len))), .val (.int (Int32.ofNat len)), .val (.int (Int32.ofNat len)), z9] [.int (Int32.ofNat len)])) := g9.trans (by
    refine XS.iload X9.here hexec rfl (hb hbytes d3) rfl ?_
    refine XS.iload X9.here hexec rfl (hb hbytes d5) rfl ?_
    refine XS.icmpYes X9.here hexec rfl (pc0 := 7) rfl (hb hbytes d7) rfl (ii_ge_t (nlt32 (by omega) (Nat.le_refl _))) (by decide) rfl ?_
    refine XS.iload X9.here hexec rfl (hb hbytes d44) rfl ?_
    exact Steps.refl _)
  exact ⟨T9, some (.int (Int32.ofNat len)), _, _, _, X9, by simp, rfl, rfl, (fun h => by cases h), ⟨rfl, B9, p9.from hh0, f9⟩, fun fs hl => c11.trans (X9.ireturnOut hexec hret rfl (Or.inl rfl) (hb hbytes d46) hl)⟩
end Cmp5
namespace Cmp3
def yN : MethodName := ⟨"java/lang/StringUTF16", "compress", "([CII)[B"⟩
abbrev yB : ByteArray := jdk_52_method_16_code
theorem d0 : decode yB 0 = .ok (.iload_n 2, 1) := by decide +kernel
theorem d1 : decode yB 1 = .ok (.newarray .byte, 2) := by decide +kernel
theorem d3 : decode yB 3 = .ok (.astore_n 3, 1) := by decide +kernel
theorem d4 : decode yB 4 = .ok (.aload_n 0, 1) := by decide +kernel
theorem d5 : decode yB 5 = .ok (.iload_n 1, 1) := by decide +kernel
theorem d6 : decode yB 6 = .ok (.aload_n 3, 1) := by decide +kernel
theorem d7 : decode yB 7 = .ok (.iconst 0, 1) := by decide +kernel
theorem d8 : decode yB 8 = .ok (.iload_n 2, 1) := by decide +kernel
theorem d9 : decode yB 9 = .ok (.invokestatic 115, 3) := by decide +kernel
theorem d12 : decode yB 12 = .ok (.istore 4, 2) := by decide +kernel
theorem d14 : decode yB 14 = .ok (.iload 4, 2) := by decide +kernel
theorem d16 : decode yB 16 = .ok (.iload_n 2, 1) := by decide +kernel
theorem d17 : decode yB 17 = .ok (.if_icmp (.eq) 40, 3) := by decide +kernel
theorem d57 : decode yB 57 = .ok (.aload_n 3, 1) := by decide +kernel
theorem d58 : decode yB 58 = .ok (.areturn, 1) := by decide +kernel
def site : List Cond := [.arrayClass .byte, Cmp5.tab] ++ staticW U16 115 Cmp5.yN
def tab : Cond := tabOf yN yB 6 (some (.array .byte)) site
def P (b : Addr) (A : Cell) (o len : Nat) (args : Array Value) (s : State) : Prop := args = #[.ref b, .int (Int32.ofNat o), .int (Int32.ofNat len)] ∧ Ch b A s ∧ o + len ≤ A.slots.size ∧ len ≤ 536870912 ∧ ∀ i, i < len → ¬ 255 < cv A (o + i)
def E (b : Addr) (A : Cell) (o len : Nat) (r : Option Value) (s u : State) : Prop := NewArr .byte "[B" len (fun j => .int (lo8 (cv A (o + j)))) r s u ∧ u.heap.size = s.heap.size + 1
/-- no char of the range above 255: a new byte[] of their low bytes -/
theorem law (l : Launch) (b : Addr) (A : Cell) (o len : Nat) : Law l yN 3 3 1 18 yB 6 (some (.array .byte)) site (P b A o len) (E b A o len) [] 1 len := by
  refine Law.of_walk (plainFor_of_name (by decide +kernel)) (by decide +kernel) (by decide +kernel) (by decide) (fun _ _ h => by rw [h.1]; rfl) (fun _ U U' hal hh h => ⟨h.1, h.2.1.mv hal hh, h.2.2⟩) (fun r U U' V V' h1 hal h2 h => ⟨NewArr.mv r U U' V V' h1 hal h2 h.1, by rw [h1, h2]; exact h.2⟩) ?_
  intro p e s m args below meth c s₁ X0 hexec hbytes hml hret hlk hnm hown hh0 W hP
  obtain ⟨rfl, hA, l1, l2, hp⟩ := hP
  have a31 := hA.1.2.2.2
  have c1 : Steps p.tables e below (s₁.setTop (entryFrame m #[.ref b, .int (Int32.ofNat o), .int (Int32.ofNat len)] 6)) (s₁.setTop (mkF m 0 #[.val (.ref b), .val (.int (Int32.ofNat o)), .val (.int (Int32.ofNat len)), .unset, .unset, .unset] [])) := entry rfl
  have c2 : Steps p.tables e below (s₁.setTop (entryFrame m #[.ref b, .int (Int32.ofNat o), .int (Int32.ofNat len)] 6)) (s₁.setTop (mkF m 1 #[.val (.ref b), .val (.int (Int32.ofNat o)), .val (.int (Int32.ofNat len)), .unset, .unset, .unset] [.int (Int32.ofNat len)])) := c1.trans (by
    refine XS.iloadN X0.here hexec rfl (hb hbytes d0) rfl ?_
    exact Steps.refl _)
  obtain ⟨T3, B3, X3, ba3, bs3, bv3, bh3, bf3, st3⟩ := X0.anew hexec (atype := .byte) (wk W (.arrayClass .byte)) rfl (by show len * 1 ≤ _; omega) (by omega) (g := (mkF m 1 #[.val (.ref b), .val (.int (Int32.ofNat o)), .val (.int (Int32.ofNat len)), .unset, .unset, .unset] [.int (Int32.ofNat len)])) rfl (hb hbytes d1) (rest := []) rfl (Nat.le_refl _) (by show 0 + len ≤ len; omega)
  rw [hh0] at ba3 st3
  have kp3 : XT.Kept s T3 := (XT.Kept.of_eq hh0).push bh3
  have hA3 := hA.keep X3.warmed.alike (kp3 _ _ hA.1.1)
  have hne : b ≠ s.heap.size := hA.1.ne
  have c4 : Steps p.tables e below (s₁.setTop (entryFrame m #[.ref b, .int (Int32.ofNat o), .int (Int32.ofNat len)] 6)) (T3.setTop (mkF m 3 #[.val (.ref b), .val (.int (Int32.ofNat o)), .val (.int (Int32.ofNat len)), .unset, .unset, .unset] [.ref s.heap.size])) := c2.trans (st3 _ (Steps.refl _))
  have c5 : Steps p.tables e below (s₁.setTop (entryFrame m #[.ref b, .int (Int32.ofNat o), .int (Int32.ofNat len)] 6)) (T3.setTop (mkF m 9 #[.val (.ref b), .val (.int (Int32.ofNat o)), .val (.int (Int32.ofNat len)), .val (.ref s.heap.size), .unset, .unset] [.int (Int32.ofNat len), .int 0, .ref s.heap.size, .int (Int32.ofNat o), .ref b])) := c4.trans (by
    refine XS.astoreN X3.here hexec rfl (hb hbytes d3) rfl rfl rfl ?_
    refine XS.aloadN X3.here hexec rfl (hb hbytes d4) rfl rfl ?_
    refine XS.iloadN X3.here hexec rfl (hb hbytes d5) rfl ?_
    refine XS.aloadN X3.here hexec rfl (hb hbytes d6) rfl rfl ?_
    refine iconstV X3.here hexec rfl 0 (hb hbytes d7) (by decide) ?_
    refine XS.iloadN X3.here hexec rfl (hb hbytes d8) rfl ?_
    exact Steps.refl _)
  obtain ⟨v6, T6, X6, E6, g6⟩ := X3.callS hexec (Cmp5.law l b A s.heap.size B3 o 0 len) hown (wks W (staticW U16 115 Cmp5.yN)) (wk W Cmp5.tab) (W := 0) (Nat.le_of_ble_eq_true rfl) (Nat.le_of_ble_eq_true rfl) (Nat.le_refl _) (by show 0 + len + 0 ≤ len; omega) (g := (mkF m 9 #[.val (.ref b), .val (.int (Int32.ofNat o)), .val (.int (Int32.ofNat len)), .val (.ref s.heap.size), .unset, .unset] [.int (Int32.ofNat len), .int (Int32.ofNat 0), .ref s.heap.size, .int (Int32.ofNat o), .ref b])) rfl (by rw [hml]; rfl) c5 (argsL := [.ref b, .int (Int32.ofNat o), .ref s.heap.size, .int (Int32.ofNat 0), .int (Int32.ofNat len)]) (rest := []) rfl rfl (by show 2 * 0 + 0 ≤ _; decide) (hb hbytes d9) (⟨rfl, hA3, ba3, hne, l1, by rw [bs3]; simp, hp⟩)
  obtain ⟨rfl, B6, p6, f6⟩ := E6
  have c7 : Steps p.tables e below (s₁.setTop (entryFrame m #[.ref b, .int (Int32.ofNat o), .int (Int32.ofNat len)] 6)) (T6.setTop (mkF m 12 #[.val (.ref b), .val (.int (Int32.ofNat o)), .val (.int (Int32.ofNat len)), .val (.ref s.heap.size), .unset, .unset] [.int (Int32.ofNat len)])) := g6
  have c8 : Steps p.tables e below (s₁.setTop (entryFrame m #[.ref b, .int (Int32.ofNat o), .int (Int32.ofNat len)] 6)) (T6.setTop (mkF m 58 #[.val (.ref b), .val (.int (Int32.ofNat o)), .val (.int (Int32.ofNat len)), .val (.ref s.heap.size), .val (.int (Int32.ofNat len)), .unset] [.ref s.heap.size])) := c7.trans (by
    refine XS.istore X6.here hexec rfl (hb hbytes d12) rfl rfl ?_
    refine XS.iload X6.here hexec rfl (hb hbytes d14) rfl ?_
    refine XS.iloadN X6.here hexec rfl (hb hbytes d16) rfl ?_
    refine XS.icmpYes X6.here hexec rfl (pc0 := 17) rfl (hb hbytes d17) rfl (ii_eq_t rfl) (by decide) rfl ?_
    refine XS.aloadN X6.here hexec rfl (hb hbytes d57) rfl rfl ?_
    exact Steps.refl _)
  have X8 := X6.wide (L' := []) (cells' := 1) (slots' := len) (fun x hx hlt => by
    simp only [List.nil_append, copyLocs, List.mem_map, List.mem_range] at hx
    obtain ⟨i, -, rfl⟩ := hx
    exact absurd hlt (Nat.lt_irrefl _)) (Nat.le_refl _) (by omega)
  exact ⟨T6, some (.ref s.heap.size), _, _, _, X8, rfl, rfl, rfl, (fun h => by cases h), ⟨⟨rfl, B6, ba3.like (X3.warmed.alike.symm.trans X6.warmed.alike) p6.1 f6.1 f6.2.1 f6.2.2.1, f6.2.1.trans bv3, by rw [X6.warmed.alike.findClass, f6.1]; exact bf3, by rw [f6.2.2.1, bs3]; simp, fun j hj => by rw [f6.2.2.2 j, if_pos (by omega)]; rfl, kp3.put p6 (Nat.le_refl _)⟩, by rw [p6.2.2, bh3, hh0]; simp⟩, fun fs hl => c8.trans (X8.areturnOut hexec rfl hret rfl (hb hbytes d58) hl)⟩
end Cmp3
namespace CodL
def yN : MethodName := ⟨"java/lang/StringUTF16", "coderFromArrayLen", "([BI)B"⟩
abbrev yB : ByteArray := jdk_52_method_15_code
theorem d0 : decode yB 0 = .ok (.iload_n 1, 1) := by decide +kernel
theorem d1 : decode yB 1 = .ok (.aload_n 0, 1) := by decide +kernel
theorem d2 : decode yB 2 = .ok (.arraylength, 1) := by decide +kernel
theorem d3 : decode yB 3 = .ok (.isub, 1) := by decide +kernel
theorem d4 : decode yB 4 = .ok (.bipush 31, 2) := by decide +kernel
theorem d6 : decode yB 6 = .ok (.iushr, 1) := by decide +kernel
theorem d7 : decode yB 7 = .ok (.i2b, 1) := by decide +kernel
theorem d8 : decode yB 8 = .ok (.ireturn, 1) := by decide +kernel
def site : List Cond := []
def tab : Cond := tabOf yN yB 2 (some .byte) site
def P (d : Addr) (B : Cell) (args : Array Value) (s : State) : Prop := args = #[.ref d, .int (Int32.ofNat B.slots.size)] ∧ Arr .byte d B s
def E (r : Option Value) (s u : State) : Prop := XT.PureE (some (.int 0)) r s u
/-- an array as long as the number of chars: LATIN1 -/
theorem law (l : Launch) (d : Addr) (B : Cell) : Law l yN 2 2 0 0 yB 2 (some .byte) site (P d B) E [] 0 0 := by
  refine Law.of_walk (plainFor_of_name (by decide +kernel)) (by decide +kernel) (by decide +kernel) (by decide) (fun _ _ h => by rw [h.1]; rfl) (fun _ U U' hal hh h => ⟨h.1, h.2.mv hal hh⟩) (fun r U U' V V' h1 hal h2 h => XT.PureE.mv r U U' V V' h1 hal h2 h) ?_
  intro p e s m args below meth c s₁ X0 hexec hbytes hml hret hlk hnm hown hh0 W hP
  obtain ⟨rfl, hB⟩ := hP
  have hB0 := hB.mv X0.warmed.alike hh0
  have c1 : Steps p.tables e below (s₁.setTop (entryFrame m #[.ref d, .int (Int32.ofNat B.slots.size)] 2)) (s₁.setTop (mkF m 0 #[.val (.ref d), .val (.int (Int32.ofNat B.slots.size))] [])) := entry rfl
  have c2 : Steps p.tables e below (s₁.setTop (entryFrame m #[.ref d, .int (Int32.ofNat B.slots.size)] 2)) (s₁.setTop (mkF m 2 #[.val (.ref d), .val (.int (Int32.ofNat B.slots.size))] [.ref d, .int (Int32.ofNat B.slots.size)])) := c1.trans (by
    refine XS.iloadN X0.here hexec rfl (hb hbytes d0) rfl ?_
    refine XS.aloadN X0.here hexec rfl (hb hbytes d1) rfl rfl ?_
    exact Steps.refl _)
  have c3 : Steps p.tables e below (s₁.setTop (entryFrame m #[.ref d, .int (Int32.ofNat B.slots.size)] 2)) (s₁.setTop (mkF m 8 #[.val (.ref d), .val (.int (Int32.ofNat B.slots.size))] [.int (lo8 (ushr (Int32.ofNat B.slots.size - Int32.ofNat B.slots.size) 31))])) := c2.trans (by
    refine X0.alen hexec hB0 rfl rfl (hb hbytes d2) ?_
    refine XS.isub X0.here hexec rfl (hb hbytes d3) rfl ?_
    refine bipushV X0.here hexec rfl 31 (hb hbytes d4) (by decide) ?_
    refine iushr X0.here hexec rfl (hb hbytes d6) rfl ?_
    refine i2b X0.here hexec rfl (hb hbytes d7) rfl ?_
    exact Steps.refl _)
  have e0 : lo8 (ushr (Int32.ofNat B.slots.size - Int32.ofNat B.slots.size) 31) = 0 := by rw [Int32.sub_self]; decide
  rw [e0] at c3
  exact ⟨s₁, some (.int 0), _, _, _, X0, rfl, rfl, rfl, (fun h => by cases h), ⟨rfl, hh0⟩, fun fs hl => c3.trans (X0.ireturnOut hexec hret rfl (Or.inr (Or.inr (Or.inl rfl))) (hb hbytes d8) hl)⟩
end CodL
/-- the String at a is Latin-1 over a new byte[] (the heap's one new cell): the low bytes of the len chars of A from o on; every cell but a is kept -/
def Got (a : Addr) (D : Cell) (fV fC : Field) (A : Cell) (o len : Nat) (r : Option Value) (s u : State) : Prop := r = none ∧ ∃ D' V : Cell, Blank "java/lang/String" a D' u ∧ Same D D' [fV.slot, fC.slot] ∧ D'.slots[fV.slot]? = some (.ref s.heap.size) ∧ D'.slots[fC.slot]? = some (.int 0) ∧ Arr .byte s.heap.size V u ∧ V.vm = .none ∧ u.vm.findClass "[B" = some V.cls ∧ V.slots.size = len ∧ (∀ j, j < len → V.slots[j]? = some (.int (lo8 (cv A (o + j))))) ∧ (∀ (y : Addr) (c : Cell), y ≠ a → s.heap[y]? = some c → u.heap[y]? = some c) ∧ u.heap.size = s.heap.size + 1
theorem Got.mv {a : Addr} {D A : Cell} {fV fC : Field} {o len : Nat} : ∀ r (U U' V V' : State), U'.heap = U.heap → V.vm.Alike V'.vm → V'.heap = V.heap → Got a D fV fC A o len r U V → Got a D fV fC A o len r U' V' :=
  fun r U U' V V' h1 hal h2 ⟨e0, D', X, a1, a2, a3, a4, a5, a6, a7, a8, a9, a10, a11⟩ => ⟨e0, D', X, a1.mv hal h2, a2, by rw [h1]; exact a3, a4, by rw [h1]; exact a5.mv hal h2, a6, by rw [hal.findClass]; exact a7, a8, a9, by rw [h1, h2]; exact a10, by rw [h1, h2]; exact a11⟩
namespace New4
def yN : MethodName := ⟨"java/lang/String", "<init>", "([CIILjava/lang/Void;)V"⟩
abbrev yB : ByteArray := jdk_42_method_149_code
theorem d0 : decode yB 0 = .ok (.aload_n 0, 1) := by decide +kernel
theorem d1 : decode yB 1 = .ok (.invokespecial 1, 3) := by decide +kernel
theorem d4 : decode yB 4 = .ok (.iload_n 3, 1) := by decide +kernel
theorem d5 : decode yB 5 = .ok (.ifCond (.ne) 22, 3) := by decide +kernel
theorem d27 : decode yB 27 = .ok (.getstatic 38, 3) := by decide +kernel
theorem d30 : decode yB 30 = .ok (.ifCond (.eq) 28, 3) := by decide +kernel
theorem d33 : decode yB 33 = .ok (.aload_n 1, 1) := by decide +kernel
theorem d34 : decode yB 34 = .ok (.iload_n 2, 1) := by decide +kernel
theorem d35 : decode yB 35 = .ok (.iload_n 3, 1) := by decide +kernel
theorem d36 : decode yB 36 = .ok (.invokestatic 177, 3) := by decide +kernel
theorem d39 : decode yB 39 = .ok (.astore 5, 2) := by decide +kernel
theorem d41 : decode yB 41 = .ok (.aload_n 0, 1) := by decide +kernel
theorem d42 : decode yB 42 = .ok (.aload 5, 2) := by decide +kernel
theorem d44 : decode yB 44 = .ok (.iload_n 3, 1) := by decide +kernel
theorem d45 : decode yB 45 = .ok (.invokestatic 47, 3) := by decide +kernel
theorem d48 : decode yB 48 = .ok (.putfield 15, 3) := by decide +kernel
theorem d51 : decode yB 51 = .ok (.aload_n 0, 1) := by decide +kernel
theorem d52 : decode yB 52 = .ok (.aload 5, 2) := by decide +kernel
theorem d54 : decode yB 54 = .ok (.putfield 9, 3) := by decide +kernel
theorem d57 : decode yB 57 = .ok (.return_, 1) := by decide +kernel
def site : List Cond := [.fieldLink "java/lang/String" 38 "java/lang/String" "COMPACT_STRINGS" "Z", Cmp3.tab, CodL.tab, .laysFinal "java/lang/String" "java/lang/String" "value" "[B", .fieldLink "java/lang/String" 9 "java/lang/String" "value" "[B", .laysFinal "java/lang/String" "java/lang/String" "coder" "B", .fieldLink "java/lang/String" 15 "java/lang/String" "coder" "B"] ++ objW "java/lang/String" 1 ++ staticW "java/lang/String" 177 Cmp3.yN ++ staticW "java/lang/String" 47 CodL.yN
def tab : Cond := tabOf yN yB 6 none site
def P (a : Addr) (D : Cell) (fV fC : Field) (b : Addr) (A : Cell) (z : Int32) (o len : Nat) (args : Array Value) (s : State) : Prop := args = #[.ref a, .ref b, .int (Int32.ofNat o), .int (Int32.ofNat len), .null] ∧ Blank "java/lang/String" a D s ∧ Found "java/lang/String" "value" "[B" fV s ∧ Found "java/lang/String" "coder" "B" fC s ∧ Ch b A s ∧ StaticIs s "java/lang/String" "COMPACT_STRINGS" "Z" (.int z) ∧ ¬ z = 0 ∧ 0 < len ∧ o + len ≤ A.slots.size ∧ len ≤ 536870912 ∧ ∀ i, i < len → ¬ 255 < cv A (o + i)
def E (a : Addr) (D : Cell) (fV fC : Field) (A : Cell) (o len : Nat) (r : Option Value) (s u : State) : Prop := Got a D fV fC A o len r s u
/-- len > 0, no char of the range above 255: a Latin-1 String of their low bytes -/
theorem law (l : Launch) (a : Addr) (D : Cell) (fV fC : Field) (b : Addr) (A : Cell) (z : Int32) (o len : Nat) : Law l yN 5 4 2 35 yB 6 none site (P a D fV fC b A z o len) (E a D fV fC A o len) [⟨a, fC.slot⟩, ⟨a, fV.slot⟩] 1 len := by
  refine Law.of_walk (plainFor_of_name (by decide +kernel)) (by decide +kernel) (by decide +kernel) (by decide) (fun _ _ h => by rw [h.1]; rfl) (fun _ U U' hal hh h => ⟨h.1, h.2.1.mv hal hh, h.2.2.1.al hal, h.2.2.2.1.al hal, h.2.2.2.2.1.mv hal hh, h.2.2.2.2.2.1.there hal hh, h.2.2.2.2.2.2⟩) (fun r U U' V V' h1 hal h2 h => Got.mv r U U' V V' h1 hal h2 h) ?_
  intro p e s m args below meth c s₁ X0 hexec hbytes hml hret hlk hnm hown hh0 W hP
  obtain ⟨rfl, hB, f1, f2, hA, s1, hz, l0, l1, l2, hp⟩ := hP
  have a31 := hA.1.2.2.2
  have c1 : Steps p.tables e below (s₁.setTop (entryFrame m #[.ref a, .ref b, .int (Int32.ofNat o), .int (Int32.ofNat len), .null] 6)) (s₁.setTop (mkF m 0 #[.val (.ref a), .val (.ref b), .val (.int (Int32.ofNat o)), .val (.int (Int32.ofNat len)), .val .null, .unset] [])) := entry rfl
  have c2 : Steps p.tables e below (s₁.setTop (entryFrame m #[.ref a, .ref b, .int (Int32.ofNat o), .int (Int32.ofNat len), .null] 6)) (s₁.setTop (mkF m 1 #[.val (.ref a), .val (.ref b), .val (.int (Int32.ofNat o)), .val (.int (Int32.ofNat len)), .val .null, .unset] [.ref a])) := c1.trans (by
    refine XS.aloadN X0.here hexec rfl (hb hbytes d0) rfl rfl ?_
    exact Steps.refl _)
  obtain ⟨T3, X3, q3, st3⟩ := X0.oinit hexec hown (wks W (objW "java/lang/String" 1)) (g := (mkF m 1 #[.val (.ref a), .val (.ref b), .val (.int (Int32.ofNat o)), .val (.int (Int32.ofNat len)), .val .null, .unset] [.ref a])) rfl (by rw [hml]; rfl) (rest := []) rfl (hb hbytes d1) (W := 0) (by show 2 * 0 + 0 ≤ _; decide) (Nat.le_of_ble_eq_true rfl) (Nat.le_of_ble_eq_true rfl)
  have hh3 := q3.trans hh0
  have c4 : Steps p.tables e below (s₁.setTop (entryFrame m #[.ref a, .ref b, .int (Int32.ofNat o), .int (Int32.ofNat len), .null] 6)) (T3.setTop (mkF m 27 #[.val (.ref a), .val (.ref b), .val (.int (Int32.ofNat o)), .val (.int (Int32.ofNat len)), .val .null, .unset] [])) := (c2.trans (st3 _ (Steps.refl _))).trans (by
    refine XS.iloadN X3.here hexec rfl (hb hbytes d4) rfl ?_
    refine XS.ifYes X3.here hexec rfl (pc0 := 5) rfl (hb hbytes d5) rfl (i0_ne_t (nz32 (by omega) l0)) (by decide) rfl ?_
    exact Steps.refl _)
  obtain ⟨T5, X5, q5, st5⟩ := X3.sget hexec hown (wk W (.fieldLink "java/lang/String" 38 "java/lang/String" "COMPACT_STRINGS" "Z")) s1 (fun _ _ h => by rw [hh3]; exact h) (g := (mkF m 27 #[.val (.ref a), .val (.ref b), .val (.int (Int32.ofNat o)), .val (.int (Int32.ofNat len)), .val .null, .unset] [])) rfl (hb hbytes d27)
  have hh5 := q5.trans hh3
  have c6 : Steps p.tables e below (s₁.setTop (entryFrame m #[.ref a, .ref b, .int (Int32.ofNat o), .int (Int32.ofNat len), .null] 6)) (T5.setTop (mkF m 30 #[.val (.ref a), .val (.ref b), .val (.int (Int32.ofNat o)), .val (.int (Int32.ofNat len)), .val .null, .unset] [.int z])) := c4.trans (st5 _ (Steps.refl _))
  have c7 : Steps p.tables e below (s₁.setTop (entryFrame m #[.ref a, .ref b, .int (Int32.ofNat o), .int (Int32.ofNat len), .null] 6)) (T5.setTop (mkF m 36 #[.val (.ref a), .val (.ref b), .val (.int (Int32.ofNat o)), .val (.int (Int32.ofNat len)), .val .null, .unset] [.int (Int32.ofNat len), .int (Int32.ofNat o), .ref b])) := c6.trans (by
    refine XS.ifNo X5.here hexec rfl (hb hbytes d30) rfl (i0_eq_f hz) ?_
    refine XS.aloadN X5.here hexec rfl (hb hbytes d33) rfl rfl ?_
    refine XS.iloadN X5.here hexec rfl (hb hbytes d34) rfl ?_
    refine XS.iloadN X5.here hexec rfl (hb hbytes d35) rfl ?_
    exact Steps.refl _)
  obtain ⟨v8, T8, X8, E8, g8⟩ := X5.callS hexec (Cmp3.law l b A o len) hown (wks W (staticW "java/lang/String" 177 Cmp3.yN)) (wk W Cmp3.tab) (W := 0) (Nat.le_of_ble_eq_true rfl) (Nat.le_of_ble_eq_true rfl) (Nat.le_refl _) (by show 0 + len ≤ len; omega) (g := (mkF m 36 #[.val (.ref a), .val (.ref b), .val (.int (Int32.ofNat o)), .val (.int (Int32.ofNat len)), .val .null, .unset] [.int (Int32.ofNat len), .int (Int32.ofNat o), .ref b])) rfl (by rw [hml]; rfl) c7 (argsL := [.ref b, .int (Int32.ofNat o), .int (Int32.ofNat len)]) (rest := []) rfl rfl (by show 2 * 0 + 0 ≤ _; decide) (hb hbytes d36) (⟨rfl, hA.mv X5.warmed.alike hh5, l1, l2, hp⟩)
  obtain ⟨e8, z8⟩ := E8
  obtain ⟨rfl, N, n1, n2, n3, n4, n5, n6⟩ := NewArr.mv _ T5 s _ _ hh5.symm (Vm.Alike.refl _) rfl e8
  rw [hh5] at z8
  have hB1 := hB.keep X8.warmed.alike (n6 _ _ hB.1)
  have hne : s.heap.size ≠ a := (Nat.ne_of_lt (Array.getElem?_eq_some_iff.mp hB.1).1).symm
  have c9 : Steps p.tables e below (s₁.setTop (entryFrame m #[.ref a, .ref b, .int (Int32.ofNat o), .int (Int32.ofNat len), .null] 6)) (T8.setTop (mkF m 39 #[.val (.ref a), .val (.ref b), .val (.int (Int32.ofNat o)), .val (.int (Int32.ofNat len)), .val .null, .unset] [.ref s.heap.size])) := g8
  have c10 : Steps p.tables e below (s₁.setTop (entryFrame m #[.ref a, .ref b, .int (Int32.ofNat o), .int (Int32.ofNat len), .null] 6)) (T8.setTop (mkF m 45 #[.val (.ref a), .val (.ref b), .val (.int (Int32.ofNat o)), .val (.int (Int32.ofNat len)), .val .null, .val (.ref s.heap.size)] [.int (Int32.ofNat N.slots.size), .ref s.heap.size, .ref a])) := by
    have hc : Steps p.tables e below (s₁.setTop (entryFrame m #[.ref a, .ref b, .int (Int32.ofNat o), .int (Int32.ofNat len), .null] 6)) (T8.setTop (mkF m 45 #[.val (.ref a), .val (.ref b), .val (.int (Int32.ofNat o)), .val (.int (Int32.ofNat len)), .val .null, .val (.ref s.heap.size)] [.int (Int32.ofNat len), .ref s.heap.size, .ref a])) := c9.trans (by
      refine XS.astore X8.here hexec rfl (hb hbytes d39) rfl rfl rfl ?_
      refine XS.aloadN X8.here hexec rfl (hb hbytes d41) rfl rfl ?_
      refine XS.aload X8.here hexec rfl (hb hbytes d42) rfl rfl ?_
      refine XS.iloadN X8.here hexec rfl (hb hbytes d44) rfl ?_
      exact Steps.refl _)
    rw [n4]; exact hc
  obtain ⟨v11, T11, X11, E11, g11⟩ := X8.callS hexec (CodL.law l s.heap.size N) hown (wks W (staticW "java/lang/String" 47 CodL.yN)) (wk W CodL.tab) (W := 1) (Nat.le_of_ble_eq_true rfl) (Nat.le_of_ble_eq_true rfl) (Nat.le_refl _) (by show 0 + len + 0 ≤ len; omega) (g := (mkF m 45 #[.val (.ref a), .val (.ref b), .val (.int (Int32.ofNat o)), .val (.int (Int32.ofNat len)), .val .null, .val (.ref s.heap.size)] [.int (Int32.ofNat N.slots.size), .ref s.heap.size, .ref a])) rfl (by rw [hml]; rfl) c10 (argsL := [.ref s.heap.size, .int (Int32.ofNat N.slots.size)]) (rest := [.ref a]) rfl rfl (by show 2 * 0 + (1 + 0) ≤ _; decide) (hb hbytes d45) (⟨rfl, n1⟩)
  obtain ⟨rfl, q11⟩ := E11
  have hB11 := hB1.mv (X8.warmed.alike.symm.trans X11.warmed.alike) q11
  have c12 : Steps p.tables e below (s₁.setTop (entryFrame m #[.ref a, .ref b, .int (Int32.ofNat o), .int (Int32.ofNat len), .null] 6)) (T11.setTop (mkF m 48 #[.val (.ref a), .val (.ref b), .val (.int (Int32.ofNat o)), .val (.int (Int32.ofNat len)), .val .null, .val (.ref s.heap.size)] [.int 0, .ref a])) := g11
  obtain ⟨T13, X13, p13, bl13, sl13, st13⟩ := X11.finit hexec hown (wk W (.fieldLink "java/lang/String" 15 "java/lang/String" "coder" "B")) (Or.inr ⟨_, (wk W (.laysFinal "java/lang/String" "java/lang/String" "coder" "B"))⟩) (Or.inl ⟨rfl, hnm⟩) f2 (Or.inl rfl) hB11 (t := .byte) (by decide +kernel) rfl (g := (mkF m 48 #[.val (.ref a), .val (.ref b), .val (.int (Int32.ofNat o)), .val (.int (Int32.ofNat len)), .val .null, .val (.ref s.heap.size)] [.int 0, .ref a])) rfl (rest := []) rfl (hb hbytes d48)
  have c14 : Steps p.tables e below (s₁.setTop (entryFrame m #[.ref a, .ref b, .int (Int32.ofNat o), .int (Int32.ofNat len), .null] 6)) (T13.setTop (mkF m 54 #[.val (.ref a), .val (.ref b), .val (.int (Int32.ofNat o)), .val (.int (Int32.ofNat len)), .val .null, .val (.ref s.heap.size)] [.ref s.heap.size, .ref a])) := (c12.trans (st13 _ (Steps.refl _))).trans (by
    refine XS.aloadN X13.here hexec rfl (hb hbytes d51) rfl rfl ?_
    refine XS.aload X13.here hexec rfl (hb hbytes d52) rfl rfl ?_
    exact Steps.refl _)
  obtain ⟨T15, X15, p15, bl15, sl15, st15⟩ := X13.finit hexec hown (wk W (.fieldLink "java/lang/String" 9 "java/lang/String" "value" "[B")) (Or.inr ⟨_, (wk W (.laysFinal "java/lang/String" "java/lang/String" "value" "[B"))⟩) (Or.inl ⟨rfl, hnm⟩) f1 (Or.inl rfl) bl13 (t := (.array .byte)) (by decide +kernel) rfl (g := (mkF m 54 #[.val (.ref a), .val (.ref b), .val (.int (Int32.ofNat o)), .val (.int (Int32.ofNat len)), .val .null, .val (.ref s.heap.size)] [.ref s.heap.size, .ref a])) rfl (rest := []) rfl (hb hbytes d54)
  have c16 : Steps p.tables e below (s₁.setTop (entryFrame m #[.ref a, .ref b, .int (Int32.ofNat o), .int (Int32.ofNat len), .null] 6)) (T15.setTop (mkF m 57 #[.val (.ref a), .val (.ref b), .val (.int (Int32.ofNat o)), .val (.int (Int32.ofNat len)), .val .null, .val (.ref s.heap.size)] [])) := c14.trans (st15 _ (Steps.refl _))
  have ap := apart (Or.inr ⟨_, (wk W (.laysFinal "java/lang/String" "java/lang/String" "value" "[B"))⟩) (Or.inr ⟨_, (wk W (.laysFinal "java/lang/String" "java/lang/String" "coder" "B"))⟩) f1 f2 (t₁ := .array .byte) (t₂ := .byte) (by decide +kernel) (by decide +kernel) (by decide)
  have al := X8.warmed.alike.symm.trans X15.warmed.alike
  have n7 : T11.heap[s.heap.size]? = some N := by rw [q11]; exact n1.1
  exact ⟨T15, none, _, _, _, X15, by simp, rfl, by omega, (fun _ => rfl), ⟨rfl, _, N, bl15, ((Same.refl D _).set _ (by simp)).set _ (by simp), sl15, (Cell.slots_setSlot_ne _ ap).trans sl13, n1.keep al (p15.other hne (p13.other hne n7)), n2, by rw [al.findClass]; exact n3, n4, n5, fun y c h1 h2 => p15.other h1 (p13.other h1 (by rw [q11]; exact n6 y c h2)), by rw [p15.2.2, p13.2.2, q11]; exact z8⟩, fun fs hl => c16.trans (X15.returnOut hexec hret (hb hbytes d57) hl)⟩
end New4
namespace New1
def yN : MethodName := ⟨"java/lang/String", "<init>", "([C)V"⟩
abbrev yB : ByteArray := jdk_42_method_3_code
theorem d0 : decode yB 0 = .ok (.aload_n 0, 1) := by decide +kernel
theorem d1 : decode yB 1 = .ok (.aload_n 1, 1) := by decide +kernel
theorem d2 : decode yB 2 = .ok (.iconst 0, 1) := by decide +kernel
theorem d3 : decode yB 3 = .ok (.aload_n 1, 1) := by decide +kernel
theorem d4 : decode yB 4 = .ok (.arraylength, 1) := by decide +kernel
theorem d5 : decode yB 5 = .ok (.aconst_null, 1) := by decide +kernel
theorem d6 : decode yB 6 = .ok (.invokespecial 27, 3) := by decide +kernel
theorem d9 : decode yB 9 = .ok (.return_, 1) := by decide +kernel
def site : List Cond := [New4.tab] ++ initW "java/lang/String" 27 New4.yN
def tab : Cond := tabOf yN yB 2 none site
def P (a : Addr) (D : Cell) (fV fC : Field) (b : Addr) (A : Cell) (z : Int32) (args : Array Value) (s : State) : Prop := args = #[.ref a, .ref b] ∧ Blank "java/lang/String" a D s ∧ Found "java/lang/String" "value" "[B" fV s ∧ Found "java/lang/String" "coder" "B" fC s ∧ Ch b A s ∧ StaticIs s "java/lang/String" "COMPACT_STRINGS" "Z" (.int z) ∧ ¬ z = 0 ∧ 0 < A.slots.size ∧ A.slots.size ≤ 536870912 ∧ ∀ i, i < A.slots.size → ¬ 255 < cv A i
def E (a : Addr) (D : Cell) (fV fC : Field) (A : Cell) (r : Option Value) (s u : State) : Prop := Got a D fV fC A 0 A.slots.size r s u
/-- new String(chars), not empty, no char above 255: a Latin-1 String of their low bytes -/
theorem law (l : Launch) (a : Addr) (D : Cell) (fV fC : Field) (b : Addr) (A : Cell) (z : Int32) : Law l yN 2 1 3 52 yB 2 none site (P a D fV fC b A z) (E a D fV fC A) [⟨a, fC.slot⟩, ⟨a, fV.slot⟩] 1 A.slots.size := by
  refine Law.of_walk (plainFor_of_name (by decide +kernel)) (by decide +kernel) (by decide +kernel) (by decide) (fun _ _ h => by rw [h.1]; rfl) (fun _ U U' hal hh h => ⟨h.1, h.2.1.mv hal hh, h.2.2.1.al hal, h.2.2.2.1.al hal, h.2.2.2.2.1.mv hal hh, h.2.2.2.2.2.1.there hal hh, h.2.2.2.2.2.2⟩) (fun r U U' V V' h1 hal h2 h => Got.mv r U U' V V' h1 hal h2 h) ?_
  intro p e s m args below meth c s₁ X0 hexec hbytes hml hret hlk hnm hown hh0 W hP
  obtain ⟨rfl, hB, f1, f2, hA, s1, hz, l0, l2, hp⟩ := hP
  have c1 : Steps p.tables e below (s₁.setTop (entryFrame m #[.ref a, .ref b] 2)) (s₁.setTop (mkF m 0 #[.val (.ref a), .val (.ref b)] [])) := entry rfl
  have c2 : Steps p.tables e below (s₁.setTop (entryFrame m #[.ref a, .ref b] 2)) (s₁.setTop (mkF m 6 #[.val (.ref a), .val (.ref b)] [.null, .int (Int32.ofNat A.slots.size), .int 0, .ref b, .ref a])) := c1.trans (by
    refine XS.aloadN X0.here hexec rfl (hb hbytes d0) rfl rfl ?_
    refine XS.aloadN X0.here hexec rfl (hb hbytes d1) rfl rfl ?_
    refine iconstV X0.here hexec rfl 0 (hb hbytes d2) (by decide) ?_
    refine XS.aloadN X0.here hexec rfl (hb hbytes d3) rfl rfl ?_
    refine X0.alen hexec (hA.1.mv X0.warmed.alike hh0) rfl rfl (hb hbytes d4) ?_
    refine XS.aconstNull X0.here hexec rfl (hb hbytes d5) ?_
    exact Steps.refl _)
  obtain ⟨v3, T3, X3, E3, g3⟩ := X0.callN hexec (New4.law l a D fV fC b A z 0 A.slots.size) rfl hown (wks W (initW "java/lang/String" 27 New4.yN)) (W New4.tab (by simp only [site, List.mem_cons, List.mem_append, true_or, or_true])) (W := 0) (Nat.le_of_ble_eq_true rfl) (Nat.le_of_ble_eq_true rfl) (Nat.le_refl _) (by show 0 + A.slots.size ≤ A.slots.size; omega) (g := (mkF m 6 #[.val (.ref a), .val (.ref b)] [.null, .int (Int32.ofNat A.slots.size), .int (Int32.ofNat 0), .ref b, .ref a])) rfl (by rw [hml]; rfl) c2 (argsL := [.ref b, .int (Int32.ofNat 0), .int (Int32.ofNat A.slots.size), .null]) (rest := []) rfl rfl (by show 2 * 0 + 0 ≤ _; decide) (hb hbytes d6) (⟨rfl, hB.mv X0.warmed.alike hh0, f1.al X0.warmed.alike, f2.al X0.warmed.alike, hA.mv X0.warmed.alike hh0, s1.there X0.warmed.alike hh0, hz, l0, by omega, l2, fun i hi => by rw [Nat.zero_add]; exact hp i hi⟩)
  have e0 := Got.mv _ s₁ s _ _ hh0.symm (Vm.Alike.refl _) rfl E3
  obtain rfl := e0.1
  have c4 : Steps p.tables e below (s₁.setTop (entryFrame m #[.ref a, .ref b] 2)) (T3.setTop (mkF m 9 #[.val (.ref a), .val (.ref b)] [])) := g3
  exact ⟨T3, none, _, _, _, X3, by simp, rfl, by omega, (fun _ => rfl), e0, fun fs hl => c4.trans (X3.returnOut hexec hret (hb hbytes d9) hl)⟩
theorem pays {l : Launch} {R : Room} {p : Program} {e : Env} {below : List Frame} {s : State} {sargs : Array Value} {len W : Nat} (a : Addr) (D : Cell) (fV fC : Field) (b : Addr) (A : Cell) (z : Int32) (htab : tab.before sargs s = true) (hfr : 4 ≤ R.frames) (hlo : W + 65 ≤ R.locals) :
    Back l R p e below s sargs yN len W (fun A₁ a₁ => A₁.cells + 1 ≤ R.cells ∧ A₁.slots + A.slots.size ≤ R.slots ∧ P a D fV fC b A z a₁ A₁.U) (fun A₁ _ v₁ B₁ => E a D fV fC A v₁ A₁.U B₁.U ∧ B₁.locs = A₁.locs ++ [⟨a, fC.slot⟩, ⟨a, fV.slot⟩] ∧ B₁.cells = A₁.cells + 1 ∧ B₁.slots = A₁.slots + A.slots.size) :=
  (law l a D fV fC b A z).pays htab hfr (by omega)
end New1
/-- the byte, read back as charAt reads it, is the char -/
theorem lo8_mask {x : Int32} (h0 : ¬ x < 0) (h1 : ¬ 255 < x) : lo8 x &&& 255 = x := by
  have t : ∀ k : Fin 256, lo8 (Int32.ofNat k.val) &&& 255 = Int32.ofNat k.val := by decide +kernel
  rw [Int32.lt_iff_toInt_lt] at h0 h1
  have e0 : (0 : Int32).toInt = 0 := rfl
  have e1 : (255 : Int32).toInt = 255 := rfl
  obtain ⟨k, hk⟩ : ∃ k : Nat, x.toInt = k := ⟨x.toInt.toNat, by omega⟩
  have hx : x = Int32.ofNat k := Int32.toInt_inj.mp (by rw [hk, Int32.toInt_ofNat_small (by omega)])
  rw [hx]
  exact t ⟨k, by omega⟩
end StrChars
namespace StrChars.Road
open Jvm Sem ClassFile Op Lib Jvm.Stand Jvm.Free Jvm.Free.XT
open Jvm.Lib.Cold (StaticIs)
abbrev ST : String := "java/lang/String"
/-- every table word that New1's law asks, flat -/
abbrev words : List Jvm.Cond := [.code New1.yN New1.yB 2 none, .initialized ST, .methodLink ST 27 New4.yN, .instanceMethod New4.yN,
  .code New4.yN New4.yB 6 none, .fieldLink ST 38 ST "COMPACT_STRINGS" "Z", .laysFinal ST ST "value" "[B", .fieldLink ST 9 ST "value" "[B", .laysFinal ST ST "coder" "B", .fieldLink ST 15 ST "coder" "B",
  .methodLink ST 1 Lib.objectInit, .instanceMethod Lib.objectInit, .code Lib.objectInit ⟨#[0xb1]⟩ 1 none, .methodLink ST 177 Cmp3.yN, .static Cmp3.yN, .methodLink ST 47 CodL.yN, .static CodL.yN,
  .code Cmp3.yN Cmp3.yB 6 (some (.array .byte)), .initialized U16, .arrayClass .byte, .methodLink U16 115 Cmp5.yN, .static Cmp5.yN, .code Cmp5.yN Cmp5.yB 7 (some .int), .code CodL.yN CodL.yB 2 (some .byte)]
theorem tab_of {a : Array Value} {s : State} (h : ∀ w ∈ words, w.before a s = true) : New1.tab.before a s = true := by
  have h5 : Cmp5.tab.before a s = true := unparts (wk h (.code Cmp5.yN Cmp5.yB 7 (some .int))) (wks h (.initialized Cmp5.yN.cls :: Cmp5.site))
  have hc : CodL.tab.before a s = true := unparts (wk h (.code CodL.yN CodL.yB 2 (some .byte))) (wks h (.initialized CodL.yN.cls :: CodL.site))
  have q5 : ∀ w ∈ Cmp5.tab :: words, w.before a s = true := fun w hw => (List.mem_cons.mp hw).elim (fun e => e ▸ h5) (h w)
  have h3 : Cmp3.tab.before a s = true := unparts (wk q5 (.code Cmp3.yN Cmp3.yB 6 (some (.array .byte)))) (wks q5 (.initialized Cmp3.yN.cls :: Cmp3.site))
  have q3 : ∀ w ∈ Cmp3.tab :: CodL.tab :: words, w.before a s = true := fun w hw => (List.mem_cons.mp hw).elim (fun e => e ▸ h3) fun hw => (List.mem_cons.mp hw).elim (fun e => e ▸ hc) (h w)
  have h4 : New4.tab.before a s = true := unparts (wk q3 (.code New4.yN New4.yB 6 none)) (wks q3 (.initialized New4.yN.cls :: New4.site))
  have q4 : ∀ w ∈ New4.tab :: words, w.before a s = true := fun w hw => (List.mem_cons.mp hw).elim (fun e => e ▸ h4) (h w)
  exact unparts (wk q4 (.code New1.yN New1.yB 2 none)) (wks q4 (.initialized New1.yN.cls :: New1.site))
/-- the words ride from the start Z to the walk's own state -/
theorem moved {Z s : State} {a0 args : Array Value} (hZ : Z.Warmed39 s.vm) (hw : ∀ d ∈ words, d.before a0 Z = true) : ∀ d ∈ words, d.before args s = true := fun d hd => by
  have q := hw d hd
  have t : ∀ d ∈ words, d = .arrayClass .byte ∨ (d.onTables && d.keepsFace) = true := by decide +kernel
  rcases t d hd with rfl | t
  · exact RoadKit.mvA hZ q
  · exact RoadKit.mv hZ q t
/-- WHAT COMES BACK, over the tables of the start Z: h the heap at the call, h' behind it -/
def Q (Z : State) (x : Addr) (A : Cell) (h : Heap) (v : Option Value) (h' : Heap) (L : List Loc) : Prop := v = none ∧ (∀ y ∈ L, y.base = x) ∧ RoadKit.Keep h h' [x] ∧ h'.size = h.size + 1 ∧ RoadKit.Exa Z h' x ST ∧ RoadKit.Fld Z h' x ST "value" "[B" (.ref h.size) ∧ RoadKit.Fld Z h' x ST "coder" "B" (.int 0) ∧
  (∃ V : Cell, RoadKit.Arr Z h' h.size V .byte ∧ V.vm = .none ∧ Z.vm.findClass "[B" = some V.cls ∧ V.slots.size = A.slots.size ∧ ∀ j, j < A.slots.size → V.slots[j]? = some (.int (lo8 (cv A j)))) ∧
  ∀ (O n d : String) (w : Value), RoadKit.Fld Z h x O n d w → RoadKit.slotOf Z O n d ≠ RoadKit.slotOf Z ST "value" "[B" → RoadKit.slotOf Z O n d ≠ RoadKit.slotOf Z ST "coder" "B" → RoadKit.Fld Z h' x O n d w
/-- **new String(chars) AT A CALL, IN THE ROAD'S FORM**: for specialBack behind newO: x the fresh String, b the char[] with the cell A -/
theorem back {p : Program} {l : Launch} {e : Env} {R : Room} {s : State} {args : Array Value} {below : List Frame} {len W : Nat} {Z : State} {a0 : Array Value} {h : Heap} (hZ : Z.Warmed39 s.vm) (hw : ∀ d ∈ words, d.before a0 Z = true) {kI : Nat} (wi : (Jvm.Cond.instantiable ST kI).before a0 Z = true)
    {x b : Addr} {A : Cell} {z : Int32} {v0 c0 : Value} (E : RoadKit.Exa Z h x ST) (V : RoadKit.Fld Z h x ST "value" "[B" v0) (C : RoadKit.Fld Z h x ST "coder" "B" c0) (K : RoadKit.Arr Z h b A .char) (hty : Typed .char A) (S : RoadKit.Sta Z h ST "COMPACT_STRINGS" "Z" (.int z)) (hz : ¬ z = 0)
    (l0 : 0 < A.slots.size) (l2 : A.slots.size ≤ 536870912) (hp : ∀ i, i < A.slots.size → ¬ 255 < cv A i) (hfr : 4 ≤ R.frames) (hlo : W + 65 ≤ R.locals) :
    Back l R p e below s args New1.yN len W (fun P a => a = #[.ref x, .ref b] ∧ P.U.heap = h ∧ P.cells + 1 ≤ R.cells ∧ P.slots + A.slots.size ≤ R.slots)
      (fun P _ v B => ∃ L, Q Z x A h v B.U.heap L ∧ B.locs = P.locs ++ L ∧ B.cells = P.cells + 1 ∧ B.slots = P.slots + A.slots.size) := by
  intro m meth c P g ig mk a X hg hsize hdg hW hn hp'
  obtain ⟨rfl, rfl, r1, r2⟩ := hp'
  have al : Z.vm.Alike P.U.vm := hZ.alike.trans X.warmed.alike
  obtain ⟨D, cfV, kV, iV, fV, hD, gV, stV, knV, obV, asV, slV⟩ := id V
  obtain ⟨D', cfC, kC, iC, fC, hD', gC, stC, -, -, asC, slC⟩ := id C
  cases hD.symm.trans hD'
  obtain ⟨D2, kD, e1, e2, e3, e4, e5⟩ := id E
  cases hD.symm.trans e1
  obtain ⟨c2, k2, i1, i2, i3, -⟩ := Cond.instantiable_spec wi
  cases e2.symm.trans i1
  cases e3.symm.trans i2
  obtain ⟨kU, u1, u2⟩ := al.2.2 _ _ e3
  have hB : Blank ST x D P.U := ⟨hD, ⟨knV, fun q hq => by rw [hq] at obV; cases obV⟩, by rw [al.findClass]; exact e2, kU, u1, by rw [u2]; exact i3, by rw [u2]; exact e5 i3⟩
  have F1 : Found ST "value" "[B" fV P.U := ⟨SBG.found_only al ⟨cfV, kV, iV, gV⟩, stV⟩
  have F2 : Found ST "coder" "B" fC P.U := ⟨SBG.found_only al ⟨cfC, kC, iC, gC⟩, stC⟩
  have hA : Ch b A P.U := ⟨⟨K.1, State.isArrayOf_alike al K.2.1, K.2.2, by omega⟩, hty⟩
  have hS : StaticIs P.U ST "COMPACT_STRINGS" "Z" (.int z) := by
    obtain ⟨cfS, iS, kS, fS, st, cS, t1, t2, t3, t4, t5, t6, t7⟩ := S
    exact StaticIs.there (s := { Z with heap := P.U.heap }) ⟨cfS, iS, kS, fS, st, cS, t1, t2, t3, t4, t5, (fun q => by rw [q] at t6; cases t6), t7⟩ al rfl
  obtain ⟨v, B, X', ⟨⟨hv, E', V', q1, q2, q3, q4, q5, q6, q7, q8, q9, q10, q11⟩, hl, hc, hs⟩, st⟩ := New1.pays x D fV fC b A z (tab_of (moved hZ hw)) hfr hlo m meth c P g ig mk _ X hg hsize hdg hW hn ⟨r1, r2, rfl, hB, F1, F2, hA, hS, hz, l0, l2, hp⟩
  have al' : Z.vm.Alike B.U.vm := hZ.alike.trans X'.warmed.alike
  have hsz : E'.slots.size = D.slots.size := by
    obtain ⟨-, -, -, kB, w1, w2, w3⟩ := q1
    obtain ⟨kB', y1, y2⟩ := al'.2.2 _ _ e3
    rw [q2.2.1] at w1
    cases w1.symm.trans y1
    rw [w3, e5 i3, y2]
  refine ⟨v, B, X', ⟨_, ⟨hv, ?_, ⟨by omega, fun y cy hy hn' => q10 y cy (by simpa using hn') hy, fun y cy hy => ?_⟩, q11, ⟨E', _, q1.1, by rw [q2.2.1]; exact e2, by rw [q2.2.1]; exact e3, by rw [q2.1]; exact obV, fun _ => by rw [hsz]; exact e5 i3⟩,
    ⟨E', cfV, kV, iV, fV, q1.1, gV, stV, by rw [q2.1]; exact knV, by rw [q2.1]; exact obV, by rw [q2.2.1]; exact asV, q3⟩, ⟨E', cfC, kC, iC, fC, q1.1, gC, stC, by rw [q2.1]; exact knV, by rw [q2.1]; exact obV, by rw [q2.2.1]; exact asC, q4⟩,
    ⟨V', ⟨q5.1, State.isArrayOf_alike al'.symm q5.2.1, q5.2.2.1⟩, q6, by rw [← al'.findClass]; exact q7, q8, fun j hj => by have := q9 j hj; rwa [Nat.zero_add] at this⟩, fun O n d w F n1 n2 => ?_⟩, hl, hc, hs⟩, st⟩
  · intro y hy
    simp only [List.mem_cons, List.not_mem_nil, or_false] at hy
    rcases hy with rfl | rfl <;> rfl
  · by_cases q : y = x
    · subst q
      cases hD.symm.trans hy
      exact ⟨E', q1.1, q2.2.1, q2.1, hsz⟩
    · exact ⟨cy, q10 y cy q hy, rfl, rfl, rfl⟩
  · obtain ⟨D3, cf, k, i, f, g1, g2, g3, g4, g5, g6, g7⟩ := F
    cases hD.symm.trans g1
    simp only [RoadKit.slotOf, g2, gV, gC, Option.map_some, Option.getD_some] at n1 n2
    exact ⟨E', cf, k, i, f, q1.1, g2, g3, by rw [q2.1]; exact g4, by rw [q2.1]; exact g5, by rw [q2.2.1]; exact g6, by rw [q2.2.2 f.slot (by simp [n1, n2])]; exact g7⟩
end StrChars.Road
namespace StrChars.Road
open Jvm Sem ClassFile Op Lib Jvm.Stand Jvm.Free Jvm.Free.XT
/-- WHAT COMES BACK, the byte[] as a list of values -/
def QA (Z : State) (x : Addr) (zn : Int32) (cs : List Int32) (h : Heap) (v : Option Value) (h' : Heap) (L : List Loc) : Prop := v = none ∧ (∀ y ∈ L, y.base = x) ∧ RoadKit.Keep h h' [x] ∧ h'.size = h.size + 1 ∧ RoadKit.Exa Z h' x ST ∧ RoadKit.Fld Z h' x ST "value" "[B" (.ref h.size) ∧ RoadKit.Fld Z h' x ST "coder" "B" (.int 0) ∧
  (∃ kb, Z.vm.findClass "[B" = some kb ∧ RoadKit.Arv Z h' h.size kb .byte zn (cs.map fun c => .int (lo8 c)) (.int 0)) ∧
  ∀ (O n d : String) (w : Value), RoadKit.Fld Z h x O n d w → RoadKit.slotOf Z O n d ≠ RoadKit.slotOf Z ST "value" "[B" → RoadKit.slotOf Z O n d ≠ RoadKit.slotOf Z ST "coder" "B" → RoadKit.Fld Z h' x O n d w
/-- **new String(chars) AT A CALL, THE ARRAYS AS LISTS**: the char[] at b holds cs, not empty, no char above 255 -/
theorem backArv {p : Program} {l : Launch} {e : Env} {R : Room} {s : State} {args : Array Value} {below : List Frame} {len W : Nat} {Z : State} {a0 : Array Value} {h : Heap} (hZ : Z.Warmed39 s.vm) (hw : ∀ d ∈ words, d.before a0 Z = true) {kI : Nat} (wi : (Jvm.Cond.instantiable ST kI).before a0 Z = true)
    {x b : Addr} {k : ClassId} {zn z : Int32} {cs : List Int32} {dv v0 c0 : Value} (E : RoadKit.Exa Z h x ST) (V : RoadKit.Fld Z h x ST "value" "[B" v0) (C : RoadKit.Fld Z h x ST "coder" "B" c0) (K : RoadKit.Arv Z h b k .char zn (cs.map Value.int) dv) (S : RoadKit.Sta Z h ST "COMPACT_STRINGS" "Z" (.int z)) (hz : ¬ z = 0)
    (hlen : zn.toNatClampNeg = cs.length) (h0 : 0 < cs.length) (hbig : cs.length ≤ 536870912) (hall : ∀ c ∈ cs, ¬ 255 < c) (hfr : 4 ≤ R.frames) (hlo : W + 65 ≤ R.locals) :
    Back l R p e below s args New1.yN len W (fun P a => a = #[.ref x, .ref b] ∧ P.U.heap = h ∧ P.cells + 1 ≤ R.cells ∧ P.slots + cs.length ≤ R.slots)
      (fun P _ v B => ∃ L, QA Z x zn cs h v B.U.heap L ∧ B.locs = P.locs ++ L ∧ B.cells = P.cells + 1 ∧ B.slots = P.slots + cs.length) := by
  obtain ⟨A, K1, K2, K3, K4, K5, K6⟩ := K
  have e : A.slots.size = cs.length := K3.trans hlen
  have hat : ∀ (i : Nat) (hi : i < cs.length), A.slots[i]? = some (.int cs[i]) := fun i hi => by rw [K5 i (by omega)]; simp [List.getD_eq_getElem?_getD, hi]
  have hcv : ∀ (i : Nat) (hi : i < cs.length), cv A i = cs[i] := fun i hi => by unfold cv; rw [hat i hi]
  have hty : Typed .char A := fun i v hv => by
    have hi : i < A.slots.size := (Array.getElem?_eq_some_iff.mp hv).1
    have q := K5 i hi
    rw [hv] at q
    rw [Option.some.inj q]
    exact K6 i hi
  refine Back.mono (back hZ hw wi E V C K1 hty S hz (by omega) (by omega) (fun i hi => by rw [hcv i (by omega)]; exact hall _ (List.getElem_mem _)) hfr hlo) (fun P a hp => ⟨hp.1, hp.2.1, hp.2.2.1, by rw [e]; exact hp.2.2.2⟩) (fun P a v B hp hq => ?_)
  obtain ⟨L, ⟨q1, q2, q3, q4, q5, q6, q7, ⟨V', v1, v2, v3, v4, v5⟩, q9⟩, hl, hc, hs⟩ := hq
  refine ⟨L, ⟨q1, q2, q3, q4, q5, q6, q7, ⟨V'.cls, v3, V', v1, rfl, by rw [v4, e, hlen], K4, fun i hi => ?_, fun i hi => ?_⟩, q9⟩, hl, hc, by rw [hs, e]⟩
  · have hi' : i < cs.length := by omega
    rw [v5 i (by omega), hcv i hi']; simp [List.getD_eq_getElem?_getD, hi']
  · have hi' : i < cs.length := by omega
    simp only [List.getD_eq_getElem?_getD, List.getElem?_map, List.getElem?_eq_getElem hi', Option.map_some, Option.getD_some]
    exact fits_lo8 _
end StrChars.Road
namespace StrChars.Road
open Jvm Sem ClassFile Op Lib Jvm.Stand Jvm.Free Jvm.Free.XT
/-- WHAT COMES BACK, in the writer's own shape -/
def QV (Z : State) (x : Addr) (N : Int32) (bs : List Int32) (h : Heap) (n0 : Nat) (v : Option Value) (h' : Heap) (L : List Loc) : Prop := v = none ∧ RoadKit.Fr n0 L ∧ RoadKit.Keep h h' [x] ∧ RoadKit.Exa Z h' x ST ∧ RoadKit.Fld Z h' x ST "coder" "B" (.int 0) ∧
  ∃ (t : Addr) (kb : ClassId), n0 ≤ t ∧ h.size ≤ t ∧ ¬ t = x ∧ RoadKit.Fld Z h' x ST "value" "[B" (.ref t) ∧ RoadKit.Arv Z h' t kb .byte N (bs.map Value.int) (.int 0)
/-- **new String(chars) AT A CALL, FOR THE WRITER**: a char[] of n known ints, each 0 to 255 -/
theorem backV {p : Program} {l : Launch} {e : Env} {R : Room} {s : State} {args : Array Value} {below : List Frame} {len W : Nat} {Z : State} {a0 : Array Value} {h : Heap} (hZ : Z.Warmed39 s.vm) (hw : ∀ d ∈ words, d.before a0 Z = true) {kI : Nat} (wi : (Jvm.Cond.instantiable ST kI).before a0 Z = true)
    {x b : Addr} {kC : ClassId} {cs bs : List Int32} {d v0 c0 : Value} {z N : Int32} {n n0 : Nat} (hx0 : n0 ≤ x) (hh0 : n0 ≤ h.size) (E : RoadKit.Exa Z h x ST) (V : RoadKit.Fld Z h x ST "value" "[B" v0) (C : RoadKit.Fld Z h x ST "coder" "B" c0) (K : RoadKit.Arv Z h b kC .char N (cs.map Value.int) d) (S : RoadKit.Sta Z h ST "COMPACT_STRINGS" "Z" (.int z)) (hz : ¬ z = 0)
    (hn : cs.length = n) (hN : N = Int32.ofNat n) (l0 : 0 < n) (l2 : n ≤ 4000) (hp : ∀ c ∈ cs, ¬ c < 0 ∧ ¬ (255 : Int32) < c) (hb : bs = cs.map (fun c => c.toInt8.toInt32)) (hfr : 4 ≤ R.frames) (hlo : W + 65 ≤ R.locals) :
    Back l R p e below s args (⟨"java/lang/String", "<init>", "([C)V"⟩ : MethodName) len W (fun P a => a = #[.ref x, .ref b] ∧ P.U.heap = h ∧ P.cells + 1 ≤ R.cells ∧ P.slots + n ≤ R.slots)
      (fun P _ v B => ∃ L, QV Z x N bs h n0 v B.U.heap L ∧ B.locs = P.locs ++ L ∧ B.cells = P.cells + 1 ∧ B.slots = P.slots + n) := by
  subst hn hN hb
  refine Back.mono (backArv hZ hw wi E V C K S hz (n32 (by omega)) l0 (by omega) (fun c hc => (hp c hc).2) hfr hlo) (fun P a hp => hp) (fun P a v B hp hq => ?_)
  obtain ⟨L, ⟨q1, q2, q3, q4, q5, q6, q7, ⟨kb, v1, v2⟩, q9⟩, hl, hc, hs⟩ := hq
  exact ⟨L, ⟨q1, fun y hy => by rw [q2 y hy]; exact hx0, q3, q5, q7, h.size, kb, hh0, Nat.le_refl _, Nat.ne_of_gt E.lt, q6, by rw [List.map_map]; exact v2⟩, hl, hc, hs⟩
end StrChars.Road
namespace StrChars
open Jvm Sem ClassFile Op Lib Jvm.Stand Jvm.Free.XT Jvm.Free.ALB Jvm.Free.JM Jvm.Free
open Jvm.Lib.Cold (StaticIs)
def hi8 (x : Int32) : Int32 := lo8 (x >>> ((8 : Int32) &&& 31))
/-- what StringUTF16.getChar makes of two bytes -/
def pairCh (u v : Int32) : Int32 := (((u &&& 255) <<< ((0 : Int32) &&& 31)) ||| ((v &&& 255) <<< ((8 : Int32) &&& 31))).toUInt32.toUInt16.toUInt32.toInt32
theorem lo8_and (x : Int32) : (lo8 x &&& 255).toBitVec.toNat = x.toBitVec.toNat % 256 := by
  have h : (lo8 x).toBitVec = (x.toBitVec.signExtend 8).signExtend 32 := by rw [lo8, Int8.toBitVec_toInt32, Int32.toBitVec_toInt8]
  rw [Int32.toBitVec_and, BitVec.toNat_and, h]
  have e : ((x.toBitVec.signExtend 8).signExtend 32).toNat % 256 = x.toBitVec.toNat % 256 := by
    rw [BitVec.toNat_signExtend]
    have hlt := x.toBitVec.isLt
    simp only [BitVec.toNat_setWidth, BitVec.toNat_signExtend]
    split <;> split <;> omega
  rw [← e]
  exact Nat.and_two_pow_sub_one_eq_mod _ 8
theorem pair_says {c : Int32} (h0 : ¬ c < 0) (h1 : ¬ 65535 < c) : pairCh (lo8 c) (hi8 c) = c := by
  rw [Int32.lt_iff_toInt_lt] at h0 h1
  have e0 : (0 : Int32).toInt = 0 := rfl
  have e1 : (65535 : Int32).toInt = 65535 := rfl
  have hc : c.toInt = c.toBitVec.toNat := by
    have := c.toBitVec.isLt
    have e : c.toInt = c.toBitVec.toInt := rfl
    rw [e] at h0 h1
    rw [e]
    rw [BitVec.toInt_eq_toNat_cond] at h0 h1 ⊢
    split at h0 <;> split <;> omega
  have hn : c.toBitVec.toNat < 65536 := by omega
  have a1 := lo8_and c
  have a2 : (hi8 c &&& 255).toBitVec.toNat = c.toBitVec.toNat / 256 := by
    rw [hi8, lo8_and]
    have e : ((8 : Int32) &&& 31) = 8 := by decide
    rw [e, Int32.toBitVec_shiftRight]
    have e2 : ((8 : Int32).toBitVec.smod 32) = 8#32 := by decide
    rw [e2, BitVec.sshiftRight_eq', BitVec.toNat_sshiftRight_of_msb_false (by rw [BitVec.msb_eq_false_iff_two_mul_lt]; omega)]
    show c.toBitVec.toNat >>> 8 % 256 = _
    rw [Nat.shiftRight_eq_div_pow]
    omega
  unfold pairCh
  apply Int32.toBitVec_inj.mp
  apply BitVec.eq_of_toNat_eq
  have f0 : ((0 : Int32) &&& 31) = 0 := by decide
  have f8 : ((8 : Int32) &&& 31) = 8 := by decide
  rw [f0, f8]
  have g : (((lo8 c &&& 255) <<< (0 : Int32)) ||| ((hi8 c &&& 255) <<< (8 : Int32))).toBitVec.toNat = c.toBitVec.toNat := by
    rw [Int32.toBitVec_or, Int32.toBitVec_shiftLeft, Int32.toBitVec_shiftLeft]
    have s0 : ((0 : Int32).toBitVec.smod 32) = 0#32 := by decide
    have s8 : ((8 : Int32).toBitVec.smod 32) = 8#32 := by decide
    rw [s0, s8, BitVec.toNat_or]
    simp only [BitVec.shiftLeft_eq', BitVec.toNat_shiftLeft, a1, a2]
    show (c.toBitVec.toNat % 256) <<< 0 % 2 ^ 32 ||| (c.toBitVec.toNat / 256) <<< 8 % 2 ^ 32 = _
    rw [Nat.shiftLeft_zero, Nat.mod_eq_of_lt (show c.toBitVec.toNat % 256 < 2 ^ 32 by omega), Nat.mod_eq_of_lt (show (c.toBitVec.toNat / 256) <<< 8 < 2 ^ 32 by rw [Nat.shiftLeft_eq]; omega), Nat.or_comm, ← Nat.shiftLeft_add_eq_or_of_lt (by omega), Nat.shiftLeft_eq]
    omega
  show BitVec.toNat (((((lo8 c &&& 255) <<< (0 : Int32)) ||| ((hi8 c &&& 255) <<< (8 : Int32))).toBitVec.setWidth 16).setWidth 32) = _
  rw [BitVec.toNat_setWidth, BitVec.toNat_setWidth, g]
  omega
end StrChars
namespace StrChars
open Jvm Sem ClassFile Op Lib Jvm.Stand Jvm.Free.XT Jvm.Free.ALB Jvm.Free.JM Jvm.Free
open Jvm.Lib.Cold (StaticIs)
/-- the array's cell V codes the n chars f 0 .. f (n - 1) by the coder cd, as the JDK does: coder 1 just where some char is above 255 -/
def Cod (cd : Int32) (n : Nat) (f : Nat → Int32) (V : Cell) : Prop := (cd = 0 ∧ V.slots.size = n ∧ ∀ j, j < n → V.slots[j]? = some (.int (lo8 (f j))) ∧ ¬ 255 < f j) ∨ (cd = 1 ∧ V.slots.size = 2 * n ∧ (∀ j, j < n → V.slots[2 * j]? = some (.int (lo8 (f j))) ∧ V.slots[2 * j + 1]? = some (.int (hi8 (f j)))) ∧ ∃ j, j < n ∧ 255 < f j)
/-- **x is a String of the n chars f 0 .. f (n - 1)**, Latin-1 or UTF-16; its array at t has the cell V -/
def Txt (x t : Addr) (V : Cell) (cd : Int32) (n : Nat) (f : Nat → Int32) (U : State) : Prop := Exact "java/lang/String" x U ∧ Has x "java/lang/String" "value" "[B" (.ref t) U ∧ Has x "java/lang/String" "coder" "B" (.int cd) U ∧ XT.Arr .byte t V U ∧ Cod cd n f V ∧ ∀ j, j < n → ¬ f j < 0 ∧ ¬ 65535 < f j
theorem Txt.mv {x t : Addr} {V : Cell} {cd : Int32} {n : Nat} {f : Nat → Int32} {U U' : State} (h : Txt x t V cd n f U) (hal : U.vm.Alike U'.vm) (hh : U'.heap = U.heap) : Txt x t V cd n f U' := ⟨h.1.mv hal hh, h.2.1.mv hal hh, h.2.2.1.mv hal hh, h.2.2.2.1.mv hal hh, h.2.2.2.2⟩
end StrChars
namespace StrChars.Road
open Jvm Sem ClassFile Op Lib Jvm.Stand Jvm.Free Jvm.Free.XT
open Jvm.Lib.Cold (StaticIs)
theorem consq {a : Array Value} {s : State} {c : Jvm.Cond} {L : List Jvm.Cond} (h0 : c.before a s = true) (h : ∀ w ∈ L, w.before a s = true) : ∀ w ∈ c :: L, w.before a s = true := fun w hw => (List.mem_cons.mp hw).elim (fun e => e ▸ h0) (h w)
/-- the bytes of the chars cs, low before high -/
def wideBytes : List Int32 → List Value
  | [] => []
  | c :: cs => .int (lo8 c) :: .int (hi8 c) :: wideBytes cs
theorem wide_lo (d : Value) : ∀ (cs : List Int32) (j : Nat), j < cs.length → (wideBytes cs).getD (2 * j) d = .int (lo8 (cs.getD j 0))
  | [], j, h => absurd h (Nat.not_lt_zero j)
  | c :: cs, 0, _ => rfl
  | c :: cs, j + 1, h => by
    have q := wide_lo d cs j (by simpa using h)
    rw [show 2 * (j + 1) = 2 * j + 1 + 1 from by omega]
    simpa [wideBytes] using q
theorem wide_hi (d : Value) : ∀ (cs : List Int32) (j : Nat), j < cs.length → (wideBytes cs).getD (2 * j + 1) d = .int (hi8 (cs.getD j 0))
  | [], j, h => absurd h (Nat.not_lt_zero j)
  | c :: cs, 0, _ => rfl
  | c :: cs, j + 1, h => by
    have q := wide_hi d cs j (by simpa using h)
    rw [show 2 * (j + 1) + 1 = 2 * j + 1 + 1 + 1 from by omega]
    simpa [wideBytes] using q
theorem low_at (d : Value) (cs : List Int32) (j : Nat) (h : j < cs.length) : (cs.map fun c => Value.int (lo8 c)).getD j d = .int (lo8 (cs.getD j 0)) := by
  simp [List.getD_eq_getElem?_getD, h]
/-- an array of N2 bytes vs codes the chars cs by the coder cd -/
def CodA (cs : List Int32) (cd N2 : Int32) (vs : List Value) : Prop := (cd = 0 ∧ N2 = Int32.ofNat cs.length ∧ vs = (cs.map fun c => Value.int (lo8 c)) ∧ ∀ c ∈ cs, ¬ 255 < c) ∨ (cd = 1 ∧ N2 = Int32.ofNat (2 * cs.length) ∧ vs = wideBytes cs ∧ ∃ c ∈ cs, 255 < c)
theorem CodA.cod {cs : List Int32} {cd N2 : Int32} {vs : List Value} {V : Cell} (h : CodA cs cd N2 vs) (hn : 2 * cs.length < 2 ^ 31) (hs : V.slots.size = N2.toNatClampNeg) (hv : RoadKit.Has V vs (.int 0)) : Cod cd cs.length (fun j => cs.getD j 0) V := by
  rcases h with ⟨rfl, rfl, rfl, h⟩ | ⟨rfl, rfl, rfl, c, hc, hw⟩
  · rw [n32 (by omega)] at hs
    exact Or.inl ⟨rfl, hs, fun j hj => ⟨by rw [hv j (by omega), low_at _ _ _ hj], by
      have e : cs.getD j 0 = cs[j] := by simp [List.getD_eq_getElem?_getD, hj]
      show ¬ 255 < cs.getD j 0
      rw [e]; exact h _ (List.getElem_mem _)⟩⟩
  · rw [n32 (by omega)] at hs
    obtain ⟨j, hj, rfl⟩ := List.getElem_of_mem hc
    exact Or.inr ⟨rfl, hs, fun j hj => ⟨by rw [hv _ (by omega), wide_lo _ _ _ hj], by rw [hv _ (by omega), wide_hi _ _ _ hj]⟩, j, hj, by
      have e : cs.getD j 0 = cs[j] := by simp [List.getD_eq_getElem?_getD, hj]
      show 255 < cs.getD j 0
      rw [e]; exact hw⟩
/-- an object of exactly java/lang/String, its two fields found: as the laws ask it -/
theorem strObj {Z U : State} {a0 : Array Value} {kI : Nat} (wi : (Jvm.Cond.instantiable ST kI).before a0 Z = true) (al : Z.vm.Alike U.vm) {x : Addr} {v0 c0 : Value} (E : RoadKit.Exa Z U.heap x ST) (V : RoadKit.Fld Z U.heap x ST "value" "[B" v0) (C : RoadKit.Fld Z U.heap x ST "coder" "B" c0) :
    ∃ (D : Cell) (fV fC : Field), Blank ST x D U ∧ Found ST "value" "[B" fV U ∧ Found ST "coder" "B" fC U ∧ D.slots[fV.slot]? = some v0 ∧ D.slots[fC.slot]? = some c0 ∧ RoadKit.slotOf Z ST "value" "[B" = fV.slot ∧ RoadKit.slotOf Z ST "coder" "B" = fC.slot := by
  obtain ⟨D, cfV, kV, iV, fV, hD, gV, stV, knV, obV, asV, slV⟩ := V
  obtain ⟨D', cfC, kC, iC, fC, hD', gC, stC, -, -, asC, slC⟩ := C
  cases hD.symm.trans hD'
  obtain ⟨D2, kD, e1, e2, e3, e4, e5⟩ := E
  cases hD.symm.trans e1
  obtain ⟨c2, k2, i1, i2, i3, -⟩ := Cond.instantiable_spec wi
  cases e2.symm.trans i1
  cases e3.symm.trans i2
  obtain ⟨kU, u1, u2⟩ := al.2.2 _ _ e3
  exact ⟨D, fV, fC, ⟨hD, ⟨knV, fun q hq => by rw [hq] at obV; cases obV⟩, by rw [al.findClass]; exact e2, kU, u1, by rw [u2]; exact i3, by rw [u2]; exact e5 i3⟩, ⟨SBG.found_only al ⟨cfV, kV, iV, gV⟩, stV⟩, ⟨SBG.found_only al ⟨cfC, kC, iC, gC⟩, stC⟩, slV, slC, by simp [RoadKit.slotOf, gV], by simp [RoadKit.slotOf, gC]⟩
theorem sta_is {Z U : State} (al : Z.vm.Alike U.vm) {C n d : String} {v : Value} (S : RoadKit.Sta Z U.heap C n d v) : StaticIs U C n d v := by
  obtain ⟨cfS, iS, kS, fS, st, cS, t1, t2, t3, t4, t5, t6, t7⟩ := S
  exact StaticIs.there (s := { Z with heap := U.heap }) ⟨cfS, iS, kS, fS, st, cS, t1, t2, t3, t4, t5, (fun q => by rw [q] at t6; cases t6), t7⟩ al rfl
end StrChars.Road
namespace StrChars
open Jvm Sem ClassFile Op Lib Jvm.Stand Jvm.Free.XT Jvm.Free.ALB Jvm.Free.JM Jvm.Free
open Jvm.Lib.Cold (StaticIs)
/-- what place i of a byte[]'s cell holds -/
def yv (A : Cell) (i : Nat) : Int32 := match A.slots[i]? with | some (.int x) => x | _ => 0
theorem yv_get {a : Addr} {A : Cell} {U : State} (h : XT.Arr .byte a A U) (ht : Typed .byte A) {i : Nat} (hi : i < A.slots.size) : A.slots[i]? = some (.int (yv A i)) := by
  have e := Array.getElem?_eq_getElem hi
  have f := ht i _ e
  unfold yv; rw [e]
  generalize A.slots[i] = v at f
  cases v <;> simp [fits] at f ⊢
/-- the two arrays are equal, place for place -/
def EqC (A B : Cell) : Prop := A.slots.size = B.slots.size ∧ ∀ i, i < A.slots.size → yv A i = yv B i
/-- a boolean that says whether p -/
def Says01 (q : Prop) (r : Option Value) (s u : State) : Prop := ∃ v : Int32, r = some (.int v) ∧ u.heap = s.heap ∧ ((v = 1 ∧ q) ∨ (v = 0 ∧ ¬ q))
theorem Says01.mv {q : Prop} : ∀ r (U U' V V' : State), U'.heap = U.heap → V.vm.Alike V'.vm → V'.heap = V.heap → Says01 q r U V → Says01 q r U' V' :=
  fun r U U' V V' h1 _ h2 ⟨v, a, b, c⟩ => ⟨v, a, by rw [h1, h2]; exact b, c⟩
namespace LEq
def yN : MethodName := ⟨"java/lang/StringLatin1", "equals", "([B[B)Z"⟩
abbrev yB : ByteArray := jdk_43_method_13_code
theorem d0 : decode yB 0 = .ok (.aload_n 0, 1) := by decide +kernel
theorem d1 : decode yB 1 = .ok (.arraylength, 1) := by decide +kernel
theorem d2 : decode yB 2 = .ok (.aload_n 1, 1) := by decide +kernel
theorem d3 : decode yB 3 = .ok (.arraylength, 1) := by decide +kernel
theorem d4 : decode yB 4 = .ok (.if_icmp (.ne) 30, 3) := by decide +kernel
theorem d7 : decode yB 7 = .ok (.iconst 0, 1) := by decide +kernel
theorem d8 : decode yB 8 = .ok (.istore_n 2, 1) := by decide +kernel
theorem d9 : decode yB 9 = .ok (.iload_n 2, 1) := by decide +kernel
theorem d10 : decode yB 10 = .ok (.aload_n 0, 1) := by decide +kernel
theorem d11 : decode yB 11 = .ok (.arraylength, 1) := by decide +kernel
theorem d12 : decode yB 12 = .ok (.if_icmp (.ge) 20, 3) := by decide +kernel
theorem d15 : decode yB 15 = .ok (.aload_n 0, 1) := by decide +kernel
theorem d16 : decode yB 16 = .ok (.iload_n 2, 1) := by decide +kernel
theorem d17 : decode yB 17 = .ok (.baload, 1) := by decide +kernel
theorem d18 : decode yB 18 = .ok (.aload_n 1, 1) := by decide +kernel
theorem d19 : decode yB 19 = .ok (.iload_n 2, 1) := by decide +kernel
theorem d20 : decode yB 20 = .ok (.baload, 1) := by decide +kernel
theorem d21 : decode yB 21 = .ok (.if_icmp (.eq) 5, 3) := by decide +kernel
theorem d24 : decode yB 24 = .ok (.iconst 0, 1) := by decide +kernel
theorem d25 : decode yB 25 = .ok (.ireturn, 1) := by decide +kernel
theorem d26 : decode yB 26 = .ok (.iinc 2 1, 3) := by decide +kernel
theorem d29 : decode yB 29 = .ok (.goto (-20), 3) := by decide +kernel
theorem d32 : decode yB 32 = .ok (.iconst 1, 1) := by decide +kernel
theorem d33 : decode yB 33 = .ok (.ireturn, 1) := by decide +kernel
theorem d34 : decode yB 34 = .ok (.iconst 0, 1) := by decide +kernel
theorem d35 : decode yB 35 = .ok (.ireturn, 1) := by decide +kernel
def site : List Cond := []
def tab : Cond := tabOf yN yB 3 (some .boolean) site
def P (a : Addr) (A : Cell) (b : Addr) (B : Cell) (args : Array Value) (s : State) : Prop := args = #[.ref a, .ref b] ∧ XT.Arr .byte a A s ∧ Typed .byte A ∧ XT.Arr .byte b B s ∧ Typed .byte B
/-- whether two byte[] are equal, place for place -/
theorem law (l : Launch) (a : Addr) (A : Cell) (b : Addr) (B : Cell) : Law l yN 2 2 0 0 yB 3 (some .boolean) site (P a A b B) (Says01 (EqC A B)) [] 0 0 := by
  refine Law.of_walk (plainFor_of_name (by decide +kernel)) (by decide +kernel) (by decide +kernel) (by decide) (fun _ _ h => by rw [h.1]; rfl) (fun _ U U' hal hh h => ⟨h.1, h.2.1.mv hal hh, h.2.2.1, h.2.2.2.1.mv hal hh, h.2.2.2.2⟩) (fun r U U' V V' h1 hal h2 h => Says01.mv r U U' V V' h1 hal h2 h) ?_
  intro p e s m args below meth c s₁ X0 hexec hbytes hml hret hlk hnm hown hh0 W hP
  obtain ⟨rfl, hA, tA, hB, tB⟩ := hP
  have a31 := hA.2.2.2
  have b31 := hB.2.2.2
  have hA0 := hA.mv X0.warmed.alike hh0
  have hB0 := hB.mv X0.warmed.alike hh0
  have c1 : Steps p.tables e below (s₁.setTop (entryFrame m #[.ref a, .ref b] 3)) (s₁.setTop (mkF m 0 #[.val (.ref a), .val (.ref b), .unset] [])) := entry rfl
  have c2 : Steps p.tables e below (s₁.setTop (entryFrame m #[.ref a, .ref b] 3)) (s₁.setTop (mkF m 4 #[.val (.ref a), .val (.ref b), .unset] [.int (Int32.ofNat B.slots.size), .int (Int32.ofNat A.slots.size)])) := c1.trans (by
    refine XS.aloadN X0.here hexec rfl (hb hbytes d0) rfl rfl ?_
    refine X0.alen hexec hA0 rfl rfl (hb hbytes d1) ?_
    refine XS.aloadN X0.here hexec rfl (hb hbytes d2) rfl rfl ?_
    refine X0.alen hexec hB0 rfl rfl (hb hbytes d3) ?_
    exact Steps.refl _)
  by_cases hs : A.slots.size = B.slots.size
  · have c3 : Steps p.tables e below (s₁.setTop (entryFrame m #[.ref a, .ref b] 3)) (s₁.setTop (mkF m 9 #[.val (.ref a), .val (.ref b), .val (.int 0)] [])) := c2.trans (by
      refine XS.icmpNo X0.here hexec rfl (hb hbytes d4) rfl (ii_ne_f (by rw [hs])) ?_
      refine iconstV X0.here hexec rfl 0 (hb hbytes d7) (by decide) ?_
      refine XS.istoreN X0.here hexec rfl (hb hbytes d8) rfl rfl ?_
      exact Steps.refl _)
    have loop : ∀ (r i : Nat), i + r = A.slots.size → (∀ j, j < i → yv A j = yv B j) → Steps p.tables e below (s₁.setTop (entryFrame m #[.ref a, .ref b] 3)) (s₁.setTop (mkF m 9 #[.val (.ref a), .val (.ref b), .val (.int (Int32.ofNat i))] [])) → ∃ (pc : Nat) (Ls : Array Slot) (v : Int32), (pc = 25 ∨ pc = 33) ∧ ((v = 1 ∧ EqC A B) ∨ (v = 0 ∧ ¬ EqC A B)) ∧ Steps p.tables e below (s₁.setTop (entryFrame m #[.ref a, .ref b] 3)) (s₁.setTop (mkF m pc Ls [.int v])) := by
      intro r
      induction r with
      | zero =>
        intro i hi he cl
        exact ⟨33, _, 1, Or.inr rfl, Or.inl ⟨rfl, hs, fun j hj => he j (by omega)⟩, cl.trans (by
          refine XS.iloadN X0.here hexec rfl (hb hbytes d9) rfl ?_
          refine XS.aloadN X0.here hexec rfl (hb hbytes d10) rfl rfl ?_
          refine X0.alen hexec hA0 rfl rfl (hb hbytes d11) ?_
          refine XS.icmpYes X0.here hexec rfl (pc0 := 12) rfl (hb hbytes d12) rfl (ii_ge_t (nlt32 (by omega) (by omega))) (by decide) rfl ?_
          refine iconstV X0.here hexec rfl 1 (hb hbytes d32) (by decide) ?_
          exact Steps.refl _)⟩
      | succ r ih =>
        intro i hi he cl
        have c4 : Steps p.tables e below (s₁.setTop (entryFrame m #[.ref a, .ref b] 3)) (s₁.setTop (mkF m 21 #[.val (.ref a), .val (.ref b), .val (.int (Int32.ofNat i))] [.int (yv B i), .int (yv A i)])) := cl.trans (by
          refine XS.iloadN X0.here hexec rfl (hb hbytes d9) rfl ?_
          refine XS.aloadN X0.here hexec rfl (hb hbytes d10) rfl rfl ?_
          refine X0.alen hexec hA0 rfl rfl (hb hbytes d11) ?_
          refine XS.icmpNo X0.here hexec rfl (hb hbytes d12) rfl (ii_ge_f (lt32 (by omega) (by omega))) ?_
          refine XS.aloadN X0.here hexec rfl (hb hbytes d15) rfl rfl ?_
          refine XS.iloadN X0.here hexec rfl (hb hbytes d16) rfl ?_
          refine X0.aget hexec hA0 rfl (yv_get hA tA (i := i) (by omega)) rfl rfl (hb hbytes d17) ?_
          refine XS.aloadN X0.here hexec rfl (hb hbytes d18) rfl rfl ?_
          refine XS.iloadN X0.here hexec rfl (hb hbytes d19) rfl ?_
          refine X0.aget hexec hB0 rfl (yv_get hB tB (i := i) (by omega)) rfl rfl (hb hbytes d20) ?_
          exact Steps.refl _)
        by_cases hv : yv A i = yv B i
        · have c5 : Steps p.tables e below (s₁.setTop (entryFrame m #[.ref a, .ref b] 3)) (s₁.setTop (mkF m 9 #[.val (.ref a), .val (.ref b), .val (.int (Int32.ofNat i + 1))] [])) := c4.trans (by
            refine XS.icmpYes X0.here hexec rfl (pc0 := 21) rfl (hb hbytes d21) rfl (ii_eq_t hv) (by decide) rfl ?_
            refine iincV X0.here hexec rfl 1 (hb hbytes d26) (by decide) rfl rfl ?_
            refine XS.goto X0.here hexec rfl (pc0 := 29) rfl (hb hbytes d29) (by decide) rfl ?_
            exact Steps.refl _)
          rw [succ32] at c5
          exact ih (i + 1) (by omega) (fun j hj => by
            by_cases e : j = i
            · rw [e]; exact hv
            · exact he j (by omega)) c5
        · exact ⟨25, _, 0, Or.inl rfl, Or.inr ⟨rfl, fun q => hv (q.2 i (by omega))⟩, c4.trans (by
            refine XS.icmpNo X0.here hexec rfl (hb hbytes d21) rfl (ii_eq_f hv) ?_
            refine iconstV X0.here hexec rfl 0 (hb hbytes d24) (by decide) ?_
            exact Steps.refl _)⟩
    obtain ⟨pc, Ls, v, hpc, hv, cz⟩ := loop A.slots.size 0 (by omega) (fun j hj => absurd hj (Nat.not_lt_zero j)) c3
    have nv : narrow .boolean (.int v) = .int v := by rcases hv with ⟨rfl, -⟩ | ⟨rfl, -⟩ <;> rfl
    rcases hpc with rfl | rfl
    · exact ⟨s₁, some (.int v), _, _, _, X0, rfl, rfl, rfl, (fun h => by cases h), ⟨v, rfl, hh0, hv⟩, fun fs hl => cz.trans (X0.ireturnOut hexec hret nv (Or.inr (Or.inl rfl)) (hb hbytes d25) hl)⟩
    · exact ⟨s₁, some (.int v), _, _, _, X0, rfl, rfl, rfl, (fun h => by cases h), ⟨v, rfl, hh0, hv⟩, fun fs hl => cz.trans (X0.ireturnOut hexec hret nv (Or.inr (Or.inl rfl)) (hb hbytes d33) hl)⟩
  · have c3 : Steps p.tables e below (s₁.setTop (entryFrame m #[.ref a, .ref b] 3)) (s₁.setTop (mkF m 35 #[.val (.ref a), .val (.ref b), .unset] [.int 0])) := c2.trans (by
      refine XS.icmpYes X0.here hexec rfl (pc0 := 4) rfl (hb hbytes d4) rfl (ii_ne_t (ne32 a31 b31 hs)) (by decide) rfl ?_
      refine iconstV X0.here hexec rfl 0 (hb hbytes d34) (by decide) ?_
      exact Steps.refl _)
    exact ⟨s₁, some (.int 0), _, _, _, X0, rfl, rfl, rfl, (fun h => by cases h), ⟨0, rfl, hh0, Or.inr ⟨rfl, fun q => hs q.1⟩⟩, fun fs hl => c3.trans (X0.ireturnOut hexec hret rfl (Or.inr (Or.inl rfl)) (hb hbytes d35) hl)⟩
end LEq
theorem Cod.ty {cd : Int32} {n : Nat} {f : Nat → Int32} {V : Cell} (h : Cod cd n f V) : Typed .byte V := fun i v hv => by
  have hi : i < V.slots.size := (Array.getElem?_eq_some_iff.mp hv).1
  rcases h with ⟨-, k1, k2⟩ | ⟨-, k1, k2, -⟩
  · rw [(k2 i (by omega)).1] at hv; cases hv; exact fits_lo8 _
  · rcases Nat.mod_two_eq_zero_or_one i with e | e
    · obtain ⟨j, rfl⟩ : ∃ j, i = 2 * j := ⟨i / 2, by omega⟩
      rw [(k2 j (by omega)).1] at hv; cases hv; exact fits_lo8 _
    · obtain ⟨j, rfl⟩ : ∃ j, i = 2 * j + 1 := ⟨i / 2, by omega⟩
      rw [(k2 j (by omega)).2] at hv; cases hv; exact fits_lo8 _
/-- the same text -/
def SameT (n : Nat) (f : Nat → Int32) (k : Nat) (g : Nat → Int32) : Prop := n = k ∧ ∀ j, j < n → f j = g j
theorem lo8_inj {x y : Int32} (h0 : ¬ x < 0) (h1 : ¬ 255 < x) (k0 : ¬ y < 0) (k1 : ¬ 255 < y) (h : lo8 x = lo8 y) : x = y := by
  rw [← lo8_mask h0 h1, ← lo8_mask k0 k1, h]
/-- arrays coded by one coder are equal just where the texts are -/
theorem Cod.eqv {cd : Int32} {n k : Nat} {f g : Nat → Int32} {V V' : Cell} (h : Cod cd n f V) (h' : Cod cd k g V') (hf : ∀ j, j < n → ¬ f j < 0 ∧ ¬ 65535 < f j) (hg : ∀ j, j < k → ¬ g j < 0 ∧ ¬ 65535 < g j) : EqC V V' ↔ SameT n f k g := by
  have yvv : ∀ {W : Cell} {i : Nat} {x : Int32}, W.slots[i]? = some (.int x) → yv W i = x := fun q => by unfold yv; rw [q]
  rcases h with ⟨rfl, k1, k2⟩ | ⟨rfl, k1, k2, -⟩
  · rcases h' with ⟨-, m1, m2⟩ | ⟨e, -⟩
    · constructor
      · rintro ⟨e1, e2⟩
        refine ⟨by omega, fun j hj => ?_⟩
        have q := e2 j (by omega)
        rw [yvv (k2 j hj).1, yvv (m2 j (by omega)).1] at q
        exact lo8_inj (hf j hj).1 (k2 j hj).2 (hg j (by omega)).1 (m2 j (by omega)).2 q
      · rintro ⟨rfl, e2⟩
        refine ⟨by omega, fun j hj => ?_⟩
        rw [yvv (k2 j (by omega)).1, yvv (m2 j (by omega)).1, e2 j (by omega)]
    · exact absurd e (by decide)
  · rcases h' with ⟨e, -⟩ | ⟨-, m1, m2, -⟩
    · exact absurd e (by decide)
    · constructor
      · rintro ⟨e1, e2⟩
        refine ⟨by omega, fun j hj => ?_⟩
        have q1 := e2 (2 * j) (by omega)
        have q2 := e2 (2 * j + 1) (by omega)
        rw [yvv (k2 j hj).1, yvv (m2 j (by omega)).1] at q1
        rw [yvv (k2 j hj).2, yvv (m2 j (by omega)).2] at q2
        rw [← pair_says (hf j hj).1 (hf j hj).2, ← pair_says (hg j (by omega)).1 (hg j (by omega)).2, q1, q2]
      · rintro ⟨rfl, e2⟩
        refine ⟨by omega, fun i hi => ?_⟩
        rcases Nat.mod_two_eq_zero_or_one i with e | e
        · obtain ⟨j, rfl⟩ : ∃ j, i = 2 * j := ⟨i / 2, by omega⟩
          rw [yvv (k2 j (by omega)).1, yvv (m2 j (by omega)).1, e2 j (by omega)]
        · obtain ⟨j, rfl⟩ : ∃ j, i = 2 * j + 1 := ⟨i / 2, by omega⟩
          rw [yvv (k2 j (by omega)).2, yvv (m2 j (by omega)).2, e2 j (by omega)]
/-- two codings differ: so do the texts -/
theorem Cod.dif {cd cd' : Int32} {n k : Nat} {f g : Nat → Int32} {V V' : Cell} (h : Cod cd n f V) (h' : Cod cd' k g V') (hne : ¬ cd = cd') : ¬ SameT n f k g := by
  rintro ⟨rfl, e⟩
  rcases h with ⟨rfl, -, k2⟩ | ⟨rfl, -, -, j, hj, hw⟩
  · rcases h' with ⟨rfl, -⟩ | ⟨-, -, -, j, hj, hw⟩
    · exact hne rfl
    · exact (k2 j hj).2 (by rw [e j hj]; exact hw)
  · rcases h' with ⟨-, -, m2⟩ | ⟨rfl, -⟩
    · exact (m2 j hj).2 (by rw [← e j hj]; exact hw)
    · exact hne rfl
/-- an object of exactly C is an instance of C -/
theorem cinst {p : Program} {l : Launch} {e : Env} {R : Room} {s : State} {m : MethodId} {args : Array Value} {below : List Frame} {meth : Method} {c : Code} {T : State} {locs : List Loc} {cells slots : Nat} (X : Stand p l e R s m args below meth c T locs cells slots) (hexec : p.tables.exec = Jvm.exec) {own C : String} {index : Nat} (hown : s.vm.findClass own = some m.cls) (hlink : (Cond.classLink own index C).before args s = true) {a : Addr} (hE : Exact C a T)
    {g : JFrame} (hg : g.method = m) {rest : List Value} (hstack : g.stack = .ref a :: rest) (hdg : decode c.code g.pc = .ok (.instanceof index, 3)) :
    ∃ T', Stand p l e R s m args below meth c T' locs cells slots ∧ T'.heap = T.heap ∧ ∀ target, Steps p.tables e below (T'.setTop { g with pc := g.pc + 3, stack := .int 1 :: rest }) target → Steps p.tables e below (T.setTop g) target := by
  obtain ⟨cB, h1, D, h2, h3, h4⟩ := hE
  have h1' : s.vm.findClass C = some cB := by rw [← X.warmed.alike.findClass]; exact h1
  obtain ⟨vm', X', st⟩ := X.instanceofYes hexec hown hlink h2 h4 h1' (by rw [h3]; exact Jvm.Free.SB.assignable_self _ _) hg hstack hdg
  exact ⟨_, X', rfl, st⟩
theorem cself {p : Program} {l : Launch} {e : Env} {R : Room} {s : State} {m : MethodId} {args : Array Value} {below : List Frame} {meth : Method} {c : Code} {T : State} {locs : List Loc} {cells slots : Nat} (X : Stand p l e R s m args below meth c T locs cells slots) (hexec : p.tables.exec = Jvm.exec) {own C : String} {index : Nat} (hown : s.vm.findClass own = some m.cls) (hlink : (Cond.classLink own index C).before args s = true) {a : Addr} (hE : Exact C a T)
    {g : JFrame} (hg : g.method = m) {rest : List Value} (hstack : g.stack = .ref a :: rest) (hdg : decode c.code g.pc = .ok (.checkcast index, 3)) :
    ∃ T', Stand p l e R s m args below meth c T' locs cells slots ∧ T'.heap = T.heap ∧ ∀ target, Steps p.tables e below (T'.setTop { g with pc := g.pc + 3, stack := .ref a :: rest }) target → Steps p.tables e below (T.setTop g) target := by
  obtain ⟨cB, h1, D, h2, h3, h4⟩ := hE
  have h1' : s.vm.findClass C = some cB := by rw [← X.warmed.alike.findClass]; exact h1
  obtain ⟨vm', X', st⟩ := X.checkcastYes hexec hown hlink h2 h4 h1' (by rw [h3]; exact Jvm.Free.SB.assignable_self _ _) hg hstack hdg
  exact ⟨_, X', rfl, fun t h => st t (by rw [← hstack] at h; exact h)⟩
namespace SEq
def yN : MethodName := ⟨"java/lang/String", "equals", "(Ljava/lang/Object;)Z"⟩
abbrev yB : ByteArray := jdk_42_method_66_code
theorem d0 : decode yB 0 = .ok (.aload_n 0, 1) := by decide +kernel
theorem d1 : decode yB 1 = .ok (.aload_n 1, 1) := by decide +kernel
theorem d2 : decode yB 2 = .ok (.if_acmp (.ne) 5, 3) := by decide +kernel
theorem d5 : decode yB 5 = .ok (.iconst 1, 1) := by decide +kernel
theorem d6 : decode yB 6 = .ok (.ireturn, 1) := by decide +kernel
theorem d7 : decode yB 7 = .ok (.aload_n 1, 1) := by decide +kernel
theorem d8 : decode yB 8 = .ok (.instanceof 10, 3) := by decide +kernel
theorem d11 : decode yB 11 = .ok (.ifCond (.eq) 43, 3) := by decide +kernel
theorem d14 : decode yB 14 = .ok (.aload_n 1, 1) := by decide +kernel
theorem d15 : decode yB 15 = .ok (.checkcast 10, 3) := by decide +kernel
theorem d18 : decode yB 18 = .ok (.astore_n 2, 1) := by decide +kernel
theorem d19 : decode yB 19 = .ok (.getstatic 38, 3) := by decide +kernel
theorem d22 : decode yB 22 = .ok (.ifCond (.eq) 14, 3) := by decide +kernel
theorem d25 : decode yB 25 = .ok (.aload_n 0, 1) := by decide +kernel
theorem d26 : decode yB 26 = .ok (.getfield 15, 3) := by decide +kernel
theorem d29 : decode yB 29 = .ok (.aload_n 2, 1) := by decide +kernel
theorem d30 : decode yB 30 = .ok (.getfield 15, 3) := by decide +kernel
theorem d33 : decode yB 33 = .ok (.if_icmp (.ne) 21, 3) := by decide +kernel
theorem d36 : decode yB 36 = .ok (.aload_n 0, 1) := by decide +kernel
theorem d37 : decode yB 37 = .ok (.getfield 9, 3) := by decide +kernel
theorem d40 : decode yB 40 = .ok (.aload_n 2, 1) := by decide +kernel
theorem d41 : decode yB 41 = .ok (.getfield 9, 3) := by decide +kernel
theorem d44 : decode yB 44 = .ok (.invokestatic 541, 3) := by decide +kernel
theorem d47 : decode yB 47 = .ok (.ifCond (.eq) 7, 3) := by decide +kernel
theorem d50 : decode yB 50 = .ok (.iconst 1, 1) := by decide +kernel
theorem d51 : decode yB 51 = .ok (.goto 4, 3) := by decide +kernel
theorem d54 : decode yB 54 = .ok (.iconst 0, 1) := by decide +kernel
theorem d55 : decode yB 55 = .ok (.ireturn, 1) := by decide +kernel
def site : List Cond := [.classLink "java/lang/String" 10 "java/lang/String", .fieldLink "java/lang/String" 38 "java/lang/String" "COMPACT_STRINGS" "Z", .fieldLink "java/lang/String" 15 "java/lang/String" "coder" "B", .fieldLink "java/lang/String" 9 "java/lang/String" "value" "[B", LEq.tab] ++ staticW "java/lang/String" 541 LEq.yN
def tab : Cond := tabOf yN yB 3 (some .boolean) site
def P (x t : Addr) (V : Cell) (cd : Int32) (n : Nat) (f : Nat → Int32) (y t' : Addr) (V' : Cell) (cd' : Int32) (k : Nat) (g : Nat → Int32) (z : Int32) (args : Array Value) (s : State) : Prop := args = #[.ref x, .ref y] ∧ Txt x t V cd n f s ∧ Txt y t' V' cd' k g s ∧ StaticIs s "java/lang/String" "COMPACT_STRINGS" "Z" (.int z) ∧ ¬ z = 0
/-- equals(Object) of two Strings: whether the texts are the same -/
theorem law (l : Launch) (x t : Addr) (V : Cell) (cd : Int32) (n : Nat) (f : Nat → Int32) (y t' : Addr) (V' : Cell) (cd' : Int32) (k : Nat) (g : Nat → Int32) (z : Int32) : Law l yN 2 1 1 14 yB 3 (some .boolean) site (P x t V cd n f y t' V' cd' k g z) (Says01 (SameT n f k g)) [] 0 0 := by
  refine Law.of_walk (plainFor_of_name (by decide +kernel)) (by decide +kernel) (by decide +kernel) (by decide) (fun _ _ h => by rw [h.1]; rfl) (fun _ U U' hal hh h => ⟨h.1, h.2.1.mv hal hh, h.2.2.1.mv hal hh, h.2.2.2.1.there hal hh, h.2.2.2.2⟩) (fun r U U' V V' h1 hal h2 h => Says01.mv r U U' V V' h1 hal h2 h) ?_
  intro p e s m args below meth c s₁ X0 hexec hbytes hml hret hlk hnm hown hh0 W hP
  obtain ⟨rfl, hx, hy, s1, hz⟩ := hP
  have c1 : Steps p.tables e below (s₁.setTop (entryFrame m #[.ref x, .ref y] 3)) (s₁.setTop (mkF m 2 #[.val (.ref x), .val (.ref y), .unset] [.ref y, .ref x])) := Steps.trans (entry rfl) (by
    show Steps p.tables e below (s₁.setTop (mkF m 0 #[.val (.ref x), .val (.ref y), .unset] [])) _
    refine XS.aloadN X0.here hexec rfl (hb hbytes d0) rfl rfl ?_
    refine XS.aloadN X0.here hexec rfl (hb hbytes d1) rfl rfl ?_
    exact Steps.refl _)
  by_cases hxy : x = y
  · have c2 : Steps p.tables e below (s₁.setTop (entryFrame m #[.ref x, .ref y] 3)) (s₁.setTop (mkF m 6 #[.val (.ref x), .val (.ref y), .unset] [.int 1])) := c1.trans (by
      refine acmpNo X0.here hexec rfl (hb hbytes d2) rfl rfl rfl (by simp [acmp, hxy]) ?_
      refine iconstV X0.here hexec rfl 1 (hb hbytes d5) (by decide) ?_
      exact Steps.refl _)
    subst hxy
    have ec : cd = cd' := by
      obtain ⟨D, fd, a1, a2, a3⟩ := hx.2.2.1
      obtain ⟨D', fd', b1, b2, b3⟩ := hy.2.2.1
      cases a1.symm.trans b1
      obtain ⟨q1, q2, q3, q4⟩ := a2.1
      obtain ⟨r1, r2, r3, r4⟩ := b2.1
      cases q4.symm.trans r4
      cases a3.symm.trans b3; rfl
    have et : t = t' := by
      obtain ⟨D, fd, a1, a2, a3⟩ := hx.2.1
      obtain ⟨D', fd', b1, b2, b3⟩ := hy.2.1
      cases a1.symm.trans b1
      obtain ⟨q1, q2, q3, q4⟩ := a2.1
      obtain ⟨r1, r2, r3, r4⟩ := b2.1
      cases q4.symm.trans r4
      cases a3.symm.trans b3; rfl
    subst ec et
    have ev : V = V' := by cases hx.2.2.2.1.1.symm.trans hy.2.2.2.1.1; rfl
    subst ev
    have hs : SameT n f k g := (Cod.eqv hx.2.2.2.2.1 hy.2.2.2.2.1 hx.2.2.2.2.2 hy.2.2.2.2.2).mp ⟨rfl, fun _ _ => rfl⟩
    exact ⟨s₁, some (.int 1), _, _, _, X0, rfl, rfl, rfl, (fun h => by cases h), ⟨1, rfl, hh0, Or.inl ⟨rfl, hs⟩⟩, fun fs hl => c2.trans (X0.ireturnOut hexec hret rfl (Or.inr (Or.inl rfl)) (hb hbytes d6) hl)⟩
  · have c2 : Steps p.tables e below (s₁.setTop (entryFrame m #[.ref x, .ref y] 3)) (s₁.setTop (mkF m 8 #[.val (.ref x), .val (.ref y), .unset] [.ref y])) := c1.trans (by
      refine acmpYes X0.here hexec rfl (pc0 := 2) rfl (hb hbytes d2) rfl rfl rfl (by simp [acmp, hxy]) (by decide) rfl ?_
      refine XS.aloadN X0.here hexec rfl (hb hbytes d7) rfl rfl ?_
      exact Steps.refl _)
    obtain ⟨T3, X3, q3, st3⟩ := cinst X0 hexec hown (wk W (.classLink "java/lang/String" 10 "java/lang/String")) (hy.mv X0.warmed.alike hh0).1 (g := (mkF m 8 #[.val (.ref x), .val (.ref y), .unset] [.ref y])) rfl (rest := []) rfl (hb hbytes d8)
    have hh3 := q3.trans hh0
    have c4 : Steps p.tables e below (s₁.setTop (entryFrame m #[.ref x, .ref y] 3)) (T3.setTop (mkF m 15 #[.val (.ref x), .val (.ref y), .unset] [.ref y])) := (c2.trans (st3 _ (Steps.refl _))).trans (by
      refine XS.ifNo X3.here hexec rfl (hb hbytes d11) rfl (i0_eq_f (by decide)) ?_
      refine XS.aloadN X3.here hexec rfl (hb hbytes d14) rfl rfl ?_
      exact Steps.refl _)
    obtain ⟨T5, X5, q5, st5⟩ := cself X3 hexec hown (wk W (.classLink "java/lang/String" 10 "java/lang/String")) (hy.mv X3.warmed.alike hh3).1 (g := (mkF m 15 #[.val (.ref x), .val (.ref y), .unset] [.ref y])) rfl (rest := []) rfl (hb hbytes d15)
    have hh5 := q5.trans hh3
    have c6 : Steps p.tables e below (s₁.setTop (entryFrame m #[.ref x, .ref y] 3)) (T5.setTop (mkF m 19 #[.val (.ref x), .val (.ref y), .val (.ref y)] [])) := (c4.trans (st5 _ (Steps.refl _))).trans (by
      refine XS.astoreN X5.here hexec rfl (hb hbytes d18) rfl rfl rfl ?_
      exact Steps.refl _)
    obtain ⟨T7, X7, q7, st7⟩ := X5.sget hexec hown (wk W (.fieldLink "java/lang/String" 38 "java/lang/String" "COMPACT_STRINGS" "Z")) s1 (fun _ _ h => by rw [hh5]; exact h) (g := (mkF m 19 #[.val (.ref x), .val (.ref y), .val (.ref y)] [])) rfl (hb hbytes d19)
    have hh7 := q7.trans hh5
    have c8 : Steps p.tables e below (s₁.setTop (entryFrame m #[.ref x, .ref y] 3)) (T7.setTop (mkF m 26 #[.val (.ref x), .val (.ref y), .val (.ref y)] [.ref x])) := (c6.trans (st7 _ (Steps.refl _))).trans (by
      refine XS.ifNo X7.here hexec rfl (hb hbytes d22) rfl (i0_eq_f hz) ?_
      refine XS.aloadN X7.here hexec rfl (hb hbytes d25) rfl rfl ?_
      exact Steps.refl _)
    obtain ⟨T9, X9, q9, st9⟩ := X7.hget hexec hown (wk W (.fieldLink "java/lang/String" 15 "java/lang/String" "coder" "B")) (hx.mv X7.warmed.alike hh7).2.2.1 (g := (mkF m 26 #[.val (.ref x), .val (.ref y), .val (.ref y)] [.ref x])) rfl (rest := []) rfl (hb hbytes d26)
    have hh9 := q9.trans hh7
    have c10 : Steps p.tables e below (s₁.setTop (entryFrame m #[.ref x, .ref y] 3)) (T9.setTop (mkF m 30 #[.val (.ref x), .val (.ref y), .val (.ref y)] [.ref y, .int cd])) := (c8.trans (st9 _ (Steps.refl _))).trans (by
      refine XS.aloadN X9.here hexec rfl (hb hbytes d29) rfl rfl ?_
      exact Steps.refl _)
    obtain ⟨T11, X11, q11, st11⟩ := X9.hget hexec hown (wk W (.fieldLink "java/lang/String" 15 "java/lang/String" "coder" "B")) (hy.mv X9.warmed.alike hh9).2.2.1 (g := (mkF m 30 #[.val (.ref x), .val (.ref y), .val (.ref y)] [.ref y, .int cd])) rfl (rest := [.int cd]) rfl (hb hbytes d30)
    have hh11 := q11.trans hh9
    have c12 : Steps p.tables e below (s₁.setTop (entryFrame m #[.ref x, .ref y] 3)) (T11.setTop (mkF m 33 #[.val (.ref x), .val (.ref y), .val (.ref y)] [.int cd', .int cd])) := c10.trans (st11 _ (Steps.refl _))
    by_cases hcd : cd = cd'
    · subst hcd
      have c13 : Steps p.tables e below (s₁.setTop (entryFrame m #[.ref x, .ref y] 3)) (T11.setTop (mkF m 37 #[.val (.ref x), .val (.ref y), .val (.ref y)] [.ref x])) := c12.trans (by
        refine XS.icmpNo X11.here hexec rfl (hb hbytes d33) rfl (ii_ne_f rfl) ?_
        refine XS.aloadN X11.here hexec rfl (hb hbytes d36) rfl rfl ?_
        exact Steps.refl _)
      obtain ⟨T14, X14, q14, st14⟩ := X11.hget hexec hown (wk W (.fieldLink "java/lang/String" 9 "java/lang/String" "value" "[B")) (hx.mv X11.warmed.alike hh11).2.1 (g := (mkF m 37 #[.val (.ref x), .val (.ref y), .val (.ref y)] [.ref x])) rfl (rest := []) rfl (hb hbytes d37)
      have hh14 := q14.trans hh11
      have c15 : Steps p.tables e below (s₁.setTop (entryFrame m #[.ref x, .ref y] 3)) (T14.setTop (mkF m 41 #[.val (.ref x), .val (.ref y), .val (.ref y)] [.ref y, .ref t])) := (c13.trans (st14 _ (Steps.refl _))).trans (by
        refine XS.aloadN X14.here hexec rfl (hb hbytes d40) rfl rfl ?_
        exact Steps.refl _)
      obtain ⟨T16, X16, q16, st16⟩ := X14.hget hexec hown (wk W (.fieldLink "java/lang/String" 9 "java/lang/String" "value" "[B")) (hy.mv X14.warmed.alike hh14).2.1 (g := (mkF m 41 #[.val (.ref x), .val (.ref y), .val (.ref y)] [.ref y, .ref t])) rfl (rest := [.ref t]) rfl (hb hbytes d41)
      have hh16 := q16.trans hh14
      have c17 : Steps p.tables e below (s₁.setTop (entryFrame m #[.ref x, .ref y] 3)) (T16.setTop (mkF m 44 #[.val (.ref x), .val (.ref y), .val (.ref y)] [.ref t', .ref t])) := c15.trans (st16 _ (Steps.refl _))
      obtain ⟨v18, T18, X18, E18, g18⟩ := X16.callS hexec (LEq.law l t V t' V') hown (wks W (staticW "java/lang/String" 541 LEq.yN)) (wk W LEq.tab) (W := 0) (Nat.le_of_ble_eq_true rfl) (Nat.le_of_ble_eq_true rfl) (Nat.le_refl _) (Nat.le_refl _) (g := (mkF m 44 #[.val (.ref x), .val (.ref y), .val (.ref y)] [.ref t', .ref t])) rfl (by rw [hml]; rfl) c17 (argsL := [.ref t, .ref t']) (rest := []) rfl rfl (by show 2 * 0 + 0 ≤ _; decide) (hb hbytes d44) (⟨rfl, hx.2.2.2.1.mv X16.warmed.alike hh16, hx.2.2.2.2.1.ty, hy.2.2.2.1.mv X16.warmed.alike hh16, hy.2.2.2.2.1.ty⟩)
      obtain ⟨v, rfl, q18, hv⟩ := E18
      have iff := Cod.eqv hx.2.2.2.2.1 hy.2.2.2.2.1 hx.2.2.2.2.2 hy.2.2.2.2.2
      rcases hv with ⟨rfl, he⟩ | ⟨rfl, he⟩
      · have c19 : Steps p.tables e below (s₁.setTop (entryFrame m #[.ref x, .ref y] 3)) (T18.setTop (mkF m 55 #[.val (.ref x), .val (.ref y), .val (.ref y)] [.int 1])) := Steps.trans g18 (by
          refine XS.ifNo X18.here hexec rfl (hb hbytes d47) rfl (i0_eq_f (by decide)) ?_
          refine iconstV X18.here hexec rfl 1 (hb hbytes d50) (by decide) ?_
          refine XS.goto X18.here hexec rfl (pc0 := 51) rfl (hb hbytes d51) (by decide) rfl ?_
          exact Steps.refl _)
        exact ⟨T18, some (.int 1), _, _, _, X18, rfl, rfl, rfl, (fun h => by cases h), ⟨1, rfl, q18.trans hh16, Or.inl ⟨rfl, iff.mp he⟩⟩, fun fs hl => c19.trans (X18.ireturnOut hexec hret rfl (Or.inr (Or.inl rfl)) (hb hbytes d55) hl)⟩
      · have c19 : Steps p.tables e below (s₁.setTop (entryFrame m #[.ref x, .ref y] 3)) (T18.setTop (mkF m 55 #[.val (.ref x), .val (.ref y), .val (.ref y)] [.int 0])) := Steps.trans g18 (by
          refine XS.ifYes X18.here hexec rfl (pc0 := 47) rfl (hb hbytes d47) rfl (i0_eq_t rfl) (by decide) rfl ?_
          refine iconstV X18.here hexec rfl 0 (hb hbytes d54) (by decide) ?_
          exact Steps.refl _)
        exact ⟨T18, some (.int 0), _, _, _, X18, rfl, rfl, rfl, (fun h => by cases h), ⟨0, rfl, q18.trans hh16, Or.inr ⟨rfl, fun q => he (iff.mpr q)⟩⟩, fun fs hl => c19.trans (X18.ireturnOut hexec hret rfl (Or.inr (Or.inl rfl)) (hb hbytes d55) hl)⟩
    · have c13 : Steps p.tables e below (s₁.setTop (entryFrame m #[.ref x, .ref y] 3)) (T11.setTop (mkF m 55 #[.val (.ref x), .val (.ref y), .val (.ref y)] [.int 0])) := c12.trans (by
        refine XS.icmpYes X11.here hexec rfl (pc0 := 33) rfl (hb hbytes d33) rfl (ii_ne_t hcd) (by decide) rfl ?_
        refine iconstV X11.here hexec rfl 0 (hb hbytes d54) (by decide) ?_
        exact Steps.refl _)
      exact ⟨T11, some (.int 0), _, _, _, X11, rfl, rfl, rfl, (fun h => by cases h), ⟨0, rfl, hh11, Or.inr ⟨rfl, Cod.dif hx.2.2.2.2.1 hy.2.2.2.2.1 hcd⟩⟩, fun fs hl => c13.trans (X11.ireturnOut hexec hret rfl (Or.inr (Or.inl rfl)) (hb hbytes d55) hl)⟩
theorem pays {l : Launch} {R : Room} {p : Program} {e : Env} {below : List Frame} {s : State} {sargs : Array Value} {len W : Nat} (x t : Addr) (V : Cell) (cd : Int32) (n : Nat) (f : Nat → Int32) (y t' : Addr) (V' : Cell) (cd' : Int32) (k : Nat) (g : Nat → Int32) (z : Int32) (htab : tab.before sargs s = true) (hfr : 2 ≤ R.frames) (hlo : W + 28 ≤ R.locals) :
    Back l R p e below s sargs yN len W (fun A₁ a₁ => A₁.cells + 0 ≤ R.cells ∧ A₁.slots + 0 ≤ R.slots ∧ P x t V cd n f y t' V' cd' k g z a₁ A₁.U) (fun A₁ _ v₁ B₁ => Says01 (SameT n f k g) v₁ A₁.U B₁.U ∧ B₁.locs = A₁.locs ++ [] ∧ B₁.cells = A₁.cells + 0 ∧ B₁.slots = A₁.slots + 0) :=
  (law l x t V cd n f y t' V' cd' k g z).pays htab hfr (by omega)
end SEq
end StrChars
namespace StrChars.Road
open Jvm Sem ClassFile Op Lib Jvm.Stand Jvm.Free Jvm.Free.XT
open Jvm.Lib.Cold (StaticIs)
/-- the words of String.equals(Object) -/
abbrev wordsEq : List Jvm.Cond := [.code SEq.yN SEq.yB 3 (some .boolean), .initialized ST, .classLink ST 10 ST, .fieldLink ST 38 ST "COMPACT_STRINGS" "Z", .fieldLink ST 15 ST "coder" "B", .fieldLink ST 9 ST "value" "[B", .methodLink ST 541 LEq.yN, .static LEq.yN, .code LEq.yN LEq.yB 3 (some .boolean), .initialized "java/lang/StringLatin1"]
theorem tabEq_of {a : Array Value} {s : State} (h : ∀ w ∈ wordsEq, w.before a s = true) : SEq.tab.before a s = true := by
  have hl : LEq.tab.before a s = true := unparts (wk h (.code LEq.yN LEq.yB 3 (some .boolean))) (wks h (.initialized LEq.yN.cls :: LEq.site))
  have q := consq hl h
  exact unparts (wk q (.code SEq.yN SEq.yB 3 (some .boolean))) (wks q (.initialized SEq.yN.cls :: SEq.site))
theorem movedEq {Z s : State} {a0 args : Array Value} (hZ : Z.Warmed39 s.vm) (hw : ∀ d ∈ wordsEq, d.before a0 Z = true) : ∀ d ∈ wordsEq, d.before args s = true := fun d hd => by
  have t : ∀ d ∈ wordsEq, (d.onTables && d.keepsFace) = true := by decide +kernel
  exact RoadKit.mv hZ (hw d hd) (t d hd)
/-- the road's facts of a String, as the laws ask it -/
theorem txt_of {Z U : State} {a0 : Array Value} {kI : Nat} (wi : (Jvm.Cond.instantiable ST kI).before a0 Z = true) (al : Z.vm.Alike U.vm) {x t : Addr} {kb : ClassId} {cs : List Int32} {cd N2 : Int32} {vs : List Value} (E : RoadKit.Exa Z U.heap x ST) (V : RoadKit.Fld Z U.heap x ST "value" "[B" (.ref t)) (C : RoadKit.Fld Z U.heap x ST "coder" "B" (.int cd)) (K : RoadKit.Arv Z U.heap t kb .byte N2 vs (.int 0)) (hc : CodA cs cd N2 vs) (hb : ∀ c ∈ cs, ¬ c < 0 ∧ ¬ (65535 : Int32) < c) (l2 : cs.length ≤ 4000) :
    ∃ A, Txt x t A cd cs.length (fun j => cs.getD j 0) U := by
  obtain ⟨A, K1, K2, K3, K4, K5, K6⟩ := K
  have hcod := hc.cod (by omega) K3 K5
  obtain ⟨D, fV, fC, hB, F1, F2, g1, g2, -, -⟩ := strObj wi al E V C
  exact ⟨A, ⟨_, hB.2.2.1, D, hB.1, rfl, by cases q : D.vm <;> first | rfl | exact absurd q (hB.2.1.2 _)⟩, Has.of hB F1 g1, Has.of hB F2 g2, ⟨K1.1, State.isArrayOf_alike al K1.2.1, K1.2.2, by rcases hcod with ⟨-, q, -⟩ | ⟨-, q, -⟩ <;> omega⟩, hcod, fun j hj => by
    have e : cs.getD j 0 = cs[j] := by simp [List.getD_eq_getElem?_getD, hj]
    show ¬ cs.getD j 0 < 0 ∧ ¬ 65535 < cs.getD j 0
    rw [e]; exact hb _ (List.getElem_mem _)⟩
theorem same_list (cs ds : List Int32) : SameT cs.length (fun j => cs.getD j 0) ds.length (fun j => ds.getD j 0) ↔ cs = ds := by
  constructor
  · rintro ⟨e, q⟩
    refine List.ext_getElem e fun j h1 h2 => ?_
    have := q j h1
    simpa [List.getD_eq_getElem?_getD, h1, h2] using this
  · rintro rfl
    exact ⟨rfl, fun _ _ => rfl⟩
/-- **equals(Object) OF TWO SUCH STRINGS**: 1 just where the chars are the same -/
theorem eqW {p : Program} {l : Launch} {e : Env} {R : Room} {s : State} {args : Array Value} {below : List Frame} {len W : Nat} {Z : State} {a0 : Array Value} {h : Heap} (hZ : Z.Warmed39 s.vm) (hw : ∀ d ∈ wordsEq, d.before a0 Z = true) {kI : Nat} (wi : (Jvm.Cond.instantiable ST kI).before a0 Z = true)
    {x t : Addr} {kb : ClassId} {cs : List Int32} {cd N2 : Int32} {vs : List Value} (E : RoadKit.Exa Z h x ST) (V : RoadKit.Fld Z h x ST "value" "[B" (.ref t)) (C : RoadKit.Fld Z h x ST "coder" "B" (.int cd)) (K : RoadKit.Arv Z h t kb .byte N2 vs (.int 0)) (hc : CodA cs cd N2 vs) (hb : ∀ c ∈ cs, ¬ c < 0 ∧ ¬ (65535 : Int32) < c) (l2 : cs.length ≤ 4000)
    {y t' : Addr} {kb' : ClassId} {ds : List Int32} {cd' N2' : Int32} {vs' : List Value} (E' : RoadKit.Exa Z h y ST) (V' : RoadKit.Fld Z h y ST "value" "[B" (.ref t')) (C' : RoadKit.Fld Z h y ST "coder" "B" (.int cd')) (K' : RoadKit.Arv Z h t' kb' .byte N2' vs' (.int 0)) (hc' : CodA ds cd' N2' vs') (hb' : ∀ c ∈ ds, ¬ c < 0 ∧ ¬ (65535 : Int32) < c) (l2' : ds.length ≤ 4000)
    {z : Int32} (S : RoadKit.Sta Z h ST "COMPACT_STRINGS" "Z" (.int z)) (hz : ¬ z = 0) (hfr : 2 ≤ R.frames) (hlo : W + 28 ≤ R.locals) :
    Back l R p e below s args (⟨"java/lang/String", "equals", "(Ljava/lang/Object;)Z"⟩ : MethodName) len W (fun P a => a = #[.ref x, .ref y] ∧ P.U.heap = h ∧ P.cells + 0 ≤ R.cells ∧ P.slots + 0 ≤ R.slots)
      (fun P _ v B => ∃ L, (((v = some (.int 1) ∧ cs = ds) ∨ (v = some (.int 0) ∧ ¬ cs = ds)) ∧ L = [] ∧ B.U.heap = h) ∧ B.locs = P.locs ++ L ∧ B.cells = P.cells + 0 ∧ B.slots = P.slots + 0) := by
  intro m meth c P g ig mk a X hg hsize hdg hW hn hp'
  obtain ⟨rfl, rfl, r1, r2⟩ := hp'
  have al : Z.vm.Alike P.U.vm := hZ.alike.trans X.warmed.alike
  obtain ⟨A, hx⟩ := txt_of wi al E V C K hc hb l2
  obtain ⟨A', hy⟩ := txt_of wi al E' V' C' K' hc' hb' l2'
  obtain ⟨v, B, X', ⟨⟨w, hv, hh, hq⟩, hl, hk, hs⟩, st⟩ := SEq.pays x t A cd cs.length (fun j => cs.getD j 0) y t' A' cd' ds.length (fun j => ds.getD j 0) z (tabEq_of (movedEq hZ hw)) hfr hlo m meth c P g ig mk _ X hg hsize hdg hW hn ⟨r1, r2, rfl, hx, hy, sta_is al S, hz⟩
  refine ⟨v, B, X', ⟨[], ⟨?_, rfl, hh⟩, hl, hk, hs⟩, st⟩
  rcases hq with ⟨rfl, q⟩ | ⟨rfl, q⟩
  · exact Or.inl ⟨hv, (same_list cs ds).mp q⟩
  · exact Or.inr ⟨hv, fun e => q ((same_list cs ds).mpr e)⟩
end StrChars.Road
namespace StrChars.Road
open Jvm Sem ClassFile Op Lib Jvm.Stand Jvm.Free Jvm.Free.XT
open Jvm.Lib.Cold (StaticIs)
/-- what backV says of its String, as the contracts of this text ask it: cs's low bytes, coder 0 -/
theorem codOf {cs : List Int32} {n : Nat} (hn : cs.length = n) (hb : ∀ c ∈ cs, ¬ 255 < c) : CodA cs 0 (Int32.ofNat n) ((cs.map lo8).map Value.int) := Or.inl ⟨rfl, by rw [hn], by simp [List.map_map, Function.comp_def], hb⟩
end StrChars.Road
end Jvm.Pilot.@@N@@

namespace Jvm.Pilot.@@N@@
open Jvm Jvm.ClassFile Sem Op Lib Jvm.Free Jvm.Stand Jvm.LawKit Jvm.RoadKit Bundle Jvm.Pilot.@@N@@.Jvm.D
section OwnHead
variable {p : Program} {l : Launch} {e : Env} {R : Room} {s : State} {m : MethodId} {args : Array Value} {below : List Frame} {meth : Method} {c : Code} {T T' : State} {locs : List Loc} {cells slots : Nat} {Q : Option Value → Heap → List Loc → Prop} {k n : Nat} {g : JFrame}
/-- from here (the state T, the frame g on top) the call comes to its end, and the end is as Fin says -/
def own_E (p : Program) (e : Env) (below : List Frame) (Fin : Outcome → State → Prop) (T : State) (g : JFrame) : Prop :=
  ∃ s₂ o, Steps p.tables e below (T.setTop g) s₂ ∧ s₂.status = .running ∧ Ended s₂ below o ∧ Fin o s₂
/-- the end of a body that interns nothing: what it returns, the heap and the places written as Q says, within k cells and n slots -/
def own_Fin (s : State) (Q : Option Value → Heap → List Loc → Prop) (k n : Nat) (o : Outcome) (t : State) : Prop := ∃ v L, o = .returned v ∧ Q v t.heap L ∧ FrameEnd s o t L k n
theorem own_start {Fin : Outcome → State → Prop} (h : own_E p e below Fin T g) : ∃ s₂ o, Steps p.tables e below (T.setTop g) s₂ ∧ s₂.status = .running ∧ Ended s₂ below o ∧ Fin o s₂ := h
theorem own_from {Fin : Outcome → State → Prop} (g' : JFrame) (h : ∀ {t}, Steps p.tables e below (T.setTop g') t → Steps p.tables e below (T.setTop g) t) (w : own_E p e below Fin T g') : own_E p e below Fin T g := by
  obtain ⟨s₂, o, h1, r⟩ := w; exact ⟨s₂, o, h h1, r⟩
theorem own_to {Fin : Outcome → State → Prop} (g' : JFrame) (h : ∀ t, Steps p.tables e below (T'.setTop g') t → Steps p.tables e below (T.setTop g) t) (w : own_E p e below Fin T' g') : own_E p e below Fin T g := by
  obtain ⟨s₂, o, h1, r⟩ := w; exact ⟨s₂, o, h _ h1, r⟩
theorem own_via {Fin : Outcome → State → Prop} (g' : JFrame) (h : Steps p.tables e below (T.setTop g) (T'.setTop g')) (w : own_E p e below Fin T' g') : own_E p e below Fin T g := by
  obtain ⟨s₂, o, h1, r⟩ := w; exact ⟨s₂, o, h.trans h1, r⟩
theorem own_end {v : Option Value} {pc : Nat} {Ls : Array Slot} {st : List Value} (X : Stand p l e R s m args below meth c T locs cells slots) (hv : meth.sig.returnType = none → v = none) (hlk : meth.locks = false) (hk : cells ≤ k) (hn : slots ≤ n) (hQ : Q v T.heap locs)
    (hs : ∀ fs, (∀ (f : JFrame) (acts : List Action), f.method = m → f.locked = none → f.entered = [] → (doReturn e (T.setTop f) acts v).1 = T.setFrames fs) → Steps p.tables e below (T.setTop (mkF m pc Ls st)) (T.setFrames fs)) : own_E p e below (own_Fin s Q k n) T (mkF m pc Ls st) := by
  obtain ⟨fs, hr, hrun, hended, hW, hsame⟩ := X.leave (v := v) hv hlk
  exact ⟨_, _, hs fs hr, hrun, hended, _, _, rfl, hQ, ⟨_, rfl⟩, hW, hsame.mono hk hn⟩
theorem own_retN (X : Stand p l e R s m args below meth c T locs cells slots) (hx : p.tables.exec = Jvm.exec) {pc : Nat} {Ls : Array Slot} {z : Int32} {t : FieldType} {rest : List Value} (hret : meth.sig.returnType = some t) (ht : t = .boolean ∨ t = .byte ∨ t = .char ∨ t = .short) (hlk : meth.locks = false)
    (hd : decode c.code pc = .ok (.ireturn, 1)) (hk : cells ≤ k) (hn : slots ≤ n) (hQ : Q (some (.int (nar t z))) T.heap locs) : own_E p e below (own_Fin s Q k n) T (mkF m pc Ls (.int z :: rest)) :=
  own_end X (fun h => by rw [hret] at h; cases h) hlk hk hn hQ fun _ hr => retN X hx hret ht hd hr
theorem own_retI (X : Stand p l e R s m args below meth c T locs cells slots) (hx : p.tables.exec = Jvm.exec) {pc : Nat} {Ls : Array Slot} {z : Int32} {rest : List Value} (hret : meth.sig.returnType = some .int) (hlk : meth.locks = false)
    (hd : decode c.code pc = .ok (.ireturn, 1)) (hk : cells ≤ k) (hn : slots ≤ n) (hQ : Q (some (.int z)) T.heap locs) : own_E p e below (own_Fin s Q k n) T (mkF m pc Ls (.int z :: rest)) :=
  own_end X (fun h => by rw [hret] at h; cases h) hlk hk hn hQ fun _ hr => retOut X hx hret rfl (Or.inl ⟨rfl, Or.inl rfl, _, rfl⟩) hd hr
theorem own_retJ (X : Stand p l e R s m args below meth c T locs cells slots) (hx : p.tables.exec = Jvm.exec) {pc : Nat} {Ls : Array Slot} {z : Int64} {rest : List Value} (hret : meth.sig.returnType = some .long) (hlk : meth.locks = false)
    (hd : decode c.code pc = .ok (.lreturn, 1)) (hk : cells ≤ k) (hn : slots ≤ n) (hQ : Q (some (.long z)) T.heap locs) : own_E p e below (own_Fin s Q k n) T (mkF m pc Ls (.long z :: rest)) :=
  own_end X (fun h => by rw [hret] at h; cases h) hlk hk hn hQ fun _ hr => retOut X hx hret rfl (Or.inr (Or.inl ⟨rfl, rfl, _, rfl⟩)) hd hr
theorem own_retA (X : Stand p l e R s m args below meth c T locs cells slots) (hx : p.tables.exec = Jvm.exec) {pc : Nat} {Ls : Array Slot} {w : Value} {t : FieldType} {rest : List Value} (hret : meth.sig.returnType = some t) (ht : t.isReference = true) (hlk : meth.locks = false)
    (hd : decode c.code pc = .ok (.areturn, 1)) (hw : w.isRef = true) (hk : cells ≤ k) (hn : slots ≤ n) (hQ : Q (some w) T.heap locs) : own_E p e below (own_Fin s Q k n) T (mkF m pc Ls (w :: rest)) :=
  own_end X (fun h => by rw [hret] at h; cases h) hlk hk hn hQ fun _ hr => retOut X hx hret (by cases t <;> first | rfl | cases ht) (Or.inr (Or.inr (Or.inr (Or.inr ⟨rfl, ht, hw⟩)))) hd hr
theorem own_ret0 (X : Stand p l e R s m args below meth c T locs cells slots) (hx : p.tables.exec = Jvm.exec) {pc : Nat} {Ls : Array Slot} (hret : meth.sig.returnType = none) (hlk : meth.locks = false)
    (hd : decode c.code pc = .ok (.return_, 1)) (hk : cells ≤ k) (hn : slots ≤ n) (hQ : Q none T.heap locs) : own_E p e below (own_Fin s Q k n) T (mkF m pc Ls []) :=
  own_end X (fun _ => rfl) hlk hk hn hQ fun _ hr => X.returnOut hx hret hd hr
theorem own_b8 (y : Int32) : y.toInt8.toInt32.toInt8.toInt32 = y.toInt8.toInt32 := by
  have a := c_i2b y
  have b := c_i2b y.toInt8.toInt32
  rw [← Int32.toInt_inj]; omega
theorem own_01 {C : Prop} {d : Int32} (h1 : C → d = (0 : Int32)) (h2 : ¬ C → d = (1 : Int32)) : d = 0 ∨ d = 1 := (Classical.em C).elim (fun q => Or.inl (h1 q)) (fun q => Or.inr (h2 q))
theorem own_irr (x : Int32) : ¬ x < x := Int32.lt_irrefl
end OwnHead
section OwnWords
variable {args : Array Value} {s : State} {t : Term} {C n d : String} {a : Addr}
theorem own_fldI {k : Int32} (ht : t.eval args s none [] s = some (.ref a)) (h : (Jvm.Cond.eq (Term.field t C n d) (Term.int k)).value args s none s [] = some true) : Fld s s.heap a C n d (.int k) := by
  obtain ⟨x, y, e1, e2, -, k2⟩ := cmp_v (Or.inl h)
  have q : y = .int k := Option.some.inj (e2.symm.trans (Term.int_eval k))
  subst q
  obtain ⟨z, rfl⟩ := k2
  have q := gotT (Cond.eq_ints e1 (Term.int_eval k)) h
  subst q
  exact Fld.start ((fld_at ht).symm.trans e1)
theorem own_fldJ {k : Int64} (ht : t.eval args s none [] s = some (.ref a)) (h : (Jvm.Cond.eq (Term.field t C n d) (Term.long k)).value args s none s [] = some true) : Fld s s.heap a C n d (.long k) := by
  obtain ⟨x, y, e1, e2, -, k2⟩ := cmp_v (Or.inl h)
  have q : y = .long k := Option.some.inj (e2.symm.trans (long_at k))
  subst q
  obtain ⟨z, rfl⟩ := k2
  have q := gotT (eq_L e1 (long_at k)) h
  subst q
  exact Fld.start ((fld_at ht).symm.trans e1)
end OwnWords
section OwnWide
variable {p : Program} {l : Launch} {e : Env} {R : Room} {s : State} {m : MethodId} {args : Array Value} {below : List Frame} {meth : Method} {c : Code} {T T' : State} {locs : List Loc} {cells slots : Nat} {Q : Option Value → Heap → List Loc → Prop} {k n : Nat} {g : JFrame} {vm₁ : Vm} {k1 : Nat}
/-- the end of a law that may have interned a String constant -/
def own_FinW (s : State) (Q : Option Value → Heap → List Loc → Prop) (k n : Nat) (o : Outcome) (t : State) : Prop := ∃ v L, o = .returned v ∧ Q v t.heap L ∧ ReturnedEndW s o t L k n
theorem own_endW {v : Option Value} {pc : Nat} {Ls : Array Slot} {st : List Value} (X : Stand p l e R (s.setVm vm₁) m args below meth c T locs cells slots) (hS : s.Since vm₁ k1) (hk1 : k1 ≤ T.heap.size) (hv : meth.sig.returnType = none → v = none) (hlk : meth.locks = false) (hk : cells ≤ k) (hn : slots ≤ n) (hQ : Q v T.heap locs)
    (hs : ∀ fs, (∀ (f : JFrame) (acts : List Action), f.method = m → f.locked = none → f.entered = [] → (doReturn e (T.setTop f) acts v).1 = T.setFrames fs) → Steps p.tables e below (T.setTop (mkF m pc Ls st)) (T.setFrames fs)) : own_E p e below (own_FinW s Q k n) T (mkF m pc Ls st) := by
  obtain ⟨fs, hr, hrun, hended, h1, h2, h3, h4⟩ := X.leaveW hS hk1 (v := v) hv hlk
  exact ⟨_, _, hs fs hr, hrun, hended, _, _, rfl, hQ, h1, h2, h3, h4.mono hk hn⟩
theorem own_retNW (X : Stand p l e R (s.setVm vm₁) m args below meth c T locs cells slots) (hS : s.Since vm₁ k1) (hk1 : k1 ≤ T.heap.size) (hx : p.tables.exec = Jvm.exec) {pc : Nat} {Ls : Array Slot} {z : Int32} {t : FieldType} {rest : List Value} (hret : meth.sig.returnType = some t) (ht : t = .boolean ∨ t = .byte ∨ t = .char ∨ t = .short) (hlk : meth.locks = false)
    (hd : decode c.code pc = .ok (.ireturn, 1)) (hk : cells ≤ k) (hn : slots ≤ n) (hQ : Q (some (.int (nar t z))) T.heap locs) : own_E p e below (own_FinW s Q k n) T (mkF m pc Ls (.int z :: rest)) :=
  own_endW X hS hk1 (fun h => by rw [hret] at h; cases h) hlk hk hn hQ fun _ hr => retN X hx hret ht hd hr
end OwnWide
section OwnStr
variable {Z : State} {h h' : Heap} {x t a : Addr} {kb : ClassId} {cs : List Int32} {sl : Nat} {v : Value} {ws : List Addr}
/-- a String at x, its bytes at t, that spells cs (each 0 to 255) -/
def own_Str (Z : State) (h : Heap) (x t : Addr) (kb : ClassId) (cs : List Int32) : Prop :=
  Exa Z h x "java/lang/String" ∧ Fld Z h x "java/lang/String" "value" "[B" (.ref t) ∧ Fld Z h x "java/lang/String" "coder" "B" (.int 0) ∧ Arv Z h t kb .byte (Int32.ofNat cs.length) ((cs.map (fun c => c.toInt8.toInt32)).map Value.int) (.int 0) ∧ (∀ c ∈ cs, ¬ c < 0 ∧ ¬ (255 : Int32) < c) ∧ cs.length ≤ 4000
theorem own_Str.lt (S : own_Str Z h x t kb cs) : x < h.size := S.1.lt
theorem own_Str.ltT (S : own_Str Z h x t kb cs) : t < h.size := S.2.2.2.1.lt
theorem own_Str.ext (S : own_Str Z h x t kb cs) (E : Ext h h') : own_Str Z h' x t kb cs := ⟨S.1.ext E, S.2.1.ext E, S.2.2.1.ext E, S.2.2.2.1.ext E, S.2.2.2.2⟩
theorem own_Str.wr (S : own_Str Z h x t kb cs) (W : Wr h h' a sl v) (n1 : x ≠ a) (n2 : t ≠ a) : own_Str Z h' x t kb cs := ⟨S.1.wr W, S.2.1.other W (Or.inl n1), S.2.2.1.other W (Or.inl n1), S.2.2.2.1.other W n2, S.2.2.2.2⟩
theorem own_Str.keep (S : own_Str Z h x t kb cs) (K : Keep h h' ws) (n1 : x ∉ ws) (n2 : t ∉ ws) : own_Str Z h' x t kb cs := ⟨S.1.keep K, S.2.1.keep K n1, S.2.2.1.keep K n1, S.2.2.2.1.keep K n2, S.2.2.2.2⟩
theorem own_up {cs : List Int32} (h : ∀ c ∈ cs, ¬ c < 0 ∧ ¬ (255 : Int32) < c) : ∀ c ∈ cs, ¬ c < 0 ∧ ¬ (65535 : Int32) < c := fun c hc => ⟨(h c hc).1, fun q => (h c hc).2 (by rw [Int32.lt_iff_toInt_lt] at q ⊢; have e1 : (65535 : Int32).toInt = 65535 := rfl; have e2 : (255 : Int32).toInt = 255 := rfl; omega)⟩
/-- a char of 0 to 255 stays what it is when it is stored as a char -/
def own_C8 (c : Int32) : Prop := ¬ c < 0 ∧ ¬ (255 : Int32) < c
theorem own_C8.rng {c : Int32} (h : own_C8 c) : 0 ≤ c.toInt ∧ c.toInt ≤ 255 := by
  have h1 := h.1; have h2 := h.2
  rw [Int32.lt_iff_toInt_lt] at h1 h2
  have e1 : (0 : Int32).toInt = 0 := rfl
  have e2 : (255 : Int32).toInt = 255 := rfl
  omega
theorem own_i2c8 {c : Int32} (h : own_C8 c) : c.toUInt32.toUInt16.toUInt32.toInt32 = c := by
  have q := h.rng
  have r := c_i2c c
  rw [← Int32.toInt_inj]; omega
theorem own_nar8 {c : Int32} (h : own_C8 c) : nar .char c = c := own_i2c8 h
theorem own_mask8 (x : Int32) : own_C8 (x &&& (255 : Int32)) := by
  have e : (x &&& 255).toInt = x.toInt % (2 ^ 8 : Nat) := c_mask x 255 8 (by decide) (by decide)
  refine ⟨fun q => ?_, fun q => ?_⟩ <;> rw [Int32.lt_iff_toInt_lt, e] at q
  · have e1 : (0 : Int32).toInt = 0 := rfl
    omega
  · have e2 : (255 : Int32).toInt = 255 := rfl
    omega
theorem own_ch8 {x c : Int32} (h : (x &&& (255 : Int32)).toUInt32.toUInt16.toUInt32.toInt32 = c) : own_C8 c := by
  rw [own_i2c8 (own_mask8 x)] at h; subst h; exact own_mask8 x
theorem own_if8 {C : Prop} {c a b : Int32} (h1 : C → c = a) (h2 : ¬ C → c = b) (ha : own_C8 a) (hb : own_C8 b) : own_C8 c := by
  by_cases q : C
  · rw [h1 q]; exact ha
  · rw [h2 q]; exact hb
theorem own_all0 : ∀ c ∈ ([] : List Int32), ¬ c < 0 ∧ ¬ (255 : Int32) < c := fun _ q => nomatch q
theorem own_allS {c : Int32} {cs : List Int32} (h : own_C8 c) (r : ∀ c ∈ cs, ¬ c < 0 ∧ ¬ (255 : Int32) < c) : ∀ d ∈ c :: cs, ¬ d < 0 ∧ ¬ (255 : Int32) < d := fun d z => (List.mem_cons.mp z).elim (fun u => u ▸ h) (r d)
end OwnStr
/-- equals of two Strings, by what each spells -/
theorem own_backEq {p : Program} {l : Launch} {e : Env} {R : Room} {s : State} {args : Array Value} {below : List Frame} {len W : Nat} {Z : State} {a0 : Array Value} {h : Heap} (hZ : Z.Warmed39 s.vm) (hw : ∀ d ∈ StrChars.Road.wordsEq, d.before a0 Z = true) {kI : Nat} (wi : (Jvm.Cond.instantiable "java/lang/String" kI).before a0 Z = true)
    {x t : Addr} {kb : ClassId} {cs : List Int32} (A : own_Str Z h x t kb cs) {y t' : Addr} {kb' : ClassId} {ds : List Int32} (B : own_Str Z h y t' kb' ds) {z : Int32} (S : Sta Z h "java/lang/String" "COMPACT_STRINGS" "Z" (.int z)) (hz : ¬ z = 0) (hfr : 2 ≤ R.frames) (hlo : W + 28 ≤ R.locals) :
    Back l R p e below s args (⟨"java/lang/String", "equals", "(Ljava/lang/Object;)Z"⟩ : MethodName) len W (fun P a => a = #[.ref x, .ref y] ∧ P.U.heap = h ∧ P.cells + 0 ≤ R.cells ∧ P.slots + 0 ≤ R.slots)
      (fun P _ v B => ∃ L, (((v = some (.int 1) ∧ cs = ds) ∨ (v = some (.int 0) ∧ ¬ cs = ds)) ∧ L = [] ∧ B.U.heap = h) ∧ B.locs = P.locs ++ L ∧ B.cells = P.cells + 0 ∧ B.slots = P.slots + 0) := by
  obtain ⟨a1, a2, a3, a4, a5, a6⟩ := A
  obtain ⟨b1, b2, b3, b4, b5, b6⟩ := B
  exact StrChars.Road.eqW hZ hw wi a1 a2 a3 a4 (StrChars.Road.codOf rfl fun c hc => (a5 c hc).2) (own_up a5) a6 b1 b2 b3 b4 (StrChars.Road.codOf rfl fun c hc => (b5 c hc).2) (own_up b5) b6 S hz hfr hlo
theorem own_wV : ∀ d ∈ StrChars.Road.words, d ∈ tables_1 := by decide +kernel
theorem own_wEq : ∀ d ∈ StrChars.Road.wordsEq, d ∈ tables_1 := by decide +kernel
theorem own_wS : ∀ d ∈ Bundle.stringAtoms, d ∈ tables_1 := by decide +kernel
theorem own_d_jdk_42_method_66_0 : decode jdk_42_method_66_code 0 = .ok (.aload_n 0, 1) := by decide +kernel
theorem own_d_jdk_42_method_66_1 : decode jdk_42_method_66_code 1 = .ok (.aload_n 1, 1) := by decide +kernel
theorem own_d_jdk_42_method_66_2 : decode jdk_42_method_66_code 2 = .ok (.if_acmp .ne 5, 3) := by decide +kernel
theorem own_d_jdk_42_method_66_7 : decode jdk_42_method_66_code 7 = .ok (.aload_n 1, 1) := by decide +kernel
theorem own_d_jdk_42_method_66_8 : decode jdk_42_method_66_code 8 = .ok (.instanceof 10, 3) := by decide +kernel
theorem own_d_jdk_42_method_66_11 : decode jdk_42_method_66_code 11 = .ok (.ifCond .eq 43, 3) := by decide +kernel
theorem own_d_jdk_42_method_66_54 : decode jdk_42_method_66_code 54 = .ok (.iconst 0, 1) := by decide +kernel
theorem own_d_jdk_42_method_66_55 : decode jdk_42_method_66_code 55 = .ok (.ireturn, 1) := by decide +kernel
theorem own_d_prog_14_method_1_0 : decode prog_14_method_1_code 0 = .ok (.aload_n 0, 1) := by decide +kernel
theorem own_d_prog_14_method_1_1 : decode prog_14_method_1_code 1 = .ok (.invokespecial 1, 3) := by decide +kernel
theorem own_d_prog_14_method_1_4 : decode prog_14_method_1_code 4 = .ok (.aload_n 0, 1) := by decide +kernel
theorem own_d_prog_14_method_1_5 : decode prog_14_method_1_code 5 = .ok (.aload_n 1, 1) := by decide +kernel
theorem own_d_prog_14_method_1_6 : decode prog_14_method_1_code 6 = .ok (.putfield 7, 3) := by decide +kernel
theorem own_d_prog_14_method_1_9 : decode prog_14_method_1_code 9 = .ok (.aload_n 0, 1) := by decide +kernel
theorem own_d_prog_14_method_1_10 : decode prog_14_method_1_code 10 = .ok (.aload_n 2, 1) := by decide +kernel
theorem own_d_prog_14_method_1_11 : decode prog_14_method_1_code 11 = .ok (.putfield 13, 3) := by decide +kernel
theorem own_d_prog_14_method_1_14 : decode prog_14_method_1_code 14 = .ok (.aload_n 0, 1) := by decide +kernel
theorem own_d_prog_14_method_1_15 : decode prog_14_method_1_code 15 = .ok (.iload_n 3, 1) := by decide +kernel
theorem own_d_prog_14_method_1_16 : decode prog_14_method_1_code 16 = .ok (.putfield 16, 3) := by decide +kernel
theorem own_d_prog_14_method_1_19 : decode prog_14_method_1_code 19 = .ok (.return_, 1) := by decide +kernel
theorem own_d_prog_14_method_4_0 : decode prog_14_method_4_code 0 = .ok (.aload_n 1, 1) := by decide +kernel
theorem own_d_prog_14_method_4_1 : decode prog_14_method_4_code 1 = .ok (.aload_n 0, 1) := by decide +kernel
theorem own_d_prog_14_method_4_2 : decode prog_14_method_4_code 2 = .ok (.getfield 13, 3) := by decide +kernel
theorem own_d_prog_14_method_4_5 : decode prog_14_method_4_code 5 = .ok (.invokevirtual 20, 3) := by decide +kernel
theorem own_d_prog_14_method_4_8 : decode prog_14_method_4_code 8 = .ok (.ifCond .ne 7, 3) := by decide +kernel
theorem own_d_prog_14_method_4_11 : decode prog_14_method_4_code 11 = .ok (.iconst 1, 1) := by decide +kernel
theorem own_d_prog_14_method_4_12 : decode prog_14_method_4_code 12 = .ok (.goto 4, 3) := by decide +kernel
theorem own_d_prog_14_method_4_16 : decode prog_14_method_4_code 16 = .ok (.ireturn, 1) := by decide +kernel
theorem own_d_prog_14_method_4_15 : decode prog_14_method_4_code 15 = .ok (.iconst 0, 1) := by decide +kernel
theorem own_d_prog_14_method_5_0 : decode prog_14_method_5_code 0 = .ok (.aload_n 0, 1) := by decide +kernel
theorem own_d_prog_14_method_5_1 : decode prog_14_method_5_code 1 = .ok (.getfield 16, 3) := by decide +kernel
theorem own_d_prog_14_method_5_4 : decode prog_14_method_5_code 4 = .ok (.ifCond .ne 11, 3) := by decide +kernel
theorem own_d_prog_14_method_5_15 : decode prog_14_method_5_code 15 = .ok (.iconst 1, 1) := by decide +kernel
theorem own_d_prog_14_method_5_16 : decode prog_14_method_5_code 16 = .ok (.goto 4, 3) := by decide +kernel
theorem own_d_prog_14_method_5_20 : decode prog_14_method_5_code 20 = .ok (.ireturn, 1) := by decide +kernel
theorem own_d_prog_14_method_5_7 : decode prog_14_method_5_code 7 = .ok (.aload_n 0, 1) := by decide +kernel
theorem own_d_prog_14_method_5_8 : decode prog_14_method_5_code 8 = .ok (.aload_n 1, 1) := by decide +kernel
theorem own_d_prog_14_method_5_9 : decode prog_14_method_5_code 9 = .ok (.invokevirtual 26, 3) := by decide +kernel
theorem own_d_prog_14_method_5_12 : decode prog_14_method_5_code 12 = .ok (.ifCond .ne 7, 3) := by decide +kernel
theorem own_d_prog_14_method_5_19 : decode prog_14_method_5_code 19 = .ok (.iconst 0, 1) := by decide +kernel
theorem own_pd0 : parseMethodDescriptor "(Ljava/lang/Object;)Z" = some ⟨[(.object "java/lang/Object")], some .boolean⟩ := by decide +kernel
theorem own_pd1 : parseMethodDescriptor "(Ljava/lang/String;)Z" = some ⟨[(.object "java/lang/String")], some .boolean⟩ := by decide +kernel
theorem own_pd2 : parseMethodDescriptor "([C)V" = some ⟨[(.array .char)], none⟩ := by decide +kernel
theorem own_pd3 : parseMethodDescriptor "(Ljava/lang/String;Ljava/lang/String;Z)V" = some ⟨[(.object "java/lang/String"), (.object "java/lang/String"), .boolean], none⟩ := by decide +kernel
theorem own_pn0 : plainName "java/lang/String" = true := by first | (simp [plainName, overriddenIn]; done) | decide +kernel
theorem own_pn1 : plainName "com/example/saldera/saldera/coupon/Cashier" = true := by first | (simp [plainName, overriddenIn]; done) | decide +kernel
theorem own_pn2 : plainName "com/example/saldera/saldera/coupon/CashierMayCollectPinLaw" = true := by first | (simp [plainName, overriddenIn]; done) | decide +kernel
theorem own_ef_EN (m : MethodId) (x0 : Addr) : entryFrame m #[(.ref x0), .null] 3 = mkF m 0 #[.val (.ref x0), .val .null, .unset] [] := by first | (simp [entryFrame, mkF, argsToLocals, Value.category]; done) | rfl
theorem own_ef_CN (m : MethodId) (x0 : Addr) (x1 : Addr) (x3 : Int32) : entryFrame m #[(.ref x0), (.ref x1), .null, (.int x3)] 4 = mkF m 0 #[.val (.ref x0), .val (.ref x1), .val .null, .val (.int x3)] [] := by first | (simp [entryFrame, mkF, argsToLocals, Value.category]; done) | rfl
theorem own_ef_CB (m : MethodId) (x0 : Addr) (x1 : Addr) (x2 : Addr) (x3 : Int32) : entryFrame m #[(.ref x0), (.ref x1), (.ref x2), (.int x3)] 4 = mkF m 0 #[.val (.ref x0), .val (.ref x1), .val (.ref x2), .val (.int x3)] [] := by first | (simp [entryFrame, mkF, argsToLocals, Value.category]; done) | rfl
theorem own_ef_ON (m : MethodId) (x0 : Addr) (x1 : Addr) : entryFrame m #[(.ref x0), (.ref x1)] 2 = mkF m 0 #[.val (.ref x0), .val (.ref x1)] [] := by first | (simp [entryFrame, mkF, argsToLocals, Value.category]; done) | rfl
theorem own_ef_OB (m : MethodId) (x0 : Addr) (x1 : Addr) : entryFrame m #[(.ref x0), (.ref x1)] 2 = mkF m 0 #[.val (.ref x0), .val (.ref x1)] [] := by first | (simp [entryFrame, mkF, argsToLocals, Value.category]; done) | rfl
theorem own_ef_MX (m : MethodId) (x0 : Addr) (x1 : Addr) : entryFrame m #[(.ref x0), (.ref x1)] 2 = mkF m 0 #[.val (.ref x0), .val (.ref x1)] [] := by first | (simp [entryFrame, mkF, argsToLocals, Value.category]; done) | rfl
theorem own_ef_MN (m : MethodId) (x0 : Addr) (x1 : Addr) : entryFrame m #[(.ref x0), (.ref x1)] 2 = mkF m 0 #[.val (.ref x0), .val (.ref x1)] [] := by first | (simp [entryFrame, mkF, argsToLocals, Value.category]; done) | rfl
theorem own_ef_MB (m : MethodId) (x0 : Addr) (x1 : Addr) : entryFrame m #[(.ref x0), (.ref x1)] 2 = mkF m 0 #[.val (.ref x0), .val (.ref x1)] [] := by first | (simp [entryFrame, mkF, argsToLocals, Value.category]; done) | rfl
theorem own_ef_0 (m : MethodId) (x0 : Int32) (x1 : Int32) (x2 : Int32) : entryFrame m #[(.int x0), (.int x1), (.int x2)] maxLocals = mkF m 0 #[.val (.int x0), .val (.int x1), .val (.int x2), .unset, .unset, .unset, .unset, .unset, .unset, .unset, .unset, .unset, .unset, .unset, .unset, .unset, .unset, .unset, .unset] [] := by first | (simp [entryFrame, mkF, argsToLocals, Value.category, maxLocals]; done) | rfl
def own_QEN (Z : State) (co : Addr) (h0 : Heap) (n0 : Nat) (v : Option Value) (h : Heap) (L : List Loc) : Prop := v = some (.int 0) ∧ Fr n0 L ∧ h = h0
set_option maxRecDepth 65536 in
set_option maxHeartbeats 40000000 in
theorem own_rmEN (l : Launch) (Z : State) (a0 : Array Value) (hw : ∀ d ∈ tables_1, d.before a0 Z = true) (ws : List Jvm.Cond) (co : Addr) (h0 : Heap) (n0 : Nat) (Z0 : n0 ≤ h0.size) (OL : Old Z n0 h0)  :
    MetFree l (⟨"java/lang/String", "equals", "(Ljava/lang/Object;)Z"⟩ : MethodName) (head1 (Jvm.Cond.code (⟨"java/lang/String", "equals", "(Ljava/lang/Object;)Z"⟩ : MethodName) jdk_42_method_66_code 3 (some .boolean) :: ws) ({ frames := 0, cells := 0, slots := 0, locals := 0 } : Room)) (fun aa_ U => aa_ = #[(.ref co), .null] ∧ Z.Warmed39 U.vm ∧ U.heap = h0) (fun _ _ _ _ _ => True) (fun _ U o U' => ∃ v L, o = .returned v ∧ own_QEN Z co h0 n0 v U'.heap L ∧ FrameEnd U o U' L ({ frames := 0, cells := 0, slots := 0, locals := 0 } : Room).cells ({ frames := 0, cells := 0, slots := 0, locals := 0 } : Room).slots) := by
  refine MetFree.of_bodySF (plainFor_of_name own_pn0) hisR ?_
  intro p e s m args below meth c s₁ Bd hml0 hP hK
  obtain ⟨rfl, hZ, hh⟩ := hP
  have hx := Bd.exec
  have hby := Bd.bytes
  have hlk : meth.locks = false := BodyLoose.notSynchronized Bd
  have hml : c.maxLocals = 3 := hml0
  have hown : s.vm.findClass "java/lang/String" = some m.cls := findClass_of_methodNamed Bd.named
  have hnm := (name_of_methodNamed Bd.named Bd.method).1
  have X0 : Stand p l e ({ frames := 0, cells := 0, slots := 0, locals := 0 } : Room) s m #[(.ref co), .null] below meth c s₁ [] 0 0 := Stand.of_body Bd
  have e0 : s₁.heap = h0 := by rw [← hh, Bd.state]; rfl
  have N0 := Fr.nil n0
  have KP : Keep h0 h0 [] := Keep.refl _ _
  refine own_start (Fin := (own_Fin s (own_QEN Z co h0 n0) ({ frames := 0, cells := 0, slots := 0, locals := 0 } : Room).cells ({ frames := 0, cells := 0, slots := 0, locals := 0 } : Room).slots)) (own_from (mkF m 0 #[rv co, .val .null, .unset] []) (castTop (own_ef_EN m co)) ?_)
  refine own_to (T' := s₁) (mkF m 1 #[rv co, .val .null, .unset] [(.ref co)]) (fun _ k => XS.aloadN X0.here hx rfl (hb hby own_d_jdk_42_method_66_0) rfl rfl k) ?_
  refine own_to (T' := s₁) (mkF m 2 #[rv co, .val .null, .unset] [.null, (.ref co)]) (fun _ k => XS.aloadN X0.here hx rfl (hb hby own_d_jdk_42_method_66_1) rfl rfl k) ?_
  refine own_to (T' := s₁) (mkF m 7 #[rv co, .val .null, .unset] []) (fun _ k => Jvm.RoadKit.acmp (g := (mkF m 2 #[rv co, .val .null, .unset] [.null, (.ref co)])) X0 hx rfl rfl rfl (pc0 := 2) (pc' := 7) (same := false) rfl (hb hby own_d_jdk_42_method_66_2) rfl (decide_eq_false nofun) (by decide) (by decide) k) ?_
  refine own_to (T' := s₁) (mkF m 8 #[rv co, .val .null, .unset] [.null]) (fun _ k => XS.aloadN X0.here hx rfl (hb hby own_d_jdk_42_method_66_7) rfl rfl k) ?_
  refine own_to (mkF m 11 #[rv co, .val .null, .unset] [(.int (0 : Int32))]) (X0.instanceofNull hx (g := (mkF m 8 #[rv co, .val .null, .unset] [.null])) rfl rfl (hb hby own_d_jdk_42_method_66_8)) ?_
  refine own_to (T' := s₁) (mkF m 54 #[rv co, .val .null, .unset] []) (fun _ k => XS.ifYes X0.here hx rfl (pc0 := 11) (pc' := 54) rfl (hb hby own_d_jdk_42_method_66_11) rfl ((if0 _ _).trans (teq (by decide : (0 : Int32) = (0 : Int32))).1) (by decide) (by decide) k) ?_
  refine own_to (T' := s₁) (mkF m 55 #[rv co, .val .null, .unset] [(.int (0 : Int32))]) (fun _ k => XS.iconst X0.here hx rfl (hb hby own_d_jdk_42_method_66_54) k) ?_
  exact own_retN X0 hx (t := .boolean) Bd.returns (by simp) hlk (hb hby own_d_jdk_42_method_66_55) (by decide) (by decide) (by rw [e0]; exact ⟨rfl, N0, rfl⟩)
def own_QCN (Z : State) (a u : Addr) (z : Int32) (h0 : Heap) (n0 : Nat) (v : Option Value) (h : Heap) (L : List Loc) : Prop := v = none ∧ Fr n0 L ∧ Keep h0 h [a] ∧ Exa Z h a "com/example/saldera/saldera/coupon/Cashier" ∧ Fld Z h a "com/example/saldera/saldera/coupon/Cashier" "branch" "Ljava/lang/String;" .null ∧ Fld Z h a "com/example/saldera/saldera/coupon/Cashier" "crossBranch" "Z" (.int (nar .boolean z))
set_option maxRecDepth 65536 in
set_option maxHeartbeats 40000000 in
theorem own_rmCN (l : Launch) (Z : State) (a0 : Array Value) (hw : ∀ d ∈ tables_1, d.before a0 Z = true) (ws : List Jvm.Cond) (a u : Addr) (z : Int32) (h0 : Heap) (n0 : Nat) (Z0 : n0 ≤ h0.size) (OL : Old Z n0 h0) (E_a : Exa Z h0 a "com/example/saldera/saldera/coupon/Cashier") (ge_a : n0 ≤ a) (F_username_a : Fld Z h0 a "com/example/saldera/saldera/coupon/Cashier" "username" "Ljava/lang/String;" .null) (F_branch_a : Fld Z h0 a "com/example/saldera/saldera/coupon/Cashier" "branch" "Ljava/lang/String;" .null) (F_crossBranch_a : Fld Z h0 a "com/example/saldera/saldera/coupon/Cashier" "crossBranch" "Z" (.int (0 : Int32))) :
    MetFree l (⟨"com/example/saldera/saldera/coupon/Cashier", "<init>", "(Ljava/lang/String;Ljava/lang/String;Z)V"⟩ : MethodName) (head1 (Jvm.Cond.code (⟨"com/example/saldera/saldera/coupon/Cashier", "<init>", "(Ljava/lang/String;Ljava/lang/String;Z)V"⟩ : MethodName) prog_14_method_1_code 4 none :: ws) ({ frames := 1, cells := 0, slots := 0, locals := 12 } : Room)) (fun aa_ U => aa_ = #[(.ref a), (.ref u), .null, (.int z)] ∧ Z.Warmed39 U.vm ∧ U.heap = h0) (fun _ _ _ _ _ => True) (fun _ U o U' => ∃ v L, o = .returned v ∧ own_QCN Z a u z h0 n0 v U'.heap L ∧ FrameEnd U o U' L ({ frames := 1, cells := 0, slots := 0, locals := 12 } : Room).cells ({ frames := 1, cells := 0, slots := 0, locals := 12 } : Room).slots) := by
  refine MetFree.of_bodySF (plainFor_of_name own_pn1) hisR ?_
  intro p e s m args below meth c s₁ Bd hml0 hP hK
  obtain ⟨rfl, hZ, hh⟩ := hP
  have hx := Bd.exec
  have hby := Bd.bytes
  have hlk : meth.locks = false := BodyLoose.notSynchronized Bd
  have hml : c.maxLocals = 4 := hml0
  have hown : s.vm.findClass "com/example/saldera/saldera/coupon/Cashier" = some m.cls := findClass_of_methodNamed Bd.named
  have hnm := (name_of_methodNamed Bd.named Bd.method).1
  have X0 : Stand p l e ({ frames := 1, cells := 0, slots := 0, locals := 12 } : Room) s m #[(.ref a), (.ref u), .null, (.int z)] below meth c s₁ [] 0 0 := Stand.of_body Bd
  have e0 : s₁.heap = h0 := by rw [← hh, Bd.state]; rfl
  have N0 := Fr.nil n0
  have KP : Keep h0 h0 [a] := Keep.refl _ _
  refine own_start (Fin := (own_Fin s (own_QCN Z a u z h0 n0) ({ frames := 1, cells := 0, slots := 0, locals := 12 } : Room).cells ({ frames := 1, cells := 0, slots := 0, locals := 12 } : Room).slots)) (own_from (mkF m 0 #[rv a, rv u, .val .null, iv z] []) (castTop (own_ef_CN m a u z)) ?_)
  refine own_to (T' := s₁) (mkF m 1 #[rv a, rv u, .val .null, iv z] [(.ref a)]) (fun _ k => XS.aloadN X0.here hx rfl (hb hby own_d_prog_14_method_1_0) rfl rfl k) ?_
  obtain ⟨T1, X1, e1, st1⟩ := initO X0 hx hZ hown (hw _ (List.mem_of_getElem? (i := 39) rfl)) (hw _ (List.mem_of_getElem? (i := 12) rfl)) (hw _ (List.mem_of_getElem? (i := 13) rfl)) e0 (g := (mkF m 1 #[rv a, rv u, .val .null, iv z] [(.ref a)])) rfl (by rw [hml]; rfl) rfl (hb hby own_d_prog_14_method_1_1) (by decide) (W := 0) (by show 2 * 0 + _ ≤ _; exact Nat.le_of_eq rfl) (by decide)
  refine own_to (mkF m 4 #[rv a, rv u, .val .null, iv z] []) st1 ?_
  refine own_to (T' := T1) (mkF m 5 #[rv a, rv u, .val .null, iv z] [(.ref a)]) (fun _ k => XS.aloadN X1.here hx rfl (hb hby own_d_prog_14_method_1_4) rfl rfl k) ?_
  refine own_to (T' := T1) (mkF m 6 #[rv a, rv u, .val .null, iv z] [(.ref u), (.ref a)]) (fun _ k => XS.aloadN X1.here hx rfl (hb hby own_d_prog_14_method_1_5) rfl rfl k) ?_
  obtain ⟨T2, h2, X2, e2, W2, st2⟩ := putF X1 hx hZ hown (host := "") (Or.inl (hw _ (List.mem_of_getElem? (i := 40) rfl))) Via.refl e1 F_username_a E_a (Or.inr ⟨(hw _ (List.mem_of_getElem? (i := 41) rfl)), rfl, hnm⟩) (hw _ (List.mem_of_getElem? (i := 31) rfl)) (ty := (.object "java/lang/String")) (by decide) rfl rfl (g := (mkF m 6 #[rv a, rv u, .val .null, iv z] [(.ref u), (.ref a)])) rfl rfl (hb hby own_d_prog_14_method_1_6)
  refine own_to (mkF m 9 #[rv a, rv u, .val .null, iv z] []) st2 ?_
  have N2 := Fr.snoc X2 N0 ge_a
  have tmp2 : Fld Z h2 a "com/example/saldera/saldera/coupon/Cashier" "username" "Ljava/lang/String;" (.ref u) := F_username_a.same W2
  have OL := OL.wr W2 ge_a
  have KP := KP.wr W2 (Or.inl (List.mem_of_getElem? (i := 0) rfl))
  have E_a := E_a.wr W2
  have F_branch_a := F_branch_a.other W2 (Or.inr (slot_ne (Or.inr (hw _ (List.mem_of_getElem? (i := 43) rfl))) (Or.inr (hw _ (List.mem_of_getElem? (i := 41) rfl))) (by decide) (t := (.object "java/lang/String")) (t' := (.object "java/lang/String")) (by decide) (by decide)))
  have F_crossBranch_a := F_crossBranch_a.other W2 (Or.inr (slot_ne (Or.inr (hw _ (List.mem_of_getElem? (i := 45) rfl))) (Or.inr (hw _ (List.mem_of_getElem? (i := 41) rfl))) (by decide) (t := .boolean) (t' := (.object "java/lang/String")) (by decide) (by decide)))
  have F_username_a := tmp2
  refine own_to (T' := T2) (mkF m 10 #[rv a, rv u, .val .null, iv z] [(.ref a)]) (fun _ k => XS.aloadN X2.here hx rfl (hb hby own_d_prog_14_method_1_9) rfl rfl k) ?_
  refine own_to (T' := T2) (mkF m 11 #[rv a, rv u, .val .null, iv z] [.null, (.ref a)]) (fun _ k => XS.aloadN X2.here hx rfl (hb hby own_d_prog_14_method_1_10) rfl rfl k) ?_
  obtain ⟨T3, h3, X3, e3, W3, st3⟩ := putF X2 hx hZ hown (host := "") (Or.inl (hw _ (List.mem_of_getElem? (i := 42) rfl))) Via.refl e2 F_branch_a E_a (Or.inr ⟨(hw _ (List.mem_of_getElem? (i := 43) rfl)), rfl, hnm⟩) (hw _ (List.mem_of_getElem? (i := 31) rfl)) (ty := (.object "java/lang/String")) (by decide) rfl rfl (g := (mkF m 11 #[rv a, rv u, .val .null, iv z] [.null, (.ref a)])) rfl rfl (hb hby own_d_prog_14_method_1_11)
  refine own_to (mkF m 14 #[rv a, rv u, .val .null, iv z] []) st3 ?_
  have N3 := Fr.snoc X3 N2 ge_a
  have tmp3 : Fld Z h3 a "com/example/saldera/saldera/coupon/Cashier" "branch" "Ljava/lang/String;" .null := F_branch_a.same W3
  have OL := OL.wr W3 ge_a
  have KP := KP.wr W3 (Or.inl (List.mem_of_getElem? (i := 0) rfl))
  have E_a := E_a.wr W3
  have F_username_a := F_username_a.other W3 (Or.inr (slot_ne (Or.inr (hw _ (List.mem_of_getElem? (i := 41) rfl))) (Or.inr (hw _ (List.mem_of_getElem? (i := 43) rfl))) (by decide) (t := (.object "java/lang/String")) (t' := (.object "java/lang/String")) (by decide) (by decide)))
  have F_crossBranch_a := F_crossBranch_a.other W3 (Or.inr (slot_ne (Or.inr (hw _ (List.mem_of_getElem? (i := 45) rfl))) (Or.inr (hw _ (List.mem_of_getElem? (i := 43) rfl))) (by decide) (t := .boolean) (t' := (.object "java/lang/String")) (by decide) (by decide)))
  have F_branch_a := tmp3
  refine own_to (T' := T3) (mkF m 15 #[rv a, rv u, .val .null, iv z] [(.ref a)]) (fun _ k => XS.aloadN X3.here hx rfl (hb hby own_d_prog_14_method_1_14) rfl rfl k) ?_
  refine own_to (T' := T3) (mkF m 16 #[rv a, rv u, .val .null, iv z] [(.int z), (.ref a)]) (fun _ k => XS.iloadN X3.here hx rfl (hb hby own_d_prog_14_method_1_15) rfl k) ?_
  obtain ⟨T4, h4, X4, e4, W4, st4⟩ := putFN X3 hx hZ hown (hw _ (List.mem_of_getElem? (i := 44) rfl)) Via.refl e3 F_crossBranch_a E_a (Or.inr ⟨(hw _ (List.mem_of_getElem? (i := 45) rfl)), rfl, hnm⟩) (hw _ (List.mem_of_getElem? (i := 31) rfl)) (ty := .boolean) (v' := (.int (nar .boolean z))) (by decide) rfl (fits_nar_bool _) (g := (mkF m 16 #[rv a, rv u, .val .null, iv z] [(.int z), (.ref a)])) rfl rfl (hb hby own_d_prog_14_method_1_16)
  refine own_to (mkF m 19 #[rv a, rv u, .val .null, iv z] []) st4 ?_
  have N4 := Fr.snoc X4 N3 ge_a
  have tmp4 : Fld Z h4 a "com/example/saldera/saldera/coupon/Cashier" "crossBranch" "Z" (.int (nar .boolean z)) := F_crossBranch_a.same W4
  have OL := OL.wr W4 ge_a
  have KP := KP.wr W4 (Or.inl (List.mem_of_getElem? (i := 0) rfl))
  have E_a := E_a.wr W4
  have F_username_a := F_username_a.other W4 (Or.inr (slot_ne (Or.inr (hw _ (List.mem_of_getElem? (i := 41) rfl))) (Or.inr (hw _ (List.mem_of_getElem? (i := 45) rfl))) (by decide) (t := (.object "java/lang/String")) (t' := .boolean) (by decide) (by decide)))
  have F_branch_a := F_branch_a.other W4 (Or.inr (slot_ne (Or.inr (hw _ (List.mem_of_getElem? (i := 43) rfl))) (Or.inr (hw _ (List.mem_of_getElem? (i := 45) rfl))) (by decide) (t := (.object "java/lang/String")) (t' := .boolean) (by decide) (by decide)))
  have F_crossBranch_a := tmp4
  exact own_ret0 X4 hx Bd.returns hlk (hb hby own_d_prog_14_method_1_19) (by decide) (by decide) (by rw [e4]; exact ⟨rfl, N4, KP, E_a, F_branch_a, F_crossBranch_a⟩)
def own_QCB (Z : State) (a u : Addr) (b : Addr) (z : Int32) (h0 : Heap) (n0 : Nat) (v : Option Value) (h : Heap) (L : List Loc) : Prop := v = none ∧ Fr n0 L ∧ Keep h0 h [a] ∧ Exa Z h a "com/example/saldera/saldera/coupon/Cashier" ∧ Fld Z h a "com/example/saldera/saldera/coupon/Cashier" "branch" "Ljava/lang/String;" (.ref b) ∧ Fld Z h a "com/example/saldera/saldera/coupon/Cashier" "crossBranch" "Z" (.int (nar .boolean z))
set_option maxRecDepth 65536 in
set_option maxHeartbeats 40000000 in
theorem own_rmCB (l : Launch) (Z : State) (a0 : Array Value) (hw : ∀ d ∈ tables_1, d.before a0 Z = true) (ws : List Jvm.Cond) (a u : Addr) (b : Addr) (z : Int32) (h0 : Heap) (n0 : Nat) (Z0 : n0 ≤ h0.size) (OL : Old Z n0 h0) (E_a : Exa Z h0 a "com/example/saldera/saldera/coupon/Cashier") (ge_a : n0 ≤ a) (F_username_a : Fld Z h0 a "com/example/saldera/saldera/coupon/Cashier" "username" "Ljava/lang/String;" .null) (F_branch_a : Fld Z h0 a "com/example/saldera/saldera/coupon/Cashier" "branch" "Ljava/lang/String;" .null) (F_crossBranch_a : Fld Z h0 a "com/example/saldera/saldera/coupon/Cashier" "crossBranch" "Z" (.int (0 : Int32))) :
    MetFree l (⟨"com/example/saldera/saldera/coupon/Cashier", "<init>", "(Ljava/lang/String;Ljava/lang/String;Z)V"⟩ : MethodName) (head1 (Jvm.Cond.code (⟨"com/example/saldera/saldera/coupon/Cashier", "<init>", "(Ljava/lang/String;Ljava/lang/String;Z)V"⟩ : MethodName) prog_14_method_1_code 4 none :: ws) ({ frames := 1, cells := 0, slots := 0, locals := 12 } : Room)) (fun aa_ U => aa_ = #[(.ref a), (.ref u), (.ref b), (.int z)] ∧ Z.Warmed39 U.vm ∧ U.heap = h0) (fun _ _ _ _ _ => True) (fun _ U o U' => ∃ v L, o = .returned v ∧ own_QCB Z a u b z h0 n0 v U'.heap L ∧ FrameEnd U o U' L ({ frames := 1, cells := 0, slots := 0, locals := 12 } : Room).cells ({ frames := 1, cells := 0, slots := 0, locals := 12 } : Room).slots) := by
  refine MetFree.of_bodySF (plainFor_of_name own_pn1) hisR ?_
  intro p e s m args below meth c s₁ Bd hml0 hP hK
  obtain ⟨rfl, hZ, hh⟩ := hP
  have hx := Bd.exec
  have hby := Bd.bytes
  have hlk : meth.locks = false := BodyLoose.notSynchronized Bd
  have hml : c.maxLocals = 4 := hml0
  have hown : s.vm.findClass "com/example/saldera/saldera/coupon/Cashier" = some m.cls := findClass_of_methodNamed Bd.named
  have hnm := (name_of_methodNamed Bd.named Bd.method).1
  have X0 : Stand p l e ({ frames := 1, cells := 0, slots := 0, locals := 12 } : Room) s m #[(.ref a), (.ref u), (.ref b), (.int z)] below meth c s₁ [] 0 0 := Stand.of_body Bd
  have e0 : s₁.heap = h0 := by rw [← hh, Bd.state]; rfl
  have N0 := Fr.nil n0
  have KP : Keep h0 h0 [a] := Keep.refl _ _
  refine own_start (Fin := (own_Fin s (own_QCB Z a u b z h0 n0) ({ frames := 1, cells := 0, slots := 0, locals := 12 } : Room).cells ({ frames := 1, cells := 0, slots := 0, locals := 12 } : Room).slots)) (own_from (mkF m 0 #[rv a, rv u, rv b, iv z] []) (castTop (own_ef_CB m a u b z)) ?_)
  refine own_to (T' := s₁) (mkF m 1 #[rv a, rv u, rv b, iv z] [(.ref a)]) (fun _ k => XS.aloadN X0.here hx rfl (hb hby own_d_prog_14_method_1_0) rfl rfl k) ?_
  obtain ⟨T5, X5, e5, st5⟩ := initO X0 hx hZ hown (hw _ (List.mem_of_getElem? (i := 39) rfl)) (hw _ (List.mem_of_getElem? (i := 12) rfl)) (hw _ (List.mem_of_getElem? (i := 13) rfl)) e0 (g := (mkF m 1 #[rv a, rv u, rv b, iv z] [(.ref a)])) rfl (by rw [hml]; rfl) rfl (hb hby own_d_prog_14_method_1_1) (by decide) (W := 0) (by show 2 * 0 + _ ≤ _; exact Nat.le_of_eq rfl) (by decide)
  refine own_to (mkF m 4 #[rv a, rv u, rv b, iv z] []) st5 ?_
  refine own_to (T' := T5) (mkF m 5 #[rv a, rv u, rv b, iv z] [(.ref a)]) (fun _ k => XS.aloadN X5.here hx rfl (hb hby own_d_prog_14_method_1_4) rfl rfl k) ?_
  refine own_to (T' := T5) (mkF m 6 #[rv a, rv u, rv b, iv z] [(.ref u), (.ref a)]) (fun _ k => XS.aloadN X5.here hx rfl (hb hby own_d_prog_14_method_1_5) rfl rfl k) ?_
  obtain ⟨T6, h6, X6, e6, W6, st6⟩ := putF X5 hx hZ hown (host := "") (Or.inl (hw _ (List.mem_of_getElem? (i := 40) rfl))) Via.refl e5 F_username_a E_a (Or.inr ⟨(hw _ (List.mem_of_getElem? (i := 41) rfl)), rfl, hnm⟩) (hw _ (List.mem_of_getElem? (i := 31) rfl)) (ty := (.object "java/lang/String")) (by decide) rfl rfl (g := (mkF m 6 #[rv a, rv u, rv b, iv z] [(.ref u), (.ref a)])) rfl rfl (hb hby own_d_prog_14_method_1_6)
  refine own_to (mkF m 9 #[rv a, rv u, rv b, iv z] []) st6 ?_
  have N6 := Fr.snoc X6 N0 ge_a
  have tmp6 : Fld Z h6 a "com/example/saldera/saldera/coupon/Cashier" "username" "Ljava/lang/String;" (.ref u) := F_username_a.same W6
  have OL := OL.wr W6 ge_a
  have KP := KP.wr W6 (Or.inl (List.mem_of_getElem? (i := 0) rfl))
  have E_a := E_a.wr W6
  have F_branch_a := F_branch_a.other W6 (Or.inr (slot_ne (Or.inr (hw _ (List.mem_of_getElem? (i := 43) rfl))) (Or.inr (hw _ (List.mem_of_getElem? (i := 41) rfl))) (by decide) (t := (.object "java/lang/String")) (t' := (.object "java/lang/String")) (by decide) (by decide)))
  have F_crossBranch_a := F_crossBranch_a.other W6 (Or.inr (slot_ne (Or.inr (hw _ (List.mem_of_getElem? (i := 45) rfl))) (Or.inr (hw _ (List.mem_of_getElem? (i := 41) rfl))) (by decide) (t := .boolean) (t' := (.object "java/lang/String")) (by decide) (by decide)))
  have F_username_a := tmp6
  refine own_to (T' := T6) (mkF m 10 #[rv a, rv u, rv b, iv z] [(.ref a)]) (fun _ k => XS.aloadN X6.here hx rfl (hb hby own_d_prog_14_method_1_9) rfl rfl k) ?_
  refine own_to (T' := T6) (mkF m 11 #[rv a, rv u, rv b, iv z] [(.ref b), (.ref a)]) (fun _ k => XS.aloadN X6.here hx rfl (hb hby own_d_prog_14_method_1_10) rfl rfl k) ?_
  obtain ⟨T7, h7, X7, e7, W7, st7⟩ := putF X6 hx hZ hown (host := "") (Or.inl (hw _ (List.mem_of_getElem? (i := 42) rfl))) Via.refl e6 F_branch_a E_a (Or.inr ⟨(hw _ (List.mem_of_getElem? (i := 43) rfl)), rfl, hnm⟩) (hw _ (List.mem_of_getElem? (i := 31) rfl)) (ty := (.object "java/lang/String")) (by decide) rfl rfl (g := (mkF m 11 #[rv a, rv u, rv b, iv z] [(.ref b), (.ref a)])) rfl rfl (hb hby own_d_prog_14_method_1_11)
  refine own_to (mkF m 14 #[rv a, rv u, rv b, iv z] []) st7 ?_
  have N7 := Fr.snoc X7 N6 ge_a
  have tmp7 : Fld Z h7 a "com/example/saldera/saldera/coupon/Cashier" "branch" "Ljava/lang/String;" (.ref b) := F_branch_a.same W7
  have OL := OL.wr W7 ge_a
  have KP := KP.wr W7 (Or.inl (List.mem_of_getElem? (i := 0) rfl))
  have E_a := E_a.wr W7
  have F_username_a := F_username_a.other W7 (Or.inr (slot_ne (Or.inr (hw _ (List.mem_of_getElem? (i := 41) rfl))) (Or.inr (hw _ (List.mem_of_getElem? (i := 43) rfl))) (by decide) (t := (.object "java/lang/String")) (t' := (.object "java/lang/String")) (by decide) (by decide)))
  have F_crossBranch_a := F_crossBranch_a.other W7 (Or.inr (slot_ne (Or.inr (hw _ (List.mem_of_getElem? (i := 45) rfl))) (Or.inr (hw _ (List.mem_of_getElem? (i := 43) rfl))) (by decide) (t := .boolean) (t' := (.object "java/lang/String")) (by decide) (by decide)))
  have F_branch_a := tmp7
  refine own_to (T' := T7) (mkF m 15 #[rv a, rv u, rv b, iv z] [(.ref a)]) (fun _ k => XS.aloadN X7.here hx rfl (hb hby own_d_prog_14_method_1_14) rfl rfl k) ?_
  refine own_to (T' := T7) (mkF m 16 #[rv a, rv u, rv b, iv z] [(.int z), (.ref a)]) (fun _ k => XS.iloadN X7.here hx rfl (hb hby own_d_prog_14_method_1_15) rfl k) ?_
  obtain ⟨T8, h8, X8, e8, W8, st8⟩ := putFN X7 hx hZ hown (hw _ (List.mem_of_getElem? (i := 44) rfl)) Via.refl e7 F_crossBranch_a E_a (Or.inr ⟨(hw _ (List.mem_of_getElem? (i := 45) rfl)), rfl, hnm⟩) (hw _ (List.mem_of_getElem? (i := 31) rfl)) (ty := .boolean) (v' := (.int (nar .boolean z))) (by decide) rfl (fits_nar_bool _) (g := (mkF m 16 #[rv a, rv u, rv b, iv z] [(.int z), (.ref a)])) rfl rfl (hb hby own_d_prog_14_method_1_16)
  refine own_to (mkF m 19 #[rv a, rv u, rv b, iv z] []) st8 ?_
  have N8 := Fr.snoc X8 N7 ge_a
  have tmp8 : Fld Z h8 a "com/example/saldera/saldera/coupon/Cashier" "crossBranch" "Z" (.int (nar .boolean z)) := F_crossBranch_a.same W8
  have OL := OL.wr W8 ge_a
  have KP := KP.wr W8 (Or.inl (List.mem_of_getElem? (i := 0) rfl))
  have E_a := E_a.wr W8
  have F_username_a := F_username_a.other W8 (Or.inr (slot_ne (Or.inr (hw _ (List.mem_of_getElem? (i := 41) rfl))) (Or.inr (hw _ (List.mem_of_getElem? (i := 45) rfl))) (by decide) (t := (.object "java/lang/String")) (t' := .boolean) (by decide) (by decide)))
  have F_branch_a := F_branch_a.other W8 (Or.inr (slot_ne (Or.inr (hw _ (List.mem_of_getElem? (i := 43) rfl))) (Or.inr (hw _ (List.mem_of_getElem? (i := 45) rfl))) (by decide) (t := (.object "java/lang/String")) (t' := .boolean) (by decide) (by decide)))
  have F_crossBranch_a := tmp8
  exact own_ret0 X8 hx Bd.returns hlk (hb hby own_d_prog_14_method_1_19) (by decide) (by decide) (by rw [e8]; exact ⟨rfl, N8, KP, E_a, F_branch_a, F_crossBranch_a⟩)
def own_QON (Z : State) (a co : Addr) (h0 : Heap) (n0 : Nat) (v : Option Value) (h : Heap) (L : List Loc) : Prop := v = some (.int 1) ∧ Fr n0 L ∧ h = h0
set_option maxRecDepth 65536 in
set_option maxHeartbeats 40000000 in
theorem own_rmON (l : Launch) (Z : State) (a0 : Array Value) (hw : ∀ d ∈ tables_1, d.before a0 Z = true) (ws : List Jvm.Cond) (a co : Addr) (h0 : Heap) (n0 : Nat) (Z0 : n0 ≤ h0.size) (OL : Old Z n0 h0) (Fa : Fld Z h0 a "com/example/saldera/saldera/coupon/Cashier" "branch" "Ljava/lang/String;" .null) (Ec : Exa Z h0 co "java/lang/String") :
    MetFree l (⟨"com/example/saldera/saldera/coupon/Cashier", "isOtherBranch", "(Ljava/lang/String;)Z"⟩ : MethodName) (head1 (Jvm.Cond.code (⟨"com/example/saldera/saldera/coupon/Cashier", "isOtherBranch", "(Ljava/lang/String;)Z"⟩ : MethodName) prog_14_method_4_code 2 (some .boolean) :: ws) ({ frames := 1, cells := 0, slots := 0, locals := 14 } : Room)) (fun aa_ U => aa_ = #[(.ref a), (.ref co)] ∧ Z.Warmed39 U.vm ∧ U.heap = h0) (fun _ _ _ _ _ => True) (fun _ U o U' => ∃ v L, o = .returned v ∧ own_QON Z a co h0 n0 v U'.heap L ∧ FrameEnd U o U' L ({ frames := 1, cells := 0, slots := 0, locals := 14 } : Room).cells ({ frames := 1, cells := 0, slots := 0, locals := 14 } : Room).slots) := by
  refine MetFree.of_bodySF (plainFor_of_name own_pn1) hisR ?_
  intro p e s m args below meth c s₁ Bd hml0 hP hK
  obtain ⟨rfl, hZ, hh⟩ := hP
  have hx := Bd.exec
  have hby := Bd.bytes
  have hlk : meth.locks = false := BodyLoose.notSynchronized Bd
  have hml : c.maxLocals = 2 := hml0
  have hown : s.vm.findClass "com/example/saldera/saldera/coupon/Cashier" = some m.cls := findClass_of_methodNamed Bd.named
  have hnm := (name_of_methodNamed Bd.named Bd.method).1
  have X0 : Stand p l e ({ frames := 1, cells := 0, slots := 0, locals := 14 } : Room) s m #[(.ref a), (.ref co)] below meth c s₁ [] 0 0 := Stand.of_body Bd
  have e0 : s₁.heap = h0 := by rw [← hh, Bd.state]; rfl
  have N0 := Fr.nil n0
  have KP : Keep h0 h0 [] := Keep.refl _ _
  refine own_start (Fin := (own_Fin s (own_QON Z a co h0 n0) ({ frames := 1, cells := 0, slots := 0, locals := 14 } : Room).cells ({ frames := 1, cells := 0, slots := 0, locals := 14 } : Room).slots)) (own_from (mkF m 0 #[rv a, rv co] []) (castTop (own_ef_ON m a co)) ?_)
  refine own_to (T' := s₁) (mkF m 1 #[rv a, rv co] [(.ref co)]) (fun _ k => XS.aloadN X0.here hx rfl (hb hby own_d_prog_14_method_4_0) rfl rfl k) ?_
  refine own_to (T' := s₁) (mkF m 2 #[rv a, rv co] [(.ref a), (.ref co)]) (fun _ k => XS.aloadN X0.here hx rfl (hb hby own_d_prog_14_method_4_1) rfl rfl k) ?_
  obtain ⟨T9, X9, e9, st9⟩ := getF X0 hx hZ hown (host := "") (Or.inl (hw _ (List.mem_of_getElem? (i := 42) rfl))) Via.refl e0 Fa (g := (mkF m 2 #[rv a, rv co] [(.ref a), (.ref co)])) rfl rfl (hb hby own_d_prog_14_method_4_2)
  refine own_to (mkF m 5 #[rv a, rv co] [.null, (.ref co)]) st9 ?_
  obtain ⟨cq10, kq10, q10a, q10b, q10c⟩ := isOf hZ e9 Ec
  obtain ⟨_, _, ⟨T10, L10, k10, n10⟩, -, X10, ⟨Lc10, hQ10, l10, y10, z10⟩, st10⟩ := X9.virtualBack hx (y := (⟨"java/lang/String", "equals", "(Ljava/lang/Object;)Z"⟩ : MethodName)) (z := (⟨"java/lang/String", "equals", "(Ljava/lang/Object;)Z"⟩ : MethodName)) hown (mvT hZ (hw _ (List.mem_of_getElem? (i := 56) rfl))) (mvT hZ (hw _ (List.mem_of_getElem? (i := 57) rfl))) (notFace_of_selects (args := #[]) (mvT hZ (hw _ (List.mem_of_getElem? (i := 59) rfl)))) (mvT hZ (hw _ (List.mem_of_getElem? (i := 59) rfl))) (mvT hZ (hw _ (List.mem_of_getElem? (i := 58) rfl))) (by decide) (backOf (W := 0) (own_rmEN l Z a0 hw [] co h0 n0 (Nat.le_trans Z0 KP.1) OL) hZ (hw _ (List.mem_of_getElem? (i := 60) rfl)) (hw _ (List.mem_of_getElem? (i := 2) rfl)) (by decide) (by decide)) q10a q10c (g := (mkF m 5 #[rv a, rv co] [.null, (.ref co)])) rfl (by rw [hml]; rfl) (Steps.refl _) (argsL := [.null]) (rest := []) (lenOf own_pd0 rfl) rfl (by show 2 * 0 + _ ≤ _; exact Nat.le_of_eq rfl) (hb hby own_d_prog_14_method_4_5) (fun _ _ => ⟨rfl, e9, (by decide : 0 + 0 ≤ _), (by decide : 0 + 0 ≤ _)⟩)
  dsimp only [Pt.U, Pt.locs, Pt.cells, Pt.slots] at X10 l10 y10 z10 st10 hQ10
  subst l10 y10 z10
  obtain ⟨rfl, N10q, e10⟩ := hQ10
  have N10 := Fr.app N0 N10q
  refine own_via (mkF m 8 #[rv a, rv co] [(.int (0 : Int32))]) st10 ?_
  refine own_to (T' := T10) (mkF m 11 #[rv a, rv co] []) (fun _ k => XS.ifNo X10.here hx rfl (hb hby own_d_prog_14_method_4_8) rfl ((if0 _ _).trans (teq (by decide : (0 : Int32) = (0 : Int32))).2) k) ?_
  refine own_to (T' := T10) (mkF m 12 #[rv a, rv co] [(.int (1 : Int32))]) (fun _ k => XS.iconst X10.here hx rfl (hb hby own_d_prog_14_method_4_11) k) ?_
  refine own_to (T' := T10) (mkF m 16 #[rv a, rv co] [(.int (1 : Int32))]) (fun _ k => XS.goto X10.here hx rfl (pc0 := 12) (pc' := 16) rfl (hb hby own_d_prog_14_method_4_12) (by decide) (by decide) k) ?_
  exact own_retN X10 hx (t := .boolean) Bd.returns (by simp) hlk (hb hby own_d_prog_14_method_4_16) (by decide) (by decide) (by rw [e10]; exact ⟨rfl, N10, rfl⟩)
def own_QOB (Z : State) (G1 : Int32) (a co tc : Addr) (kc : ClassId) (cs : List Int32) (b tb : Addr) (kb : ClassId) (ds : List Int32) (h0 : Heap) (n0 : Nat) (v : Option Value) (h : Heap) (L : List Loc) : Prop := ∃ r : Int32, v = some (.int r) ∧ (cs = ds → r = 0) ∧ (¬ cs = ds → r = 1) ∧ Fr n0 L ∧ h = h0
set_option maxRecDepth 65536 in
set_option maxHeartbeats 40000000 in
theorem own_rmOB (l : Launch) (Z : State) (a0 : Array Value) (hw : ∀ d ∈ tables_1, d.before a0 Z = true) (ws : List Jvm.Cond) (G1 : Int32) (a co tc : Addr) (kc : ClassId) (cs : List Int32) (b tb : Addr) (kb : ClassId) (ds : List Int32) (h0 : Heap) (n0 : Nat) (Z0 : n0 ≤ h0.size) (OL : Old Z n0 h0) (Fa : Fld Z h0 a "com/example/saldera/saldera/coupon/Cashier" "branch" "Ljava/lang/String;" (.ref b)) (Sc : own_Str Z h0 co tc kc cs) (Sb : own_Str Z h0 b tb kb ds) (O2 : Sta Z Z.heap "java/lang/String" "COMPACT_STRINGS" "Z" (.int G1)) (P5 : ¬ (G1 = (0 : Int32))) :
    MetFree l (⟨"com/example/saldera/saldera/coupon/Cashier", "isOtherBranch", "(Ljava/lang/String;)Z"⟩ : MethodName) (head1 (Jvm.Cond.code (⟨"com/example/saldera/saldera/coupon/Cashier", "isOtherBranch", "(Ljava/lang/String;)Z"⟩ : MethodName) prog_14_method_4_code 2 (some .boolean) :: ws) ({ frames := 3, cells := 0, slots := 0, locals := 28 } : Room)) (fun aa_ U => aa_ = #[(.ref a), (.ref co)] ∧ Z.Warmed39 U.vm ∧ U.heap = h0) (fun _ _ _ _ _ => True) (fun _ U o U' => ∃ v L, o = .returned v ∧ own_QOB Z G1 a co tc kc cs b tb kb ds h0 n0 v U'.heap L ∧ FrameEnd U o U' L ({ frames := 3, cells := 0, slots := 0, locals := 28 } : Room).cells ({ frames := 3, cells := 0, slots := 0, locals := 28 } : Room).slots) := by
  refine MetFree.of_bodySF (plainFor_of_name own_pn1) hisR ?_
  intro p e s m args below meth c s₁ Bd hml0 hP hK
  obtain ⟨rfl, hZ, hh⟩ := hP
  have hx := Bd.exec
  have hby := Bd.bytes
  have hlk : meth.locks = false := BodyLoose.notSynchronized Bd
  have hml : c.maxLocals = 2 := hml0
  have hown : s.vm.findClass "com/example/saldera/saldera/coupon/Cashier" = some m.cls := findClass_of_methodNamed Bd.named
  have hnm := (name_of_methodNamed Bd.named Bd.method).1
  have X0 : Stand p l e ({ frames := 3, cells := 0, slots := 0, locals := 28 } : Room) s m #[(.ref a), (.ref co)] below meth c s₁ [] 0 0 := Stand.of_body Bd
  have e0 : s₁.heap = h0 := by rw [← hh, Bd.state]; rfl
  have N0 := Fr.nil n0
  have KP : Keep h0 h0 [] := Keep.refl _ _
  refine own_start (Fin := (own_Fin s (own_QOB Z G1 a co tc kc cs b tb kb ds h0 n0) ({ frames := 3, cells := 0, slots := 0, locals := 28 } : Room).cells ({ frames := 3, cells := 0, slots := 0, locals := 28 } : Room).slots)) (own_from (mkF m 0 #[rv a, rv co] []) (castTop (own_ef_OB m a co)) ?_)
  have hwsE : ∀ d ∈ StrChars.Road.wordsEq, d.before a0 Z = true := fun d hd => hw d (own_wEq d hd)
  refine own_to (T' := s₁) (mkF m 1 #[rv a, rv co] [(.ref co)]) (fun _ k => XS.aloadN X0.here hx rfl (hb hby own_d_prog_14_method_4_0) rfl rfl k) ?_
  refine own_to (T' := s₁) (mkF m 2 #[rv a, rv co] [(.ref a), (.ref co)]) (fun _ k => XS.aloadN X0.here hx rfl (hb hby own_d_prog_14_method_4_1) rfl rfl k) ?_
  obtain ⟨T11, X11, e11, st11⟩ := getF X0 hx hZ hown (host := "") (Or.inl (hw _ (List.mem_of_getElem? (i := 42) rfl))) Via.refl e0 Fa (g := (mkF m 2 #[rv a, rv co] [(.ref a), (.ref co)])) rfl rfl (hb hby own_d_prog_14_method_4_2)
  refine own_to (mkF m 5 #[rv a, rv co] [(.ref b), (.ref co)]) st11 ?_
  obtain ⟨cq12, kq12, q12a, q12b, q12c⟩ := isOf hZ e11 Sc.1
  obtain ⟨_, _, ⟨T12, L12, k12, n12⟩, -, X12, ⟨Lc12, hQ12, l12, y12, z12⟩, st12⟩ := X11.virtualBack hx (y := (⟨"java/lang/String", "equals", "(Ljava/lang/Object;)Z"⟩ : MethodName)) (z := (⟨"java/lang/String", "equals", "(Ljava/lang/Object;)Z"⟩ : MethodName)) hown (mvT hZ (hw _ (List.mem_of_getElem? (i := 56) rfl))) (mvT hZ (hw _ (List.mem_of_getElem? (i := 57) rfl))) (notFace_of_selects (args := #[]) (mvT hZ (hw _ (List.mem_of_getElem? (i := 59) rfl)))) (mvT hZ (hw _ (List.mem_of_getElem? (i := 59) rfl))) (mvT hZ (hw _ (List.mem_of_getElem? (i := 58) rfl))) (by decide) (own_backEq (W := 0) hZ hwsE (hw _ (List.mem_of_getElem? (i := 1) rfl)) Sc Sb (O2.ext OL.2) P5 (by decide) (by decide)) q12a q12c (g := (mkF m 5 #[rv a, rv co] [(.ref b), (.ref co)])) rfl (by rw [hml]; rfl) (Steps.refl _) (argsL := [(.ref b)]) (rest := []) (lenOf own_pd0 rfl) rfl (by show 2 * 0 + _ ≤ _; exact Nat.le_of_eq rfl) (hb hby own_d_prog_14_method_4_5) (fun _ _ => ⟨rfl, e11, (by decide : 0 + 0 ≤ _), (by decide : 0 + 0 ≤ _)⟩)
  dsimp only [Pt.U, Pt.locs, Pt.cells, Pt.slots] at X12 l12 y12 z12 st12 hQ12
  subst l12 y12 z12
  obtain ⟨hor12, rfl, e12⟩ := hQ12
  have N12q : Fr n0 ([] : List Loc) := Fr.nil n0
  have N12 := Fr.app N0 N12q
  rcases hor12 with ⟨rfl, q⟩ | ⟨rfl, q⟩
  · refine own_via (mkF m 8 #[rv a, rv co] [(.int (1 : Int32))]) st12 ?_
    refine own_to (T' := T12) (mkF m 15 #[rv a, rv co] []) (fun _ k => XS.ifYes X12.here hx rfl (pc0 := 8) (pc' := 15) rfl (hb hby own_d_prog_14_method_4_8) rfl ((if0 _ _).trans (feq (by decide : ¬ ((1 : Int32) = (0 : Int32)))).2) (by decide) (by decide) k) ?_
    refine own_to (T' := T12) (mkF m 16 #[rv a, rv co] [(.int (0 : Int32))]) (fun _ k => XS.iconst X12.here hx rfl (hb hby own_d_prog_14_method_4_15) k) ?_
    exact own_retN X12 hx (t := .boolean) Bd.returns (by simp) hlk (hb hby own_d_prog_14_method_4_16) (by decide) (by decide) (by rw [e12]; exact ⟨_, rfl, fun _ => rfl, fun z => absurd q z, N12, rfl⟩)
  · refine own_via (mkF m 8 #[rv a, rv co] [(.int (0 : Int32))]) st12 ?_
    refine own_to (T' := T12) (mkF m 11 #[rv a, rv co] []) (fun _ k => XS.ifNo X12.here hx rfl (hb hby own_d_prog_14_method_4_8) rfl ((if0 _ _).trans (teq (by decide : (0 : Int32) = (0 : Int32))).2) k) ?_
    refine own_to (T' := T12) (mkF m 12 #[rv a, rv co] [(.int (1 : Int32))]) (fun _ k => XS.iconst X12.here hx rfl (hb hby own_d_prog_14_method_4_11) k) ?_
    refine own_to (T' := T12) (mkF m 16 #[rv a, rv co] [(.int (1 : Int32))]) (fun _ k => XS.goto X12.here hx rfl (pc0 := 12) (pc' := 16) rfl (hb hby own_d_prog_14_method_4_12) (by decide) (by decide) k) ?_
    exact own_retN X12 hx (t := .boolean) Bd.returns (by simp) hlk (hb hby own_d_prog_14_method_4_16) (by decide) (by decide) (by rw [e12]; exact ⟨_, rfl, fun z => absurd z q, fun _ => rfl, N12, rfl⟩)
def own_QMX (Z : State) (a co : Addr) (h0 : Heap) (n0 : Nat) (v : Option Value) (h : Heap) (L : List Loc) : Prop := v = some (.int 1) ∧ Fr n0 L ∧ h = h0
set_option maxRecDepth 65536 in
set_option maxHeartbeats 40000000 in
theorem own_rmMX (l : Launch) (Z : State) (a0 : Array Value) (hw : ∀ d ∈ tables_1, d.before a0 Z = true) (ws : List Jvm.Cond) (a co : Addr) (h0 : Heap) (n0 : Nat) (Z0 : n0 ≤ h0.size) (OL : Old Z n0 h0) (Fx : Fld Z h0 a "com/example/saldera/saldera/coupon/Cashier" "crossBranch" "Z" (.int (1 : Int32))) :
    MetFree l (⟨"com/example/saldera/saldera/coupon/Cashier", "mayCollect", "(Ljava/lang/String;)Z"⟩ : MethodName) (head1 (Jvm.Cond.code (⟨"com/example/saldera/saldera/coupon/Cashier", "mayCollect", "(Ljava/lang/String;)Z"⟩ : MethodName) prog_14_method_5_code 2 (some .boolean) :: ws) ({ frames := 0, cells := 0, slots := 0, locals := 0 } : Room)) (fun aa_ U => aa_ = #[(.ref a), (.ref co)] ∧ Z.Warmed39 U.vm ∧ U.heap = h0) (fun _ _ _ _ _ => True) (fun _ U o U' => ∃ v L, o = .returned v ∧ own_QMX Z a co h0 n0 v U'.heap L ∧ FrameEnd U o U' L ({ frames := 0, cells := 0, slots := 0, locals := 0 } : Room).cells ({ frames := 0, cells := 0, slots := 0, locals := 0 } : Room).slots) := by
  refine MetFree.of_bodySF (plainFor_of_name own_pn1) hisR ?_
  intro p e s m args below meth c s₁ Bd hml0 hP hK
  obtain ⟨rfl, hZ, hh⟩ := hP
  have hx := Bd.exec
  have hby := Bd.bytes
  have hlk : meth.locks = false := BodyLoose.notSynchronized Bd
  have hml : c.maxLocals = 2 := hml0
  have hown : s.vm.findClass "com/example/saldera/saldera/coupon/Cashier" = some m.cls := findClass_of_methodNamed Bd.named
  have hnm := (name_of_methodNamed Bd.named Bd.method).1
  have X0 : Stand p l e ({ frames := 0, cells := 0, slots := 0, locals := 0 } : Room) s m #[(.ref a), (.ref co)] below meth c s₁ [] 0 0 := Stand.of_body Bd
  have e0 : s₁.heap = h0 := by rw [← hh, Bd.state]; rfl
  have N0 := Fr.nil n0
  have KP : Keep h0 h0 [] := Keep.refl _ _
  refine own_start (Fin := (own_Fin s (own_QMX Z a co h0 n0) ({ frames := 0, cells := 0, slots := 0, locals := 0 } : Room).cells ({ frames := 0, cells := 0, slots := 0, locals := 0 } : Room).slots)) (own_from (mkF m 0 #[rv a, rv co] []) (castTop (own_ef_MX m a co)) ?_)
  refine own_to (T' := s₁) (mkF m 1 #[rv a, rv co] [(.ref a)]) (fun _ k => XS.aloadN X0.here hx rfl (hb hby own_d_prog_14_method_5_0) rfl rfl k) ?_
  obtain ⟨T13, X13, e13, st13⟩ := getF X0 hx hZ hown (host := "") (Or.inl (hw _ (List.mem_of_getElem? (i := 44) rfl))) Via.refl e0 Fx (g := (mkF m 1 #[rv a, rv co] [(.ref a)])) rfl rfl (hb hby own_d_prog_14_method_5_1)
  refine own_to (mkF m 4 #[rv a, rv co] [(.int (1 : Int32))]) st13 ?_
  refine own_to (T' := T13) (mkF m 15 #[rv a, rv co] []) (fun _ k => XS.ifYes X13.here hx rfl (pc0 := 4) (pc' := 15) rfl (hb hby own_d_prog_14_method_5_4) rfl ((if0 _ _).trans (feq (by decide : ¬ ((1 : Int32) = (0 : Int32)))).2) (by decide) (by decide) k) ?_
  refine own_to (T' := T13) (mkF m 16 #[rv a, rv co] [(.int (1 : Int32))]) (fun _ k => XS.iconst X13.here hx rfl (hb hby own_d_prog_14_method_5_15) k) ?_
  refine own_to (T' := T13) (mkF m 20 #[rv a, rv co] [(.int (1 : Int32))]) (fun _ k => XS.goto X13.here hx rfl (pc0 := 16) (pc' := 20) rfl (hb hby own_d_prog_14_method_5_16) (by decide) (by decide) k) ?_
  exact own_retN X13 hx (t := .boolean) Bd.returns (by simp) hlk (hb hby own_d_prog_14_method_5_20) (by decide) (by decide) (by rw [e13]; exact ⟨rfl, N0, rfl⟩)
def own_QMN (Z : State) (a co : Addr) (h0 : Heap) (n0 : Nat) (v : Option Value) (h : Heap) (L : List Loc) : Prop := v = some (.int 0) ∧ Fr n0 L ∧ h = h0
set_option maxRecDepth 65536 in
set_option maxHeartbeats 40000000 in
theorem own_rmMN (l : Launch) (Z : State) (a0 : Array Value) (hw : ∀ d ∈ tables_1, d.before a0 Z = true) (ws : List Jvm.Cond) (a co : Addr) (h0 : Heap) (n0 : Nat) (Z0 : n0 ≤ h0.size) (OL : Old Z n0 h0) (Fx : Fld Z h0 a "com/example/saldera/saldera/coupon/Cashier" "crossBranch" "Z" (.int (0 : Int32))) (Fa : Fld Z h0 a "com/example/saldera/saldera/coupon/Cashier" "branch" "Ljava/lang/String;" .null) (Ea : Exa Z h0 a "com/example/saldera/saldera/coupon/Cashier") (Ec : Exa Z h0 co "java/lang/String") :
    MetFree l (⟨"com/example/saldera/saldera/coupon/Cashier", "mayCollect", "(Ljava/lang/String;)Z"⟩ : MethodName) (head1 (Jvm.Cond.code (⟨"com/example/saldera/saldera/coupon/Cashier", "mayCollect", "(Ljava/lang/String;)Z"⟩ : MethodName) prog_14_method_5_code 2 (some .boolean) :: ws) ({ frames := 2, cells := 0, slots := 0, locals := 40 } : Room)) (fun aa_ U => aa_ = #[(.ref a), (.ref co)] ∧ Z.Warmed39 U.vm ∧ U.heap = h0) (fun _ _ _ _ _ => True) (fun _ U o U' => ∃ v L, o = .returned v ∧ own_QMN Z a co h0 n0 v U'.heap L ∧ FrameEnd U o U' L ({ frames := 2, cells := 0, slots := 0, locals := 40 } : Room).cells ({ frames := 2, cells := 0, slots := 0, locals := 40 } : Room).slots) := by
  refine MetFree.of_bodySF (plainFor_of_name own_pn1) hisR ?_
  intro p e s m args below meth c s₁ Bd hml0 hP hK
  obtain ⟨rfl, hZ, hh⟩ := hP
  have hx := Bd.exec
  have hby := Bd.bytes
  have hlk : meth.locks = false := BodyLoose.notSynchronized Bd
  have hml : c.maxLocals = 2 := hml0
  have hown : s.vm.findClass "com/example/saldera/saldera/coupon/Cashier" = some m.cls := findClass_of_methodNamed Bd.named
  have hnm := (name_of_methodNamed Bd.named Bd.method).1
  have X0 : Stand p l e ({ frames := 2, cells := 0, slots := 0, locals := 40 } : Room) s m #[(.ref a), (.ref co)] below meth c s₁ [] 0 0 := Stand.of_body Bd
  have e0 : s₁.heap = h0 := by rw [← hh, Bd.state]; rfl
  have N0 := Fr.nil n0
  have KP : Keep h0 h0 [] := Keep.refl _ _
  refine own_start (Fin := (own_Fin s (own_QMN Z a co h0 n0) ({ frames := 2, cells := 0, slots := 0, locals := 40 } : Room).cells ({ frames := 2, cells := 0, slots := 0, locals := 40 } : Room).slots)) (own_from (mkF m 0 #[rv a, rv co] []) (castTop (own_ef_MN m a co)) ?_)
  refine own_to (T' := s₁) (mkF m 1 #[rv a, rv co] [(.ref a)]) (fun _ k => XS.aloadN X0.here hx rfl (hb hby own_d_prog_14_method_5_0) rfl rfl k) ?_
  obtain ⟨T14, X14, e14, st14⟩ := getF X0 hx hZ hown (host := "") (Or.inl (hw _ (List.mem_of_getElem? (i := 44) rfl))) Via.refl e0 Fx (g := (mkF m 1 #[rv a, rv co] [(.ref a)])) rfl rfl (hb hby own_d_prog_14_method_5_1)
  refine own_to (mkF m 4 #[rv a, rv co] [(.int (0 : Int32))]) st14 ?_
  refine own_to (T' := T14) (mkF m 7 #[rv a, rv co] []) (fun _ k => XS.ifNo X14.here hx rfl (hb hby own_d_prog_14_method_5_4) rfl ((if0 _ _).trans (teq (by decide : (0 : Int32) = (0 : Int32))).2) k) ?_
  refine own_to (T' := T14) (mkF m 8 #[rv a, rv co] [(.ref a)]) (fun _ k => XS.aloadN X14.here hx rfl (hb hby own_d_prog_14_method_5_7) rfl rfl k) ?_
  refine own_to (T' := T14) (mkF m 9 #[rv a, rv co] [(.ref co), (.ref a)]) (fun _ k => XS.aloadN X14.here hx rfl (hb hby own_d_prog_14_method_5_8) rfl rfl k) ?_
  obtain ⟨cq15, kq15, q15a, q15b, q15c⟩ := isOf hZ e14 Ea
  obtain ⟨_, _, ⟨T15, L15, k15, n15⟩, -, X15, ⟨Lc15, hQ15, l15, y15, z15⟩, st15⟩ := X14.virtualBack hx (y := (⟨"com/example/saldera/saldera/coupon/Cashier", "isOtherBranch", "(Ljava/lang/String;)Z"⟩ : MethodName)) (z := (⟨"com/example/saldera/saldera/coupon/Cashier", "isOtherBranch", "(Ljava/lang/String;)Z"⟩ : MethodName)) hown (mvT hZ (hw _ (List.mem_of_getElem? (i := 51) rfl))) (mvT hZ (hw _ (List.mem_of_getElem? (i := 52) rfl))) (notFace_of_selects (args := #[]) (mvT hZ (hw _ (List.mem_of_getElem? (i := 54) rfl)))) (mvT hZ (hw _ (List.mem_of_getElem? (i := 54) rfl))) (mvT hZ (hw _ (List.mem_of_getElem? (i := 53) rfl))) (by decide) (backOf (W := 0) (own_rmON l Z a0 hw [] a co h0 n0 (Nat.le_trans Z0 KP.1) OL Fa Ec) hZ (hw _ (List.mem_of_getElem? (i := 55) rfl)) (hw _ (List.mem_of_getElem? (i := 32) rfl)) (by decide) (by decide)) q15a q15c (g := (mkF m 9 #[rv a, rv co] [(.ref co), (.ref a)])) rfl (by rw [hml]; rfl) (Steps.refl _) (argsL := [(.ref co)]) (rest := []) (lenOf own_pd1 rfl) rfl (by show 2 * 0 + _ ≤ _; exact Nat.le_of_eq rfl) (hb hby own_d_prog_14_method_5_9) (fun _ _ => ⟨rfl, e14, (by decide : 0 + 0 ≤ _), (by decide : 0 + 0 ≤ _)⟩)
  dsimp only [Pt.U, Pt.locs, Pt.cells, Pt.slots] at X15 l15 y15 z15 st15 hQ15
  subst l15 y15 z15
  obtain ⟨rfl, N15q, e15⟩ := hQ15
  have N15 := Fr.app N0 N15q
  refine own_via (mkF m 12 #[rv a, rv co] [(.int (1 : Int32))]) st15 ?_
  refine own_to (T' := T15) (mkF m 19 #[rv a, rv co] []) (fun _ k => XS.ifYes X15.here hx rfl (pc0 := 12) (pc' := 19) rfl (hb hby own_d_prog_14_method_5_12) rfl ((if0 _ _).trans (feq (by decide : ¬ ((1 : Int32) = (0 : Int32)))).2) (by decide) (by decide) k) ?_
  refine own_to (T' := T15) (mkF m 20 #[rv a, rv co] [(.int (0 : Int32))]) (fun _ k => XS.iconst X15.here hx rfl (hb hby own_d_prog_14_method_5_19) k) ?_
  exact own_retN X15 hx (t := .boolean) Bd.returns (by simp) hlk (hb hby own_d_prog_14_method_5_20) (by decide) (by decide) (by rw [e15]; exact ⟨rfl, N15, rfl⟩)
def own_QMB (Z : State) (G1 : Int32) (a co tc : Addr) (kc : ClassId) (cs : List Int32) (b tb : Addr) (kb : ClassId) (ds : List Int32) (h0 : Heap) (n0 : Nat) (v : Option Value) (h : Heap) (L : List Loc) : Prop := ∃ r : Int32, v = some (.int r) ∧ (cs = ds → r = 1) ∧ (¬ cs = ds → r = 0) ∧ Fr n0 L ∧ h = h0
set_option maxRecDepth 65536 in
set_option maxHeartbeats 40000000 in
theorem own_rmMB (l : Launch) (Z : State) (a0 : Array Value) (hw : ∀ d ∈ tables_1, d.before a0 Z = true) (ws : List Jvm.Cond) (G1 : Int32) (a co tc : Addr) (kc : ClassId) (cs : List Int32) (b tb : Addr) (kb : ClassId) (ds : List Int32) (h0 : Heap) (n0 : Nat) (Z0 : n0 ≤ h0.size) (OL : Old Z n0 h0) (Fx : Fld Z h0 a "com/example/saldera/saldera/coupon/Cashier" "crossBranch" "Z" (.int (0 : Int32))) (Fa : Fld Z h0 a "com/example/saldera/saldera/coupon/Cashier" "branch" "Ljava/lang/String;" (.ref b)) (Ea : Exa Z h0 a "com/example/saldera/saldera/coupon/Cashier") (Sc : own_Str Z h0 co tc kc cs) (Sb : own_Str Z h0 b tb kb ds) (O2 : Sta Z Z.heap "java/lang/String" "COMPACT_STRINGS" "Z" (.int G1)) (P5 : ¬ (G1 = (0 : Int32))) :
    MetFree l (⟨"com/example/saldera/saldera/coupon/Cashier", "mayCollect", "(Ljava/lang/String;)Z"⟩ : MethodName) (head1 (Jvm.Cond.code (⟨"com/example/saldera/saldera/coupon/Cashier", "mayCollect", "(Ljava/lang/String;)Z"⟩ : MethodName) prog_14_method_5_code 2 (some .boolean) :: ws) ({ frames := 4, cells := 0, slots := 0, locals := 60 } : Room)) (fun aa_ U => aa_ = #[(.ref a), (.ref co)] ∧ Z.Warmed39 U.vm ∧ U.heap = h0) (fun _ _ _ _ _ => True) (fun _ U o U' => ∃ v L, o = .returned v ∧ own_QMB Z G1 a co tc kc cs b tb kb ds h0 n0 v U'.heap L ∧ FrameEnd U o U' L ({ frames := 4, cells := 0, slots := 0, locals := 60 } : Room).cells ({ frames := 4, cells := 0, slots := 0, locals := 60 } : Room).slots) := by
  refine MetFree.of_bodySF (plainFor_of_name own_pn1) hisR ?_
  intro p e s m args below meth c s₁ Bd hml0 hP hK
  obtain ⟨rfl, hZ, hh⟩ := hP
  have hx := Bd.exec
  have hby := Bd.bytes
  have hlk : meth.locks = false := BodyLoose.notSynchronized Bd
  have hml : c.maxLocals = 2 := hml0
  have hown : s.vm.findClass "com/example/saldera/saldera/coupon/Cashier" = some m.cls := findClass_of_methodNamed Bd.named
  have hnm := (name_of_methodNamed Bd.named Bd.method).1
  have X0 : Stand p l e ({ frames := 4, cells := 0, slots := 0, locals := 60 } : Room) s m #[(.ref a), (.ref co)] below meth c s₁ [] 0 0 := Stand.of_body Bd
  have e0 : s₁.heap = h0 := by rw [← hh, Bd.state]; rfl
  have N0 := Fr.nil n0
  have KP : Keep h0 h0 [] := Keep.refl _ _
  refine own_start (Fin := (own_Fin s (own_QMB Z G1 a co tc kc cs b tb kb ds h0 n0) ({ frames := 4, cells := 0, slots := 0, locals := 60 } : Room).cells ({ frames := 4, cells := 0, slots := 0, locals := 60 } : Room).slots)) (own_from (mkF m 0 #[rv a, rv co] []) (castTop (own_ef_MB m a co)) ?_)
  refine own_to (T' := s₁) (mkF m 1 #[rv a, rv co] [(.ref a)]) (fun _ k => XS.aloadN X0.here hx rfl (hb hby own_d_prog_14_method_5_0) rfl rfl k) ?_
  obtain ⟨T16, X16, e16, st16⟩ := getF X0 hx hZ hown (host := "") (Or.inl (hw _ (List.mem_of_getElem? (i := 44) rfl))) Via.refl e0 Fx (g := (mkF m 1 #[rv a, rv co] [(.ref a)])) rfl rfl (hb hby own_d_prog_14_method_5_1)
  refine own_to (mkF m 4 #[rv a, rv co] [(.int (0 : Int32))]) st16 ?_
  refine own_to (T' := T16) (mkF m 7 #[rv a, rv co] []) (fun _ k => XS.ifNo X16.here hx rfl (hb hby own_d_prog_14_method_5_4) rfl ((if0 _ _).trans (teq (by decide : (0 : Int32) = (0 : Int32))).2) k) ?_
  refine own_to (T' := T16) (mkF m 8 #[rv a, rv co] [(.ref a)]) (fun _ k => XS.aloadN X16.here hx rfl (hb hby own_d_prog_14_method_5_7) rfl rfl k) ?_
  refine own_to (T' := T16) (mkF m 9 #[rv a, rv co] [(.ref co), (.ref a)]) (fun _ k => XS.aloadN X16.here hx rfl (hb hby own_d_prog_14_method_5_8) rfl rfl k) ?_
  obtain ⟨cq17, kq17, q17a, q17b, q17c⟩ := isOf hZ e16 Ea
  obtain ⟨_, _, ⟨T17, L17, k17, n17⟩, -, X17, ⟨Lc17, hQ17, l17, y17, z17⟩, st17⟩ := X16.virtualBack hx (y := (⟨"com/example/saldera/saldera/coupon/Cashier", "isOtherBranch", "(Ljava/lang/String;)Z"⟩ : MethodName)) (z := (⟨"com/example/saldera/saldera/coupon/Cashier", "isOtherBranch", "(Ljava/lang/String;)Z"⟩ : MethodName)) hown (mvT hZ (hw _ (List.mem_of_getElem? (i := 51) rfl))) (mvT hZ (hw _ (List.mem_of_getElem? (i := 52) rfl))) (notFace_of_selects (args := #[]) (mvT hZ (hw _ (List.mem_of_getElem? (i := 54) rfl)))) (mvT hZ (hw _ (List.mem_of_getElem? (i := 54) rfl))) (mvT hZ (hw _ (List.mem_of_getElem? (i := 53) rfl))) (by decide) (backOf (W := 0) (own_rmOB l Z a0 hw [] G1 a co tc kc cs b tb kb ds h0 n0 (Nat.le_trans Z0 KP.1) OL Fa Sc Sb O2 P5) hZ (hw _ (List.mem_of_getElem? (i := 55) rfl)) (hw _ (List.mem_of_getElem? (i := 32) rfl)) (by decide) (by decide)) q17a q17c (g := (mkF m 9 #[rv a, rv co] [(.ref co), (.ref a)])) rfl (by rw [hml]; rfl) (Steps.refl _) (argsL := [(.ref co)]) (rest := []) (lenOf own_pd1 rfl) rfl (by show 2 * 0 + _ ≤ _; exact Nat.le_of_eq rfl) (hb hby own_d_prog_14_method_5_9) (fun _ _ => ⟨rfl, e16, (by decide : 0 + 0 ≤ _), (by decide : 0 + 0 ≤ _)⟩)
  dsimp only [Pt.U, Pt.locs, Pt.cells, Pt.slots] at X17 l17 y17 z17 st17 hQ17
  subst l17 y17 z17
  obtain ⟨r17, rfl, h117, h017, N17q, e17⟩ := hQ17
  have N17 := Fr.app N0 N17q
  refine own_via (mkF m 12 #[rv a, rv co] [(.int r17)]) st17 ?_
  by_cases hr : r17 = (0 : Int32)
  · refine own_to (T' := T17) (mkF m 15 #[rv a, rv co] []) (fun _ k => XS.ifNo X17.here hx rfl (hb hby own_d_prog_14_method_5_12) rfl ((if0 _ _).trans (teq hr).2) k) ?_
    refine own_to (T' := T17) (mkF m 16 #[rv a, rv co] [(.int (1 : Int32))]) (fun _ k => XS.iconst X17.here hx rfl (hb hby own_d_prog_14_method_5_15) k) ?_
    refine own_to (T' := T17) (mkF m 20 #[rv a, rv co] [(.int (1 : Int32))]) (fun _ k => XS.goto X17.here hx rfl (pc0 := 16) (pc' := 20) rfl (hb hby own_d_prog_14_method_5_16) (by decide) (by decide) k) ?_
    exact own_retN X17 hx (t := .boolean) Bd.returns (by simp) hlk (hb hby own_d_prog_14_method_5_20) (by decide) (by decide) (by rw [e17]; exact ⟨_, rfl, fun _ => rfl, fun z => absurd (h017 z) (by rw [hr]; decide), N17, rfl⟩)
  · refine own_to (T' := T17) (mkF m 19 #[rv a, rv co] []) (fun _ k => XS.ifYes X17.here hx rfl (pc0 := 12) (pc' := 19) rfl (hb hby own_d_prog_14_method_5_12) rfl ((if0 _ _).trans (feq hr).2) (by decide) (by decide) k) ?_
    refine own_to (T' := T17) (mkF m 20 #[rv a, rv co] [(.int (0 : Int32))]) (fun _ k => XS.iconst X17.here hx rfl (hb hby own_d_prog_14_method_5_19) k) ?_
    exact own_retN X17 hx (t := .boolean) Bd.returns (by simp) hlk (hb hby own_d_prog_14_method_5_20) (by decide) (by decide) (by rw [e17]; exact ⟨_, rfl, fun z => absurd (h117 z) hr, fun _ => rfl, N17, rfl⟩)
def own_Q0 (Z : State) (p0 p1 p2 : Int32) (G1 : Int32) (h0 : Heap) (n0 : Nat) (v : Option Value) (h : Heap) (L : List Loc) : Prop := v = some (.int 1) ∧ Fr n0 L
set_option maxRecDepth 65536 in
set_option maxHeartbeats 40000000 in
theorem own_rm0 (l : Launch) (Z : State) (a0 : Array Value) (hw : ∀ d ∈ tables_1, d.before a0 Z = true) (ws : List Jvm.Cond) (p0 p1 p2 : Int32) (G1 : Int32) (h0 : Heap) (n0 : Nat) (Z0 : n0 ≤ h0.size) (OL : Old Z n0 h0) (O2 : Sta Z Z.heap "java/lang/String" "COMPACT_STRINGS" "Z" (.int G1)) (P5 : ¬ (G1 = (0 : Int32))) :
    MetFree l x (head1 (Jvm.Cond.code x code maxLocals ret :: ws) room_1) (fun aa_ U => aa_ = #[(.int p0), (.int p1), (.int p2)] ∧ Z.Warmed39 U.vm ∧ U.heap = h0) (fun _ _ _ _ _ => True) (fun _ U o U' => ∃ v L, o = .returned v ∧ own_Q0 Z p0 p1 p2 G1 h0 n0 v U'.heap L ∧ ReturnedEndW U o U' L room_1.cells room_1.slots) := by
  refine MetFree.of_bodySF (plainFor_of_name own_pn2) hisR ?_
  intro p e s m args below meth c s₁ Bd hml0 hP hK
  obtain ⟨rfl, hZ, hh⟩ := hP
  have hx := Bd.exec
  have hby := Bd.bytes
  have hlk : meth.locks = false := BodyLoose.notSynchronized Bd
  have hml : c.maxLocals = 19 := hml0
  have hown : s.vm.findClass "com/example/saldera/saldera/coupon/CashierMayCollectPinLaw" = some m.cls := findClass_of_methodNamed Bd.named
  have hnm := (name_of_methodNamed Bd.named Bd.method).1
  have X0 : Stand p l e room_1 s m #[(.int p0), (.int p1), (.int p2)] below meth c s₁ [] 0 0 := Stand.of_body Bd
  have e0 : s₁.heap = h0 := by rw [← hh, Bd.state]; rfl
  have N0 := Fr.nil n0
  have KP : Keep h0 h0 [] := Keep.refl _ _
  have hS : s.Since s.vm 0 := (State.WarmedH.refl s).since 0
  have hk1 : 0 ≤ h0.size := Nat.zero_le _
  refine own_start (Fin := (own_FinW s (own_Q0 Z p0 p1 p2 G1 h0 n0) room_1.cells room_1.slots)) (own_from (mkF m 0 #[iv p0, iv p1, iv p2, .unset, .unset, .unset, .unset, .unset, .unset, .unset, .unset, .unset, .unset, .unset, .unset, .unset, .unset, .unset, .unset] []) (castTop (own_ef_0 m p0 p1 p2)) ?_)
  have hwsV : ∀ d ∈ StrChars.Road.words, d.before a0 Z = true := fun d hd => hw d (own_wV d hd)
  have hwsS : ∀ d ∈ Bundle.stringAtoms, d.before a0 Z = true := fun d hd => hw d (own_wS d hd)
  refine own_to (T' := s₁) (mkF m 1 #[iv p0, iv p1, iv p2, .unset, .unset, .unset, .unset, .unset, .unset, .unset, .unset, .unset, .unset, .unset, .unset, .unset, .unset, .unset, .unset] [(.int p2)]) (fun _ k => XS.iloadN X0.here hx rfl (hb hby at_0) rfl k) ?_
  refine own_to (T' := s₁) (mkF m 2 #[iv p0, iv p1, iv p2, .unset, .unset, .unset, .unset, .unset, .unset, .unset, .unset, .unset, .unset, .unset, .unset, .unset, .unset, .unset, .unset] [(.int (1 : Int32)), (.int p2)]) (fun _ k => XS.iconst X0.here hx rfl (hb hby at_1) k) ?_
  refine own_to (T' := s₁) (mkF m 3 #[iv p0, iv p1, iv p2, .unset, .unset, .unset, .unset, .unset, .unset, .unset, .unset, .unset, .unset, .unset, .unset, .unset, .unset, .unset, .unset] [(.int (p2 &&& (1 : Int32)))]) (fun _ k => XS.iand X0.here hx rfl (hb hby at_2) rfl k) ?_
  suffices jn18 : ∀ d3 : Int32, ((p2 &&& (1 : Int32)) = (0 : Int32) → d3 = (0 : Int32)) → (¬ (p2 &&& (1 : Int32)) = (0 : Int32) → d3 = (1 : Int32)) → own_E p e below (own_FinW s (own_Q0 Z p0 p1 p2 G1 h0 n0) room_1.cells room_1.slots) s₁ (mkF m 11 #[iv p0, iv p1, iv p2, .unset, .unset, .unset, .unset, .unset, .unset, .unset, .unset, .unset, .unset, .unset, .unset, .unset, .unset, .unset, .unset] [(.int d3)]) from by
    by_cases hfd3 : (p2 &&& (1 : Int32)) = (0 : Int32)
    · refine own_to (T' := s₁) (mkF m 10 #[iv p0, iv p1, iv p2, .unset, .unset, .unset, .unset, .unset, .unset, .unset, .unset, .unset, .unset, .unset, .unset, .unset, .unset, .unset, .unset] []) (fun _ k => XS.ifYes X0.here hx rfl (pc0 := 3) (pc' := 10) rfl (hb hby at_3) rfl ((if0 _ _).trans (teq hfd3).1) (by decide) (by decide) k) ?_
      refine own_to (T' := s₁) (mkF m 11 #[iv p0, iv p1, iv p2, .unset, .unset, .unset, .unset, .unset, .unset, .unset, .unset, .unset, .unset, .unset, .unset, .unset, .unset, .unset, .unset] [(.int (0 : Int32))]) (fun _ k => XS.iconst X0.here hx rfl (hb hby at_10) k) ?_
      exact jn18 (0 : Int32) (fun _ => rfl) (fun q => absurd hfd3 q)
    · refine own_to (T' := s₁) (mkF m 6 #[iv p0, iv p1, iv p2, .unset, .unset, .unset, .unset, .unset, .unset, .unset, .unset, .unset, .unset, .unset, .unset, .unset, .unset, .unset, .unset] []) (fun _ k => XS.ifNo X0.here hx rfl (hb hby at_3) rfl ((if0 _ _).trans (feq hfd3).1) k) ?_
      refine own_to (T' := s₁) (mkF m 7 #[iv p0, iv p1, iv p2, .unset, .unset, .unset, .unset, .unset, .unset, .unset, .unset, .unset, .unset, .unset, .unset, .unset, .unset, .unset, .unset] [(.int (1 : Int32))]) (fun _ k => XS.iconst X0.here hx rfl (hb hby at_6) k) ?_
      refine own_to (T' := s₁) (mkF m 11 #[iv p0, iv p1, iv p2, .unset, .unset, .unset, .unset, .unset, .unset, .unset, .unset, .unset, .unset, .unset, .unset, .unset, .unset, .unset, .unset] [(.int (1 : Int32))]) (fun _ k => XS.goto X0.here hx rfl (pc0 := 7) (pc' := 11) rfl (hb hby at_7) (by decide) (by decide) k) ?_
      exact jn18 (1 : Int32) (fun q => absurd q hfd3) (fun _ => rfl)
  intro d3 hd3t hd3f
  refine own_to (T' := s₁) (mkF m 12 #[iv p0, iv p1, iv p2, iv d3, .unset, .unset, .unset, .unset, .unset, .unset, .unset, .unset, .unset, .unset, .unset, .unset, .unset, .unset, .unset] []) (fun _ k => XS.istoreN X0.here hx rfl (hb hby at_11) rfl (l' := #[iv p0, iv p1, iv p2, iv d3, .unset, .unset, .unset, .unset, .unset, .unset, .unset, .unset, .unset, .unset, .unset, .unset, .unset, .unset, .unset]) rfl k) ?_
  refine own_to (T' := s₁) (mkF m 13 #[iv p0, iv p1, iv p2, iv d3, .unset, .unset, .unset, .unset, .unset, .unset, .unset, .unset, .unset, .unset, .unset, .unset, .unset, .unset, .unset] [(.int p2)]) (fun _ k => XS.iloadN X0.here hx rfl (hb hby at_12) rfl k) ?_
  refine own_to (T' := s₁) (mkF m 14 #[iv p0, iv p1, iv p2, iv d3, .unset, .unset, .unset, .unset, .unset, .unset, .unset, .unset, .unset, .unset, .unset, .unset, .unset, .unset, .unset] [(.int (2 : Int32)), (.int p2)]) (fun _ k => XS.iconst X0.here hx rfl (hb hby at_13) k) ?_
  refine own_to (T' := s₁) (mkF m 15 #[iv p0, iv p1, iv p2, iv d3, .unset, .unset, .unset, .unset, .unset, .unset, .unset, .unset, .unset, .unset, .unset, .unset, .unset, .unset, .unset] [(.int (p2 &&& (2 : Int32)))]) (fun _ k => XS.iand X0.here hx rfl (hb hby at_14) rfl k) ?_
  suffices jn19 : ∀ d4 : Int32, ((p2 &&& (2 : Int32)) = (0 : Int32) → d4 = (0 : Int32)) → (¬ (p2 &&& (2 : Int32)) = (0 : Int32) → d4 = (1 : Int32)) → own_E p e below (own_FinW s (own_Q0 Z p0 p1 p2 G1 h0 n0) room_1.cells room_1.slots) s₁ (mkF m 23 #[iv p0, iv p1, iv p2, iv d3, .unset, .unset, .unset, .unset, .unset, .unset, .unset, .unset, .unset, .unset, .unset, .unset, .unset, .unset, .unset] [(.int d4)]) from by
    by_cases hfd4 : (p2 &&& (2 : Int32)) = (0 : Int32)
    · refine own_to (T' := s₁) (mkF m 22 #[iv p0, iv p1, iv p2, iv d3, .unset, .unset, .unset, .unset, .unset, .unset, .unset, .unset, .unset, .unset, .unset, .unset, .unset, .unset, .unset] []) (fun _ k => XS.ifYes X0.here hx rfl (pc0 := 15) (pc' := 22) rfl (hb hby at_15) rfl ((if0 _ _).trans (teq hfd4).1) (by decide) (by decide) k) ?_
      refine own_to (T' := s₁) (mkF m 23 #[iv p0, iv p1, iv p2, iv d3, .unset, .unset, .unset, .unset, .unset, .unset, .unset, .unset, .unset, .unset, .unset, .unset, .unset, .unset, .unset] [(.int (0 : Int32))]) (fun _ k => XS.iconst X0.here hx rfl (hb hby at_22) k) ?_
      exact jn19 (0 : Int32) (fun _ => rfl) (fun q => absurd hfd4 q)
    · refine own_to (T' := s₁) (mkF m 18 #[iv p0, iv p1, iv p2, iv d3, .unset, .unset, .unset, .unset, .unset, .unset, .unset, .unset, .unset, .unset, .unset, .unset, .unset, .unset, .unset] []) (fun _ k => XS.ifNo X0.here hx rfl (hb hby at_15) rfl ((if0 _ _).trans (feq hfd4).1) k) ?_
      refine own_to (T' := s₁) (mkF m 19 #[iv p0, iv p1, iv p2, iv d3, .unset, .unset, .unset, .unset, .unset, .unset, .unset, .unset, .unset, .unset, .unset, .unset, .unset, .unset, .unset] [(.int (1 : Int32))]) (fun _ k => XS.iconst X0.here hx rfl (hb hby at_18) k) ?_
      refine own_to (T' := s₁) (mkF m 23 #[iv p0, iv p1, iv p2, iv d3, .unset, .unset, .unset, .unset, .unset, .unset, .unset, .unset, .unset, .unset, .unset, .unset, .unset, .unset, .unset] [(.int (1 : Int32))]) (fun _ k => XS.goto X0.here hx rfl (pc0 := 19) (pc' := 23) rfl (hb hby at_19) (by decide) (by decide) k) ?_
      exact jn19 (1 : Int32) (fun q => absurd q hfd4) (fun _ => rfl)
  intro d4 hd4t hd4f
  refine own_to (T' := s₁) (mkF m 25 #[iv p0, iv p1, iv p2, iv d3, iv d4, .unset, .unset, .unset, .unset, .unset, .unset, .unset, .unset, .unset, .unset, .unset, .unset, .unset, .unset] []) (fun _ k => XS.istore X0.here hx rfl (hb hby at_23) rfl (l' := #[iv p0, iv p1, iv p2, iv d3, iv d4, .unset, .unset, .unset, .unset, .unset, .unset, .unset, .unset, .unset, .unset, .unset, .unset, .unset, .unset]) rfl k) ?_
  refine own_to (T' := s₁) (mkF m 26 #[iv p0, iv p1, iv p2, iv d3, iv d4, .unset, .unset, .unset, .unset, .unset, .unset, .unset, .unset, .unset, .unset, .unset, .unset, .unset, .unset] [(.int p2)]) (fun _ k => XS.iloadN X0.here hx rfl (hb hby at_25) rfl k) ?_
  refine own_to (T' := s₁) (mkF m 28 #[iv p0, iv p1, iv p2, iv d3, iv d4, .unset, .unset, .unset, .unset, .unset, .unset, .unset, .unset, .unset, .unset, .unset, .unset, .unset, .unset] [(.int (64 : Int32)), (.int p2)]) (fun _ k => XS.bipush X0.here hx rfl (hb hby at_26) k) ?_
  refine own_to (T' := s₁) (mkF m 29 #[iv p0, iv p1, iv p2, iv d3, iv d4, .unset, .unset, .unset, .unset, .unset, .unset, .unset, .unset, .unset, .unset, .unset, .unset, .unset, .unset] [(.int (p2 &&& (64 : Int32)))]) (fun _ k => XS.iand X0.here hx rfl (hb hby at_28) rfl k) ?_
  suffices jn20 : ∀ d5 : Int32, ((p2 &&& (64 : Int32)) = (0 : Int32) → d5 = (0 : Int32)) → (¬ (p2 &&& (64 : Int32)) = (0 : Int32) → d5 = (1 : Int32)) → own_E p e below (own_FinW s (own_Q0 Z p0 p1 p2 G1 h0 n0) room_1.cells room_1.slots) s₁ (mkF m 37 #[iv p0, iv p1, iv p2, iv d3, iv d4, .unset, .unset, .unset, .unset, .unset, .unset, .unset, .unset, .unset, .unset, .unset, .unset, .unset, .unset] [(.int d5)]) from by
    by_cases hfd5 : (p2 &&& (64 : Int32)) = (0 : Int32)
    · refine own_to (T' := s₁) (mkF m 36 #[iv p0, iv p1, iv p2, iv d3, iv d4, .unset, .unset, .unset, .unset, .unset, .unset, .unset, .unset, .unset, .unset, .unset, .unset, .unset, .unset] []) (fun _ k => XS.ifYes X0.here hx rfl (pc0 := 29) (pc' := 36) rfl (hb hby at_29) rfl ((if0 _ _).trans (teq hfd5).1) (by decide) (by decide) k) ?_
      refine own_to (T' := s₁) (mkF m 37 #[iv p0, iv p1, iv p2, iv d3, iv d4, .unset, .unset, .unset, .unset, .unset, .unset, .unset, .unset, .unset, .unset, .unset, .unset, .unset, .unset] [(.int (0 : Int32))]) (fun _ k => XS.iconst X0.here hx rfl (hb hby at_36) k) ?_
      exact jn20 (0 : Int32) (fun _ => rfl) (fun q => absurd hfd5 q)
    · refine own_to (T' := s₁) (mkF m 32 #[iv p0, iv p1, iv p2, iv d3, iv d4, .unset, .unset, .unset, .unset, .unset, .unset, .unset, .unset, .unset, .unset, .unset, .unset, .unset, .unset] []) (fun _ k => XS.ifNo X0.here hx rfl (hb hby at_29) rfl ((if0 _ _).trans (feq hfd5).1) k) ?_
      refine own_to (T' := s₁) (mkF m 33 #[iv p0, iv p1, iv p2, iv d3, iv d4, .unset, .unset, .unset, .unset, .unset, .unset, .unset, .unset, .unset, .unset, .unset, .unset, .unset, .unset] [(.int (1 : Int32))]) (fun _ k => XS.iconst X0.here hx rfl (hb hby at_32) k) ?_
      refine own_to (T' := s₁) (mkF m 37 #[iv p0, iv p1, iv p2, iv d3, iv d4, .unset, .unset, .unset, .unset, .unset, .unset, .unset, .unset, .unset, .unset, .unset, .unset, .unset, .unset] [(.int (1 : Int32))]) (fun _ k => XS.goto X0.here hx rfl (pc0 := 33) (pc' := 37) rfl (hb hby at_33) (by decide) (by decide) k) ?_
      exact jn20 (1 : Int32) (fun q => absurd q hfd5) (fun _ => rfl)
  intro d5 hd5t hd5f
  refine own_to (T' := s₁) (mkF m 39 #[iv p0, iv p1, iv p2, iv d3, iv d4, iv d5, .unset, .unset, .unset, .unset, .unset, .unset, .unset, .unset, .unset, .unset, .unset, .unset, .unset] []) (fun _ k => XS.istore X0.here hx rfl (hb hby at_37) rfl (l' := #[iv p0, iv p1, iv p2, iv d3, iv d4, iv d5, .unset, .unset, .unset, .unset, .unset, .unset, .unset, .unset, .unset, .unset, .unset, .unset, .unset]) rfl k) ?_
  refine own_to (T' := s₁) (mkF m 40 #[iv p0, iv p1, iv p2, iv d3, iv d4, iv d5, .unset, .unset, .unset, .unset, .unset, .unset, .unset, .unset, .unset, .unset, .unset, .unset, .unset] [(.int p0)]) (fun _ k => XS.iloadN X0.here hx rfl (hb hby at_39) rfl k) ?_
  refine own_to (T' := s₁) (mkF m 43 #[iv p0, iv p1, iv p2, iv d3, iv d4, iv d5, .unset, .unset, .unset, .unset, .unset, .unset, .unset, .unset, .unset, .unset, .unset, .unset, .unset] [(.int (255 : Int32)), (.int p0)]) (fun _ k => XS.sipush X0.here hx rfl (hb hby at_40) k) ?_
  refine own_to (T' := s₁) (mkF m 44 #[iv p0, iv p1, iv p2, iv d3, iv d4, iv d5, .unset, .unset, .unset, .unset, .unset, .unset, .unset, .unset, .unset, .unset, .unset, .unset, .unset] [(.int (p0 &&& (255 : Int32)))]) (fun _ k => XS.iand X0.here hx rfl (hb hby at_43) rfl k) ?_
  refine own_to (T' := s₁) (mkF m 45 #[iv p0, iv p1, iv p2, iv d3, iv d4, iv d5, .unset, .unset, .unset, .unset, .unset, .unset, .unset, .unset, .unset, .unset, .unset, .unset, .unset] [(.int ((p0 &&& (255 : Int32)).toUInt32.toUInt16.toUInt32.toInt32))]) (fun _ k => XS.i2c X0.here hx rfl (hb hby at_44) rfl k) ?_
  generalize hb0 : ((p0 &&& (255 : Int32)).toUInt32.toUInt16.toUInt32.toInt32) = b0
  have c8_b0 : own_C8 b0 := own_ch8 hb0
  refine own_to (T' := s₁) (mkF m 47 #[iv p0, iv p1, iv p2, iv d3, iv d4, iv d5, iv b0, .unset, .unset, .unset, .unset, .unset, .unset, .unset, .unset, .unset, .unset, .unset, .unset] []) (fun _ k => XS.istore X0.here hx rfl (hb hby at_45) rfl (l' := #[iv p0, iv p1, iv p2, iv d3, iv d4, iv d5, iv b0, .unset, .unset, .unset, .unset, .unset, .unset, .unset, .unset, .unset, .unset, .unset, .unset]) rfl k) ?_
  refine own_to (T' := s₁) (mkF m 48 #[iv p0, iv p1, iv p2, iv d3, iv d4, iv d5, iv b0, .unset, .unset, .unset, .unset, .unset, .unset, .unset, .unset, .unset, .unset, .unset, .unset] [(.int p0)]) (fun _ k => XS.iloadN X0.here hx rfl (hb hby at_47) rfl k) ?_
  refine own_to (T' := s₁) (mkF m 50 #[iv p0, iv p1, iv p2, iv d3, iv d4, iv d5, iv b0, .unset, .unset, .unset, .unset, .unset, .unset, .unset, .unset, .unset, .unset, .unset, .unset] [(.int (8 : Int32)), (.int p0)]) (fun _ k => XS.bipush X0.here hx rfl (hb hby at_48) k) ?_
  refine own_to (T' := s₁) (mkF m 51 #[iv p0, iv p1, iv p2, iv d3, iv d4, iv d5, iv b0, .unset, .unset, .unset, .unset, .unset, .unset, .unset, .unset, .unset, .unset, .unset, .unset] [(.int ((p0.toUInt32 >>> ((8 : Int32) &&& 31).toUInt32).toInt32))]) (fun _ k => XS.iushr X0.here hx rfl (hb hby at_50) rfl k) ?_
  refine own_to (T' := s₁) (mkF m 54 #[iv p0, iv p1, iv p2, iv d3, iv d4, iv d5, iv b0, .unset, .unset, .unset, .unset, .unset, .unset, .unset, .unset, .unset, .unset, .unset, .unset] [(.int (255 : Int32)), (.int ((p0.toUInt32 >>> ((8 : Int32) &&& 31).toUInt32).toInt32))]) (fun _ k => XS.sipush X0.here hx rfl (hb hby at_51) k) ?_
  refine own_to (T' := s₁) (mkF m 55 #[iv p0, iv p1, iv p2, iv d3, iv d4, iv d5, iv b0, .unset, .unset, .unset, .unset, .unset, .unset, .unset, .unset, .unset, .unset, .unset, .unset] [(.int (((p0.toUInt32 >>> ((8 : Int32) &&& 31).toUInt32).toInt32) &&& (255 : Int32)))]) (fun _ k => XS.iand X0.here hx rfl (hb hby at_54) rfl k) ?_
  refine own_to (T' := s₁) (mkF m 56 #[iv p0, iv p1, iv p2, iv d3, iv d4, iv d5, iv b0, .unset, .unset, .unset, .unset, .unset, .unset, .unset, .unset, .unset, .unset, .unset, .unset] [(.int ((((p0.toUInt32 >>> ((8 : Int32) &&& 31).toUInt32).toInt32) &&& (255 : Int32)).toUInt32.toUInt16.toUInt32.toInt32))]) (fun _ k => XS.i2c X0.here hx rfl (hb hby at_55) rfl k) ?_
  generalize hb1 : ((((p0.toUInt32 >>> ((8 : Int32) &&& 31).toUInt32).toInt32) &&& (255 : Int32)).toUInt32.toUInt16.toUInt32.toInt32) = b1
  have c8_b1 : own_C8 b1 := own_ch8 hb1
  refine own_to (T' := s₁) (mkF m 58 #[iv p0, iv p1, iv p2, iv d3, iv d4, iv d5, iv b0, iv b1, .unset, .unset, .unset, .unset, .unset, .unset, .unset, .unset, .unset, .unset, .unset] []) (fun _ k => XS.istore X0.here hx rfl (hb hby at_56) rfl (l' := #[iv p0, iv p1, iv p2, iv d3, iv d4, iv d5, iv b0, iv b1, .unset, .unset, .unset, .unset, .unset, .unset, .unset, .unset, .unset, .unset, .unset]) rfl k) ?_
  refine own_to (T' := s₁) (mkF m 59 #[iv p0, iv p1, iv p2, iv d3, iv d4, iv d5, iv b0, iv b1, .unset, .unset, .unset, .unset, .unset, .unset, .unset, .unset, .unset, .unset, .unset] [(.int p0)]) (fun _ k => XS.iloadN X0.here hx rfl (hb hby at_58) rfl k) ?_
  refine own_to (T' := s₁) (mkF m 61 #[iv p0, iv p1, iv p2, iv d3, iv d4, iv d5, iv b0, iv b1, .unset, .unset, .unset, .unset, .unset, .unset, .unset, .unset, .unset, .unset, .unset] [(.int (16 : Int32)), (.int p0)]) (fun _ k => XS.bipush X0.here hx rfl (hb hby at_59) k) ?_
  refine own_to (T' := s₁) (mkF m 62 #[iv p0, iv p1, iv p2, iv d3, iv d4, iv d5, iv b0, iv b1, .unset, .unset, .unset, .unset, .unset, .unset, .unset, .unset, .unset, .unset, .unset] [(.int ((p0.toUInt32 >>> ((16 : Int32) &&& 31).toUInt32).toInt32))]) (fun _ k => XS.iushr X0.here hx rfl (hb hby at_61) rfl k) ?_
  refine own_to (T' := s₁) (mkF m 65 #[iv p0, iv p1, iv p2, iv d3, iv d4, iv d5, iv b0, iv b1, .unset, .unset, .unset, .unset, .unset, .unset, .unset, .unset, .unset, .unset, .unset] [(.int (255 : Int32)), (.int ((p0.toUInt32 >>> ((16 : Int32) &&& 31).toUInt32).toInt32))]) (fun _ k => XS.sipush X0.here hx rfl (hb hby at_62) k) ?_
  refine own_to (T' := s₁) (mkF m 66 #[iv p0, iv p1, iv p2, iv d3, iv d4, iv d5, iv b0, iv b1, .unset, .unset, .unset, .unset, .unset, .unset, .unset, .unset, .unset, .unset, .unset] [(.int (((p0.toUInt32 >>> ((16 : Int32) &&& 31).toUInt32).toInt32) &&& (255 : Int32)))]) (fun _ k => XS.iand X0.here hx rfl (hb hby at_65) rfl k) ?_
  refine own_to (T' := s₁) (mkF m 67 #[iv p0, iv p1, iv p2, iv d3, iv d4, iv d5, iv b0, iv b1, .unset, .unset, .unset, .unset, .unset, .unset, .unset, .unset, .unset, .unset, .unset] [(.int ((((p0.toUInt32 >>> ((16 : Int32) &&& 31).toUInt32).toInt32) &&& (255 : Int32)).toUInt32.toUInt16.toUInt32.toInt32))]) (fun _ k => XS.i2c X0.here hx rfl (hb hby at_66) rfl k) ?_
  generalize hb2 : ((((p0.toUInt32 >>> ((16 : Int32) &&& 31).toUInt32).toInt32) &&& (255 : Int32)).toUInt32.toUInt16.toUInt32.toInt32) = b2
  have c8_b2 : own_C8 b2 := own_ch8 hb2
  refine own_to (T' := s₁) (mkF m 69 #[iv p0, iv p1, iv p2, iv d3, iv d4, iv d5, iv b0, iv b1, iv b2, .unset, .unset, .unset, .unset, .unset, .unset, .unset, .unset, .unset, .unset] []) (fun _ k => XS.istore X0.here hx rfl (hb hby at_67) rfl (l' := #[iv p0, iv p1, iv p2, iv d3, iv d4, iv d5, iv b0, iv b1, iv b2, .unset, .unset, .unset, .unset, .unset, .unset, .unset, .unset, .unset, .unset]) rfl k) ?_
  refine own_to (T' := s₁) (mkF m 70 #[iv p0, iv p1, iv p2, iv d3, iv d4, iv d5, iv b0, iv b1, iv b2, .unset, .unset, .unset, .unset, .unset, .unset, .unset, .unset, .unset, .unset] [(.int p0)]) (fun _ k => XS.iloadN X0.here hx rfl (hb hby at_69) rfl k) ?_
  refine own_to (T' := s₁) (mkF m 72 #[iv p0, iv p1, iv p2, iv d3, iv d4, iv d5, iv b0, iv b1, iv b2, .unset, .unset, .unset, .unset, .unset, .unset, .unset, .unset, .unset, .unset] [(.int (24 : Int32)), (.int p0)]) (fun _ k => XS.bipush X0.here hx rfl (hb hby at_70) k) ?_
  refine own_to (T' := s₁) (mkF m 73 #[iv p0, iv p1, iv p2, iv d3, iv d4, iv d5, iv b0, iv b1, iv b2, .unset, .unset, .unset, .unset, .unset, .unset, .unset, .unset, .unset, .unset] [(.int ((p0.toUInt32 >>> ((24 : Int32) &&& 31).toUInt32).toInt32))]) (fun _ k => XS.iushr X0.here hx rfl (hb hby at_72) rfl k) ?_
  refine own_to (T' := s₁) (mkF m 76 #[iv p0, iv p1, iv p2, iv d3, iv d4, iv d5, iv b0, iv b1, iv b2, .unset, .unset, .unset, .unset, .unset, .unset, .unset, .unset, .unset, .unset] [(.int (255 : Int32)), (.int ((p0.toUInt32 >>> ((24 : Int32) &&& 31).toUInt32).toInt32))]) (fun _ k => XS.sipush X0.here hx rfl (hb hby at_73) k) ?_
  refine own_to (T' := s₁) (mkF m 77 #[iv p0, iv p1, iv p2, iv d3, iv d4, iv d5, iv b0, iv b1, iv b2, .unset, .unset, .unset, .unset, .unset, .unset, .unset, .unset, .unset, .unset] [(.int (((p0.toUInt32 >>> ((24 : Int32) &&& 31).toUInt32).toInt32) &&& (255 : Int32)))]) (fun _ k => XS.iand X0.here hx rfl (hb hby at_76) rfl k) ?_
  refine own_to (T' := s₁) (mkF m 78 #[iv p0, iv p1, iv p2, iv d3, iv d4, iv d5, iv b0, iv b1, iv b2, .unset, .unset, .unset, .unset, .unset, .unset, .unset, .unset, .unset, .unset] [(.int ((((p0.toUInt32 >>> ((24 : Int32) &&& 31).toUInt32).toInt32) &&& (255 : Int32)).toUInt32.toUInt16.toUInt32.toInt32))]) (fun _ k => XS.i2c X0.here hx rfl (hb hby at_77) rfl k) ?_
  generalize hb3 : ((((p0.toUInt32 >>> ((24 : Int32) &&& 31).toUInt32).toInt32) &&& (255 : Int32)).toUInt32.toUInt16.toUInt32.toInt32) = b3
  have c8_b3 : own_C8 b3 := own_ch8 hb3
  refine own_to (T' := s₁) (mkF m 80 #[iv p0, iv p1, iv p2, iv d3, iv d4, iv d5, iv b0, iv b1, iv b2, iv b3, .unset, .unset, .unset, .unset, .unset, .unset, .unset, .unset, .unset] []) (fun _ k => XS.istore X0.here hx rfl (hb hby at_78) rfl (l' := #[iv p0, iv p1, iv p2, iv d3, iv d4, iv d5, iv b0, iv b1, iv b2, iv b3, .unset, .unset, .unset, .unset, .unset, .unset, .unset, .unset, .unset]) rfl k) ?_
  refine own_to (T' := s₁) (mkF m 81 #[iv p0, iv p1, iv p2, iv d3, iv d4, iv d5, iv b0, iv b1, iv b2, iv b3, .unset, .unset, .unset, .unset, .unset, .unset, .unset, .unset, .unset] [(.int p2)]) (fun _ k => XS.iloadN X0.here hx rfl (hb hby at_80) rfl k) ?_
  refine own_to (T' := s₁) (mkF m 82 #[iv p0, iv p1, iv p2, iv d3, iv d4, iv d5, iv b0, iv b1, iv b2, iv b3, .unset, .unset, .unset, .unset, .unset, .unset, .unset, .unset, .unset] [(.int (4 : Int32)), (.int p2)]) (fun _ k => XS.iconst X0.here hx rfl (hb hby at_81) k) ?_
  refine own_to (T' := s₁) (mkF m 83 #[iv p0, iv p1, iv p2, iv d3, iv d4, iv d5, iv b0, iv b1, iv b2, iv b3, .unset, .unset, .unset, .unset, .unset, .unset, .unset, .unset, .unset] [(.int (p2 &&& (4 : Int32)))]) (fun _ k => XS.iand X0.here hx rfl (hb hby at_82) rfl k) ?_
  suffices jn21 : ∀ c0 : Int32, ((p2 &&& (4 : Int32)) = (0 : Int32) → c0 = ((p1 &&& (255 : Int32)).toUInt32.toUInt16.toUInt32.toInt32)) → (¬ (p2 &&& (4 : Int32)) = (0 : Int32) → c0 = b0) → own_E p e below (own_FinW s (own_Q0 Z p0 p1 p2 G1 h0 n0) room_1.cells room_1.slots) s₁ (mkF m 97 #[iv p0, iv p1, iv p2, iv d3, iv d4, iv d5, iv b0, iv b1, iv b2, iv b3, .unset, .unset, .unset, .unset, .unset, .unset, .unset, .unset, .unset] [(.int c0)]) from by
    by_cases hj0 : (p2 &&& (4 : Int32)) = (0 : Int32)
    · refine own_to (T' := s₁) (mkF m 91 #[iv p0, iv p1, iv p2, iv d3, iv d4, iv d5, iv b0, iv b1, iv b2, iv b3, .unset, .unset, .unset, .unset, .unset, .unset, .unset, .unset, .unset] []) (fun _ k => XS.ifYes X0.here hx rfl (pc0 := 83) (pc' := 91) rfl (hb hby at_83) rfl ((if0 _ _).trans (teq hj0).1) (by decide) (by decide) k) ?_
      refine own_to (T' := s₁) (mkF m 92 #[iv p0, iv p1, iv p2, iv d3, iv d4, iv d5, iv b0, iv b1, iv b2, iv b3, .unset, .unset, .unset, .unset, .unset, .unset, .unset, .unset, .unset] [(.int p1)]) (fun _ k => XS.iloadN X0.here hx rfl (hb hby at_91) rfl k) ?_
      refine own_to (T' := s₁) (mkF m 95 #[iv p0, iv p1, iv p2, iv d3, iv d4, iv d5, iv b0, iv b1, iv b2, iv b3, .unset, .unset, .unset, .unset, .unset, .unset, .unset, .unset, .unset] [(.int (255 : Int32)), (.int p1)]) (fun _ k => XS.sipush X0.here hx rfl (hb hby at_92) k) ?_
      refine own_to (T' := s₁) (mkF m 96 #[iv p0, iv p1, iv p2, iv d3, iv d4, iv d5, iv b0, iv b1, iv b2, iv b3, .unset, .unset, .unset, .unset, .unset, .unset, .unset, .unset, .unset] [(.int (p1 &&& (255 : Int32)))]) (fun _ k => XS.iand X0.here hx rfl (hb hby at_95) rfl k) ?_
      refine own_to (T' := s₁) (mkF m 97 #[iv p0, iv p1, iv p2, iv d3, iv d4, iv d5, iv b0, iv b1, iv b2, iv b3, .unset, .unset, .unset, .unset, .unset, .unset, .unset, .unset, .unset] [(.int ((p1 &&& (255 : Int32)).toUInt32.toUInt16.toUInt32.toInt32))]) (fun _ k => XS.i2c X0.here hx rfl (hb hby at_96) rfl k) ?_
      exact jn21 ((p1 &&& (255 : Int32)).toUInt32.toUInt16.toUInt32.toInt32) (fun _ => rfl) (fun q => absurd hj0 q)
    · refine own_to (T' := s₁) (mkF m 86 #[iv p0, iv p1, iv p2, iv d3, iv d4, iv d5, iv b0, iv b1, iv b2, iv b3, .unset, .unset, .unset, .unset, .unset, .unset, .unset, .unset, .unset] []) (fun _ k => XS.ifNo X0.here hx rfl (hb hby at_83) rfl ((if0 _ _).trans (feq hj0).1) k) ?_
      refine own_to (T' := s₁) (mkF m 88 #[iv p0, iv p1, iv p2, iv d3, iv d4, iv d5, iv b0, iv b1, iv b2, iv b3, .unset, .unset, .unset, .unset, .unset, .unset, .unset, .unset, .unset] [(.int b0)]) (fun _ k => XS.iload X0.here hx rfl (hb hby at_86) rfl k) ?_
      refine own_to (T' := s₁) (mkF m 97 #[iv p0, iv p1, iv p2, iv d3, iv d4, iv d5, iv b0, iv b1, iv b2, iv b3, .unset, .unset, .unset, .unset, .unset, .unset, .unset, .unset, .unset] [(.int b0)]) (fun _ k => XS.goto X0.here hx rfl (pc0 := 88) (pc' := 97) rfl (hb hby at_88) (by decide) (by decide) k) ?_
      exact jn21 b0 (fun q => absurd q hj0) (fun _ => rfl)
  intro c0 hc0t hc0f
  have c8_c0 : own_C8 c0 := own_if8 hc0t hc0f (own_ch8 rfl) c8_b0
  refine own_to (T' := s₁) (mkF m 99 #[iv p0, iv p1, iv p2, iv d3, iv d4, iv d5, iv b0, iv b1, iv b2, iv b3, iv c0, .unset, .unset, .unset, .unset, .unset, .unset, .unset, .unset] []) (fun _ k => XS.istore X0.here hx rfl (hb hby at_97) rfl (l' := #[iv p0, iv p1, iv p2, iv d3, iv d4, iv d5, iv b0, iv b1, iv b2, iv b3, iv c0, .unset, .unset, .unset, .unset, .unset, .unset, .unset, .unset]) rfl k) ?_
  refine own_to (T' := s₁) (mkF m 100 #[iv p0, iv p1, iv p2, iv d3, iv d4, iv d5, iv b0, iv b1, iv b2, iv b3, iv c0, .unset, .unset, .unset, .unset, .unset, .unset, .unset, .unset] [(.int p2)]) (fun _ k => XS.iloadN X0.here hx rfl (hb hby at_99) rfl k) ?_
  refine own_to (T' := s₁) (mkF m 102 #[iv p0, iv p1, iv p2, iv d3, iv d4, iv d5, iv b0, iv b1, iv b2, iv b3, iv c0, .unset, .unset, .unset, .unset, .unset, .unset, .unset, .unset] [(.int (8 : Int32)), (.int p2)]) (fun _ k => XS.bipush X0.here hx rfl (hb hby at_100) k) ?_
  refine own_to (T' := s₁) (mkF m 103 #[iv p0, iv p1, iv p2, iv d3, iv d4, iv d5, iv b0, iv b1, iv b2, iv b3, iv c0, .unset, .unset, .unset, .unset, .unset, .unset, .unset, .unset] [(.int (p2 &&& (8 : Int32)))]) (fun _ k => XS.iand X0.here hx rfl (hb hby at_102) rfl k) ?_
  suffices jn22 : ∀ c1 : Int32, ((p2 &&& (8 : Int32)) = (0 : Int32) → c1 = ((((p1.toUInt32 >>> ((8 : Int32) &&& 31).toUInt32).toInt32) &&& (255 : Int32)).toUInt32.toUInt16.toUInt32.toInt32)) → (¬ (p2 &&& (8 : Int32)) = (0 : Int32) → c1 = b1) → own_E p e below (own_FinW s (own_Q0 Z p0 p1 p2 G1 h0 n0) room_1.cells room_1.slots) s₁ (mkF m 120 #[iv p0, iv p1, iv p2, iv d3, iv d4, iv d5, iv b0, iv b1, iv b2, iv b3, iv c0, .unset, .unset, .unset, .unset, .unset, .unset, .unset, .unset] [(.int c1)]) from by
    by_cases hj1 : (p2 &&& (8 : Int32)) = (0 : Int32)
    · refine own_to (T' := s₁) (mkF m 111 #[iv p0, iv p1, iv p2, iv d3, iv d4, iv d5, iv b0, iv b1, iv b2, iv b3, iv c0, .unset, .unset, .unset, .unset, .unset, .unset, .unset, .unset] []) (fun _ k => XS.ifYes X0.here hx rfl (pc0 := 103) (pc' := 111) rfl (hb hby at_103) rfl ((if0 _ _).trans (teq hj1).1) (by decide) (by decide) k) ?_
      refine own_to (T' := s₁) (mkF m 112 #[iv p0, iv p1, iv p2, iv d3, iv d4, iv d5, iv b0, iv b1, iv b2, iv b3, iv c0, .unset, .unset, .unset, .unset, .unset, .unset, .unset, .unset] [(.int p1)]) (fun _ k => XS.iloadN X0.here hx rfl (hb hby at_111) rfl k) ?_
      refine own_to (T' := s₁) (mkF m 114 #[iv p0, iv p1, iv p2, iv d3, iv d4, iv d5, iv b0, iv b1, iv b2, iv b3, iv c0, .unset, .unset, .unset, .unset, .unset, .unset, .unset, .unset] [(.int (8 : Int32)), (.int p1)]) (fun _ k => XS.bipush X0.here hx rfl (hb hby at_112) k) ?_
      refine own_to (T' := s₁) (mkF m 115 #[iv p0, iv p1, iv p2, iv d3, iv d4, iv d5, iv b0, iv b1, iv b2, iv b3, iv c0, .unset, .unset, .unset, .unset, .unset, .unset, .unset, .unset] [(.int ((p1.toUInt32 >>> ((8 : Int32) &&& 31).toUInt32).toInt32))]) (fun _ k => XS.iushr X0.here hx rfl (hb hby at_114) rfl k) ?_
      refine own_to (T' := s₁) (mkF m 118 #[iv p0, iv p1, iv p2, iv d3, iv d4, iv d5, iv b0, iv b1, iv b2, iv b3, iv c0, .unset, .unset, .unset, .unset, .unset, .unset, .unset, .unset] [(.int (255 : Int32)), (.int ((p1.toUInt32 >>> ((8 : Int32) &&& 31).toUInt32).toInt32))]) (fun _ k => XS.sipush X0.here hx rfl (hb hby at_115) k) ?_
      refine own_to (T' := s₁) (mkF m 119 #[iv p0, iv p1, iv p2, iv d3, iv d4, iv d5, iv b0, iv b1, iv b2, iv b3, iv c0, .unset, .unset, .unset, .unset, .unset, .unset, .unset, .unset] [(.int (((p1.toUInt32 >>> ((8 : Int32) &&& 31).toUInt32).toInt32) &&& (255 : Int32)))]) (fun _ k => XS.iand X0.here hx rfl (hb hby at_118) rfl k) ?_
      refine own_to (T' := s₁) (mkF m 120 #[iv p0, iv p1, iv p2, iv d3, iv d4, iv d5, iv b0, iv b1, iv b2, iv b3, iv c0, .unset, .unset, .unset, .unset, .unset, .unset, .unset, .unset] [(.int ((((p1.toUInt32 >>> ((8 : Int32) &&& 31).toUInt32).toInt32) &&& (255 : Int32)).toUInt32.toUInt16.toUInt32.toInt32))]) (fun _ k => XS.i2c X0.here hx rfl (hb hby at_119) rfl k) ?_
      exact jn22 ((((p1.toUInt32 >>> ((8 : Int32) &&& 31).toUInt32).toInt32) &&& (255 : Int32)).toUInt32.toUInt16.toUInt32.toInt32) (fun _ => rfl) (fun q => absurd hj1 q)
    · refine own_to (T' := s₁) (mkF m 106 #[iv p0, iv p1, iv p2, iv d3, iv d4, iv d5, iv b0, iv b1, iv b2, iv b3, iv c0, .unset, .unset, .unset, .unset, .unset, .unset, .unset, .unset] []) (fun _ k => XS.ifNo X0.here hx rfl (hb hby at_103) rfl ((if0 _ _).trans (feq hj1).1) k) ?_
      refine own_to (T' := s₁) (mkF m 108 #[iv p0, iv p1, iv p2, iv d3, iv d4, iv d5, iv b0, iv b1, iv b2, iv b3, iv c0, .unset, .unset, .unset, .unset, .unset, .unset, .unset, .unset] [(.int b1)]) (fun _ k => XS.iload X0.here hx rfl (hb hby at_106) rfl k) ?_
      refine own_to (T' := s₁) (mkF m 120 #[iv p0, iv p1, iv p2, iv d3, iv d4, iv d5, iv b0, iv b1, iv b2, iv b3, iv c0, .unset, .unset, .unset, .unset, .unset, .unset, .unset, .unset] [(.int b1)]) (fun _ k => XS.goto X0.here hx rfl (pc0 := 108) (pc' := 120) rfl (hb hby at_108) (by decide) (by decide) k) ?_
      exact jn22 b1 (fun q => absurd q hj1) (fun _ => rfl)
  intro c1 hc1t hc1f
  have c8_c1 : own_C8 c1 := own_if8 hc1t hc1f (own_ch8 rfl) c8_b1
  refine own_to (T' := s₁) (mkF m 122 #[iv p0, iv p1, iv p2, iv d3, iv d4, iv d5, iv b0, iv b1, iv b2, iv b3, iv c0, iv c1, .unset, .unset, .unset, .unset, .unset, .unset, .unset] []) (fun _ k => XS.istore X0.here hx rfl (hb hby at_120) rfl (l' := #[iv p0, iv p1, iv p2, iv d3, iv d4, iv d5, iv b0, iv b1, iv b2, iv b3, iv c0, iv c1, .unset, .unset, .unset, .unset, .unset, .unset, .unset]) rfl k) ?_
  refine own_to (T' := s₁) (mkF m 123 #[iv p0, iv p1, iv p2, iv d3, iv d4, iv d5, iv b0, iv b1, iv b2, iv b3, iv c0, iv c1, .unset, .unset, .unset, .unset, .unset, .unset, .unset] [(.int p2)]) (fun _ k => XS.iloadN X0.here hx rfl (hb hby at_122) rfl k) ?_
  refine own_to (T' := s₁) (mkF m 125 #[iv p0, iv p1, iv p2, iv d3, iv d4, iv d5, iv b0, iv b1, iv b2, iv b3, iv c0, iv c1, .unset, .unset, .unset, .unset, .unset, .unset, .unset] [(.int (16 : Int32)), (.int p2)]) (fun _ k => XS.bipush X0.here hx rfl (hb hby at_123) k) ?_
  refine own_to (T' := s₁) (mkF m 126 #[iv p0, iv p1, iv p2, iv d3, iv d4, iv d5, iv b0, iv b1, iv b2, iv b3, iv c0, iv c1, .unset, .unset, .unset, .unset, .unset, .unset, .unset] [(.int (p2 &&& (16 : Int32)))]) (fun _ k => XS.iand X0.here hx rfl (hb hby at_125) rfl k) ?_
  suffices jn23 : ∀ c2 : Int32, ((p2 &&& (16 : Int32)) = (0 : Int32) → c2 = ((((p1.toUInt32 >>> ((16 : Int32) &&& 31).toUInt32).toInt32) &&& (255 : Int32)).toUInt32.toUInt16.toUInt32.toInt32)) → (¬ (p2 &&& (16 : Int32)) = (0 : Int32) → c2 = b2) → own_E p e below (own_FinW s (own_Q0 Z p0 p1 p2 G1 h0 n0) room_1.cells room_1.slots) s₁ (mkF m 143 #[iv p0, iv p1, iv p2, iv d3, iv d4, iv d5, iv b0, iv b1, iv b2, iv b3, iv c0, iv c1, .unset, .unset, .unset, .unset, .unset, .unset, .unset] [(.int c2)]) from by
    by_cases hj2 : (p2 &&& (16 : Int32)) = (0 : Int32)
    · refine own_to (T' := s₁) (mkF m 134 #[iv p0, iv p1, iv p2, iv d3, iv d4, iv d5, iv b0, iv b1, iv b2, iv b3, iv c0, iv c1, .unset, .unset, .unset, .unset, .unset, .unset, .unset] []) (fun _ k => XS.ifYes X0.here hx rfl (pc0 := 126) (pc' := 134) rfl (hb hby at_126) rfl ((if0 _ _).trans (teq hj2).1) (by decide) (by decide) k) ?_
      refine own_to (T' := s₁) (mkF m 135 #[iv p0, iv p1, iv p2, iv d3, iv d4, iv d5, iv b0, iv b1, iv b2, iv b3, iv c0, iv c1, .unset, .unset, .unset, .unset, .unset, .unset, .unset] [(.int p1)]) (fun _ k => XS.iloadN X0.here hx rfl (hb hby at_134) rfl k) ?_
      refine own_to (T' := s₁) (mkF m 137 #[iv p0, iv p1, iv p2, iv d3, iv d4, iv d5, iv b0, iv b1, iv b2, iv b3, iv c0, iv c1, .unset, .unset, .unset, .unset, .unset, .unset, .unset] [(.int (16 : Int32)), (.int p1)]) (fun _ k => XS.bipush X0.here hx rfl (hb hby at_135) k) ?_
      refine own_to (T' := s₁) (mkF m 138 #[iv p0, iv p1, iv p2, iv d3, iv d4, iv d5, iv b0, iv b1, iv b2, iv b3, iv c0, iv c1, .unset, .unset, .unset, .unset, .unset, .unset, .unset] [(.int ((p1.toUInt32 >>> ((16 : Int32) &&& 31).toUInt32).toInt32))]) (fun _ k => XS.iushr X0.here hx rfl (hb hby at_137) rfl k) ?_
      refine own_to (T' := s₁) (mkF m 141 #[iv p0, iv p1, iv p2, iv d3, iv d4, iv d5, iv b0, iv b1, iv b2, iv b3, iv c0, iv c1, .unset, .unset, .unset, .unset, .unset, .unset, .unset] [(.int (255 : Int32)), (.int ((p1.toUInt32 >>> ((16 : Int32) &&& 31).toUInt32).toInt32))]) (fun _ k => XS.sipush X0.here hx rfl (hb hby at_138) k) ?_
      refine own_to (T' := s₁) (mkF m 142 #[iv p0, iv p1, iv p2, iv d3, iv d4, iv d5, iv b0, iv b1, iv b2, iv b3, iv c0, iv c1, .unset, .unset, .unset, .unset, .unset, .unset, .unset] [(.int (((p1.toUInt32 >>> ((16 : Int32) &&& 31).toUInt32).toInt32) &&& (255 : Int32)))]) (fun _ k => XS.iand X0.here hx rfl (hb hby at_141) rfl k) ?_
      refine own_to (T' := s₁) (mkF m 143 #[iv p0, iv p1, iv p2, iv d3, iv d4, iv d5, iv b0, iv b1, iv b2, iv b3, iv c0, iv c1, .unset, .unset, .unset, .unset, .unset, .unset, .unset] [(.int ((((p1.toUInt32 >>> ((16 : Int32) &&& 31).toUInt32).toInt32) &&& (255 : Int32)).toUInt32.toUInt16.toUInt32.toInt32))]) (fun _ k => XS.i2c X0.here hx rfl (hb hby at_142) rfl k) ?_
      exact jn23 ((((p1.toUInt32 >>> ((16 : Int32) &&& 31).toUInt32).toInt32) &&& (255 : Int32)).toUInt32.toUInt16.toUInt32.toInt32) (fun _ => rfl) (fun q => absurd hj2 q)
    · refine own_to (T' := s₁) (mkF m 129 #[iv p0, iv p1, iv p2, iv d3, iv d4, iv d5, iv b0, iv b1, iv b2, iv b3, iv c0, iv c1, .unset, .unset, .unset, .unset, .unset, .unset, .unset] []) (fun _ k => XS.ifNo X0.here hx rfl (hb hby at_126) rfl ((if0 _ _).trans (feq hj2).1) k) ?_
      refine own_to (T' := s₁) (mkF m 131 #[iv p0, iv p1, iv p2, iv d3, iv d4, iv d5, iv b0, iv b1, iv b2, iv b3, iv c0, iv c1, .unset, .unset, .unset, .unset, .unset, .unset, .unset] [(.int b2)]) (fun _ k => XS.iload X0.here hx rfl (hb hby at_129) rfl k) ?_
      refine own_to (T' := s₁) (mkF m 143 #[iv p0, iv p1, iv p2, iv d3, iv d4, iv d5, iv b0, iv b1, iv b2, iv b3, iv c0, iv c1, .unset, .unset, .unset, .unset, .unset, .unset, .unset] [(.int b2)]) (fun _ k => XS.goto X0.here hx rfl (pc0 := 131) (pc' := 143) rfl (hb hby at_131) (by decide) (by decide) k) ?_
      exact jn23 b2 (fun q => absurd q hj2) (fun _ => rfl)
  intro c2 hc2t hc2f
  have c8_c2 : own_C8 c2 := own_if8 hc2t hc2f (own_ch8 rfl) c8_b2
  refine own_to (T' := s₁) (mkF m 145 #[iv p0, iv p1, iv p2, iv d3, iv d4, iv d5, iv b0, iv b1, iv b2, iv b3, iv c0, iv c1, iv c2, .unset, .unset, .unset, .unset, .unset, .unset] []) (fun _ k => XS.istore X0.here hx rfl (hb hby at_143) rfl (l' := #[iv p0, iv p1, iv p2, iv d3, iv d4, iv d5, iv b0, iv b1, iv b2, iv b3, iv c0, iv c1, iv c2, .unset, .unset, .unset, .unset, .unset, .unset]) rfl k) ?_
  refine own_to (T' := s₁) (mkF m 146 #[iv p0, iv p1, iv p2, iv d3, iv d4, iv d5, iv b0, iv b1, iv b2, iv b3, iv c0, iv c1, iv c2, .unset, .unset, .unset, .unset, .unset, .unset] [(.int p2)]) (fun _ k => XS.iloadN X0.here hx rfl (hb hby at_145) rfl k) ?_
  refine own_to (T' := s₁) (mkF m 148 #[iv p0, iv p1, iv p2, iv d3, iv d4, iv d5, iv b0, iv b1, iv b2, iv b3, iv c0, iv c1, iv c2, .unset, .unset, .unset, .unset, .unset, .unset] [(.int (32 : Int32)), (.int p2)]) (fun _ k => XS.bipush X0.here hx rfl (hb hby at_146) k) ?_
  refine own_to (T' := s₁) (mkF m 149 #[iv p0, iv p1, iv p2, iv d3, iv d4, iv d5, iv b0, iv b1, iv b2, iv b3, iv c0, iv c1, iv c2, .unset, .unset, .unset, .unset, .unset, .unset] [(.int (p2 &&& (32 : Int32)))]) (fun _ k => XS.iand X0.here hx rfl (hb hby at_148) rfl k) ?_
  suffices jn24 : ∀ c3 : Int32, ((p2 &&& (32 : Int32)) = (0 : Int32) → c3 = ((((p1.toUInt32 >>> ((24 : Int32) &&& 31).toUInt32).toInt32) &&& (255 : Int32)).toUInt32.toUInt16.toUInt32.toInt32)) → (¬ (p2 &&& (32 : Int32)) = (0 : Int32) → c3 = b3) → own_E p e below (own_FinW s (own_Q0 Z p0 p1 p2 G1 h0 n0) room_1.cells room_1.slots) s₁ (mkF m 166 #[iv p0, iv p1, iv p2, iv d3, iv d4, iv d5, iv b0, iv b1, iv b2, iv b3, iv c0, iv c1, iv c2, .unset, .unset, .unset, .unset, .unset, .unset] [(.int c3)]) from by
    by_cases hj3 : (p2 &&& (32 : Int32)) = (0 : Int32)
    · refine own_to (T' := s₁) (mkF m 157 #[iv p0, iv p1, iv p2, iv d3, iv d4, iv d5, iv b0, iv b1, iv b2, iv b3, iv c0, iv c1, iv c2, .unset, .unset, .unset, .unset, .unset, .unset] []) (fun _ k => XS.ifYes X0.here hx rfl (pc0 := 149) (pc' := 157) rfl (hb hby at_149) rfl ((if0 _ _).trans (teq hj3).1) (by decide) (by decide) k) ?_
      refine own_to (T' := s₁) (mkF m 158 #[iv p0, iv p1, iv p2, iv d3, iv d4, iv d5, iv b0, iv b1, iv b2, iv b3, iv c0, iv c1, iv c2, .unset, .unset, .unset, .unset, .unset, .unset] [(.int p1)]) (fun _ k => XS.iloadN X0.here hx rfl (hb hby at_157) rfl k) ?_
      refine own_to (T' := s₁) (mkF m 160 #[iv p0, iv p1, iv p2, iv d3, iv d4, iv d5, iv b0, iv b1, iv b2, iv b3, iv c0, iv c1, iv c2, .unset, .unset, .unset, .unset, .unset, .unset] [(.int (24 : Int32)), (.int p1)]) (fun _ k => XS.bipush X0.here hx rfl (hb hby at_158) k) ?_
      refine own_to (T' := s₁) (mkF m 161 #[iv p0, iv p1, iv p2, iv d3, iv d4, iv d5, iv b0, iv b1, iv b2, iv b3, iv c0, iv c1, iv c2, .unset, .unset, .unset, .unset, .unset, .unset] [(.int ((p1.toUInt32 >>> ((24 : Int32) &&& 31).toUInt32).toInt32))]) (fun _ k => XS.iushr X0.here hx rfl (hb hby at_160) rfl k) ?_
      refine own_to (T' := s₁) (mkF m 164 #[iv p0, iv p1, iv p2, iv d3, iv d4, iv d5, iv b0, iv b1, iv b2, iv b3, iv c0, iv c1, iv c2, .unset, .unset, .unset, .unset, .unset, .unset] [(.int (255 : Int32)), (.int ((p1.toUInt32 >>> ((24 : Int32) &&& 31).toUInt32).toInt32))]) (fun _ k => XS.sipush X0.here hx rfl (hb hby at_161) k) ?_
      refine own_to (T' := s₁) (mkF m 165 #[iv p0, iv p1, iv p2, iv d3, iv d4, iv d5, iv b0, iv b1, iv b2, iv b3, iv c0, iv c1, iv c2, .unset, .unset, .unset, .unset, .unset, .unset] [(.int (((p1.toUInt32 >>> ((24 : Int32) &&& 31).toUInt32).toInt32) &&& (255 : Int32)))]) (fun _ k => XS.iand X0.here hx rfl (hb hby at_164) rfl k) ?_
      refine own_to (T' := s₁) (mkF m 166 #[iv p0, iv p1, iv p2, iv d3, iv d4, iv d5, iv b0, iv b1, iv b2, iv b3, iv c0, iv c1, iv c2, .unset, .unset, .unset, .unset, .unset, .unset] [(.int ((((p1.toUInt32 >>> ((24 : Int32) &&& 31).toUInt32).toInt32) &&& (255 : Int32)).toUInt32.toUInt16.toUInt32.toInt32))]) (fun _ k => XS.i2c X0.here hx rfl (hb hby at_165) rfl k) ?_
      exact jn24 ((((p1.toUInt32 >>> ((24 : Int32) &&& 31).toUInt32).toInt32) &&& (255 : Int32)).toUInt32.toUInt16.toUInt32.toInt32) (fun _ => rfl) (fun q => absurd hj3 q)
    · refine own_to (T' := s₁) (mkF m 152 #[iv p0, iv p1, iv p2, iv d3, iv d4, iv d5, iv b0, iv b1, iv b2, iv b3, iv c0, iv c1, iv c2, .unset, .unset, .unset, .unset, .unset, .unset] []) (fun _ k => XS.ifNo X0.here hx rfl (hb hby at_149) rfl ((if0 _ _).trans (feq hj3).1) k) ?_
      refine own_to (T' := s₁) (mkF m 154 #[iv p0, iv p1, iv p2, iv d3, iv d4, iv d5, iv b0, iv b1, iv b2, iv b3, iv c0, iv c1, iv c2, .unset, .unset, .unset, .unset, .unset, .unset] [(.int b3)]) (fun _ k => XS.iload X0.here hx rfl (hb hby at_152) rfl k) ?_
      refine own_to (T' := s₁) (mkF m 166 #[iv p0, iv p1, iv p2, iv d3, iv d4, iv d5, iv b0, iv b1, iv b2, iv b3, iv c0, iv c1, iv c2, .unset, .unset, .unset, .unset, .unset, .unset] [(.int b3)]) (fun _ k => XS.goto X0.here hx rfl (pc0 := 154) (pc' := 166) rfl (hb hby at_154) (by decide) (by decide) k) ?_
      exact jn24 b3 (fun q => absurd q hj3) (fun _ => rfl)
  intro c3 hc3t hc3f
  have c8_c3 : own_C8 c3 := own_if8 hc3t hc3f (own_ch8 rfl) c8_b3
  refine own_to (T' := s₁) (mkF m 168 #[iv p0, iv p1, iv p2, iv d3, iv d4, iv d5, iv b0, iv b1, iv b2, iv b3, iv c0, iv c1, iv c2, iv c3, .unset, .unset, .unset, .unset, .unset] []) (fun _ k => XS.istore X0.here hx rfl (hb hby at_166) rfl (l' := #[iv p0, iv p1, iv p2, iv d3, iv d4, iv d5, iv b0, iv b1, iv b2, iv b3, iv c0, iv c1, iv c2, iv c3, .unset, .unset, .unset, .unset, .unset]) rfl k) ?_
  rcases own_01 hd4t hd4f with q | q
  · subst q
    refine own_to (T' := s₁) (mkF m 170 #[iv p0, iv p1, iv p2, iv d3, iv 0, iv d5, iv b0, iv b1, iv b2, iv b3, iv c0, iv c1, iv c2, iv c3, .unset, .unset, .unset, .unset, .unset] [(.int (0 : Int32))]) (fun _ k => XS.iload X0.here hx rfl (hb hby at_168) rfl k) ?_
    refine own_to (T' := s₁) (mkF m 206 #[iv p0, iv p1, iv p2, iv d3, iv 0, iv d5, iv b0, iv b1, iv b2, iv b3, iv c0, iv c1, iv c2, iv c3, .unset, .unset, .unset, .unset, .unset] []) (fun _ k => XS.ifYes X0.here hx rfl (pc0 := 170) (pc' := 206) rfl (hb hby at_170) rfl ((if0 _ _).trans (teq (by decide : (0 : Int32) = (0 : Int32))).1) (by decide) (by decide) k) ?_
    refine own_to (T' := s₁) (mkF m 207 #[iv p0, iv p1, iv p2, iv d3, iv 0, iv d5, iv b0, iv b1, iv b2, iv b3, iv c0, iv c1, iv c2, iv c3, .unset, .unset, .unset, .unset, .unset] [.null]) (fun _ k => XS.aconstNull X0.here hx rfl (hb hby at_206) k) ?_
    refine own_to (T' := s₁) (mkF m 209 #[iv p0, iv p1, iv p2, iv d3, iv 0, iv d5, iv b0, iv b1, iv b2, iv b3, iv c0, iv c1, iv c2, iv c3, .val .null, .unset, .unset, .unset, .unset] []) (fun _ k => XS.astore X0.here hx rfl (hb hby at_207) rfl rfl (l' := #[iv p0, iv p1, iv p2, iv d3, iv 0, iv d5, iv b0, iv b1, iv b2, iv b3, iv c0, iv c1, iv c2, iv c3, .val .null, .unset, .unset, .unset, .unset]) rfl k) ?_
    rcases own_01 hd5t hd5f with q | q
    · subst q
      refine own_to (T' := s₁) (mkF m 211 #[iv p0, iv p1, iv p2, iv d3, iv 0, iv 0, iv b0, iv b1, iv b2, iv b3, iv c0, iv c1, iv c2, iv c3, .val .null, .unset, .unset, .unset, .unset] [(.int (0 : Int32))]) (fun _ k => XS.iload X0.here hx rfl (hb hby at_209) rfl k) ?_
      refine own_to (T' := s₁) (mkF m 242 #[iv p0, iv p1, iv p2, iv d3, iv 0, iv 0, iv b0, iv b1, iv b2, iv b3, iv c0, iv c1, iv c2, iv c3, .val .null, .unset, .unset, .unset, .unset] []) (fun _ k => XS.ifYes X0.here hx rfl (pc0 := 211) (pc' := 242) rfl (hb hby at_211) rfl ((if0 _ _).trans (teq (by decide : (0 : Int32) = (0 : Int32))).1) (by decide) (by decide) k) ?_
      obtain ⟨T25, h25, X25, e25, E25, A25, D25, -, st25⟩ := newO X0 hx hZ hown (hw _ (List.mem_of_getElem? (i := 0) rfl)) (hw _ (List.mem_of_getElem? (i := 1) rfl)) (hw _ (List.mem_of_getElem? (i := 2) rfl)) e0 (g := (mkF m 242 #[iv p0, iv p1, iv p2, iv d3, iv 0, iv 0, iv b0, iv b1, iv b2, iv b3, iv c0, iv c1, iv c2, iv c3, .val .null, .unset, .unset, .unset, .unset] [])) rfl (hb hby at_242) (by decide) (by decide)
      obtain ⟨b25, g25⟩ : ∃ z, z = h0.size := ⟨_, rfl⟩
      rw [← g25] at A25 D25 st25
      have sz_b25 : h0.size ≤ b25 := Nat.le_trans KP.1 (Nat.le_of_eq g25.symm)
      have ge_b25 : n0 ≤ b25 := Nat.le_trans Z0 sz_b25
      have OL := OL.ext E25
      have KP := KP.ext E25
      have hk1 := Nat.le_trans hk1 E25.1
      have E_b25 : Exa Z h25 b25 "java/lang/String" := A25
      have F_coder_b25 : Fld Z h25 b25 "java/lang/String" "coder" "B" (.int (0 : Int32)) := D25 (Or.inr (hw _ (List.mem_of_getElem? (i := 27) rfl))) (ty := .byte) (by decide)
      have F_value_b25 : Fld Z h25 b25 "java/lang/String" "value" "[B" .null := D25 (Or.inr (hw _ (List.mem_of_getElem? (i := 29) rfl))) (ty := (.array .byte)) (by decide)
      refine own_to (mkF m 245 #[iv p0, iv p1, iv p2, iv d3, iv 0, iv 0, iv b0, iv b1, iv b2, iv b3, iv c0, iv c1, iv c2, iv c3, .val .null, .unset, .unset, .unset, .unset] [(.ref b25)]) st25 ?_
      refine own_to (T' := T25) (mkF m 246 #[iv p0, iv p1, iv p2, iv d3, iv 0, iv 0, iv b0, iv b1, iv b2, iv b3, iv c0, iv c1, iv c2, iv c3, .val .null, .unset, .unset, .unset, .unset] [(.ref b25), (.ref b25)]) (fun _ k => XS.dup X25.here hx rfl (hb hby at_245) rfl rfl k) ?_
      refine own_to (T' := T25) (mkF m 247 #[iv p0, iv p1, iv p2, iv d3, iv 0, iv 0, iv b0, iv b1, iv b2, iv b3, iv c0, iv c1, iv c2, iv c3, .val .null, .unset, .unset, .unset, .unset] [(.int (4 : Int32)), (.ref b25), (.ref b25)]) (fun _ k => XS.iconst X25.here hx rfl (hb hby at_246) k) ?_
      obtain ⟨T26, h26, k26, X26, e26, E26, A26, B26, st26⟩ := newPE X25 hx hZ (hw _ (List.mem_of_getElem? (i := 3) rfl)) e25 (g := (mkF m 247 #[iv p0, iv p1, iv p2, iv d3, iv 0, iv 0, iv b0, iv b1, iv b2, iv b3, iv c0, iv c1, iv c2, iv c3, .val .null, .unset, .unset, .unset, .unset] [(.int (4 : Int32)), (.ref b25), (.ref b25)])) rfl (hb hby at_247) rfl (by decide) (cap := 4) (by decide) (by decide) (by decide) (by decide) (ad := "[C") (by decide)
      obtain ⟨b26, g26⟩ : ∃ z, z = h25.size := ⟨_, rfl⟩
      rw [← g26] at A26 B26 st26
      have sz_b26 : h0.size ≤ b26 := Nat.le_trans KP.1 (Nat.le_of_eq g26.symm)
      have ge_b26 : n0 ≤ b26 := Nat.le_trans Z0 sz_b26
      have ne_b25_b26 : b25 ≠ b26 := Nat.ne_of_lt (Nat.lt_of_lt_of_le E_b25.lt (Nat.le_of_eq g26.symm))
      have OL := OL.ext E26
      have KP := KP.ext E26
      have hk1 := Nat.le_trans hk1 E26.1
      have E_b25 := E_b25.ext E26
      have F_coder_b25 := F_coder_b25.ext E26
      have F_value_b25 := F_value_b25.ext E26
      have V_b26 : Arv Z h26 b26 k26 .char (4 : Int32) [(.int (0 : Int32)), (.int (0 : Int32)), (.int (0 : Int32)), (.int (0 : Int32))] (.int (0 : Int32)) := (Arv.new A26 (by decide)).pad (pad_rep [] (.int (0 : Int32)) 4)
      refine own_to (mkF m 249 #[iv p0, iv p1, iv p2, iv d3, iv 0, iv 0, iv b0, iv b1, iv b2, iv b3, iv c0, iv c1, iv c2, iv c3, .val .null, .unset, .unset, .unset, .unset] [(.ref b26), (.ref b25), (.ref b25)]) st26 ?_
      refine own_to (T' := T26) (mkF m 250 #[iv p0, iv p1, iv p2, iv d3, iv 0, iv 0, iv b0, iv b1, iv b2, iv b3, iv c0, iv c1, iv c2, iv c3, .val .null, .unset, .unset, .unset, .unset] [(.ref b26), (.ref b26), (.ref b25), (.ref b25)]) (fun _ k => XS.dup X26.here hx rfl (hb hby at_249) rfl rfl k) ?_
      refine own_to (T' := T26) (mkF m 251 #[iv p0, iv p1, iv p2, iv d3, iv 0, iv 0, iv b0, iv b1, iv b2, iv b3, iv c0, iv c1, iv c2, iv c3, .val .null, .unset, .unset, .unset, .unset] [(.int (0 : Int32)), (.ref b26), (.ref b26), (.ref b25), (.ref b25)]) (fun _ k => XS.iconst X26.here hx rfl (hb hby at_250) k) ?_
      refine own_to (T' := T26) (mkF m 253 #[iv p0, iv p1, iv p2, iv d3, iv 0, iv 0, iv b0, iv b1, iv b2, iv b3, iv c0, iv c1, iv c2, iv c3, .val .null, .unset, .unset, .unset, .unset] [(.int c0), (.int (0 : Int32)), (.ref b26), (.ref b26), (.ref b25), (.ref b25)]) (fun _ k => XS.iload X26.here hx rfl (hb hby at_251) rfl k) ?_
      obtain ⟨cl27, Ar27, q27, S27, M27, H27, G27⟩ := id V_b26
      obtain ⟨T27, h27, X27, e27, W27, st27⟩ := stC X26 hx hZ e26 Ar27 (j := (0 : Int32)) (inb_of S27 ⟨by decide, by decide⟩) (g := (mkF m 253 #[iv p0, iv p1, iv p2, iv d3, iv 0, iv 0, iv b0, iv b1, iv b2, iv b3, iv c0, iv c1, iv c2, iv c3, .val .null, .unset, .unset, .unset, .unset] [(.int c0), (.int (0 : Int32)), (.ref b26), (.ref b26), (.ref b25), (.ref b25)])) rfl rfl (hb hby at_253)
      refine own_to (mkF m 254 #[iv p0, iv p1, iv p2, iv d3, iv 0, iv 0, iv b0, iv b1, iv b2, iv b3, iv c0, iv c1, iv c2, iv c3, .val .null, .unset, .unset, .unset, .unset] [(.ref b26), (.ref b25), (.ref b25)]) st27 ?_
      have N27 := Fr.snoc X27 N0 ge_b26
      have tmp27 : Arv Z h27 b26 k26 .char (4 : Int32) [(.int (nar .char c0)), (.int (0 : Int32)), (.int (0 : Int32)), (.int (0 : Int32))] (.int (0 : Int32)) := Arv.set Ar27 q27 S27 M27 H27 G27 (fits_nar_char _) W27 0 rfl (Nat.le_of_ble_eq_true rfl)
      rw [own_nar8 c8_c0] at tmp27
      have OL := OL.wr W27 ge_b26
      have KP := KP.wr W27 (Or.inr sz_b26)
      have hk1 := Nat.le_trans hk1 (Keep.of_wr W27).1
      have E_b25 := E_b25.wr W27
      have F_coder_b25 := F_coder_b25.other W27 (Or.inl ne_b25_b26)
      have F_value_b25 := F_value_b25.other W27 (Or.inl ne_b25_b26)
      have V_b26 := tmp27
      refine own_to (T' := T27) (mkF m 255 #[iv p0, iv p1, iv p2, iv d3, iv 0, iv 0, iv b0, iv b1, iv b2, iv b3, iv c0, iv c1, iv c2, iv c3, .val .null, .unset, .unset, .unset, .unset] [(.ref b26), (.ref b26), (.ref b25), (.ref b25)]) (fun _ k => XS.dup X27.here hx rfl (hb hby at_254) rfl rfl k) ?_
      refine own_to (T' := T27) (mkF m 256 #[iv p0, iv p1, iv p2, iv d3, iv 0, iv 0, iv b0, iv b1, iv b2, iv b3, iv c0, iv c1, iv c2, iv c3, .val .null, .unset, .unset, .unset, .unset] [(.int (1 : Int32)), (.ref b26), (.ref b26), (.ref b25), (.ref b25)]) (fun _ k => XS.iconst X27.here hx rfl (hb hby at_255) k) ?_
      refine own_to (T' := T27) (mkF m 258 #[iv p0, iv p1, iv p2, iv d3, iv 0, iv 0, iv b0, iv b1, iv b2, iv b3, iv c0, iv c1, iv c2, iv c3, .val .null, .unset, .unset, .unset, .unset] [(.int c1), (.int (1 : Int32)), (.ref b26), (.ref b26), (.ref b25), (.ref b25)]) (fun _ k => XS.iload X27.here hx rfl (hb hby at_256) rfl k) ?_
      obtain ⟨cl28, Ar28, q28, S28, M28, H28, G28⟩ := id V_b26
      obtain ⟨T28, h28, X28, e28, W28, st28⟩ := stC X27 hx hZ e27 Ar28 (j := (1 : Int32)) (inb_of S28 ⟨by decide, by decide⟩) (g := (mkF m 258 #[iv p0, iv p1, iv p2, iv d3, iv 0, iv 0, iv b0, iv b1, iv b2, iv b3, iv c0, iv c1, iv c2, iv c3, .val .null, .unset, .unset, .unset, .unset] [(.int c1), (.int (1 : Int32)), (.ref b26), (.ref b26), (.ref b25), (.ref b25)])) rfl rfl (hb hby at_258)
      refine own_to (mkF m 259 #[iv p0, iv p1, iv p2, iv d3, iv 0, iv 0, iv b0, iv b1, iv b2, iv b3, iv c0, iv c1, iv c2, iv c3, .val .null, .unset, .unset, .unset, .unset] [(.ref b26), (.ref b25), (.ref b25)]) st28 ?_
      have N28 := Fr.snoc X28 N27 ge_b26
      have tmp28 : Arv Z h28 b26 k26 .char (4 : Int32) [(.int c0), (.int (nar .char c1)), (.int (0 : Int32)), (.int (0 : Int32))] (.int (0 : Int32)) := Arv.set Ar28 q28 S28 M28 H28 G28 (fits_nar_char _) W28 1 rfl (Nat.le_of_ble_eq_true rfl)
      rw [own_nar8 c8_c1] at tmp28
      have OL := OL.wr W28 ge_b26
      have KP := KP.wr W28 (Or.inr sz_b26)
      have hk1 := Nat.le_trans hk1 (Keep.of_wr W28).1
      have E_b25 := E_b25.wr W28
      have F_coder_b25 := F_coder_b25.other W28 (Or.inl ne_b25_b26)
      have F_value_b25 := F_value_b25.other W28 (Or.inl ne_b25_b26)
      have V_b26 := tmp28
      refine own_to (T' := T28) (mkF m 260 #[iv p0, iv p1, iv p2, iv d3, iv 0, iv 0, iv b0, iv b1, iv b2, iv b3, iv c0, iv c1, iv c2, iv c3, .val .null, .unset, .unset, .unset, .unset] [(.ref b26), (.ref b26), (.ref b25), (.ref b25)]) (fun _ k => XS.dup X28.here hx rfl (hb hby at_259) rfl rfl k) ?_
      refine own_to (T' := T28) (mkF m 261 #[iv p0, iv p1, iv p2, iv d3, iv 0, iv 0, iv b0, iv b1, iv b2, iv b3, iv c0, iv c1, iv c2, iv c3, .val .null, .unset, .unset, .unset, .unset] [(.int (2 : Int32)), (.ref b26), (.ref b26), (.ref b25), (.ref b25)]) (fun _ k => XS.iconst X28.here hx rfl (hb hby at_260) k) ?_
      refine own_to (T' := T28) (mkF m 263 #[iv p0, iv p1, iv p2, iv d3, iv 0, iv 0, iv b0, iv b1, iv b2, iv b3, iv c0, iv c1, iv c2, iv c3, .val .null, .unset, .unset, .unset, .unset] [(.int c2), (.int (2 : Int32)), (.ref b26), (.ref b26), (.ref b25), (.ref b25)]) (fun _ k => XS.iload X28.here hx rfl (hb hby at_261) rfl k) ?_
      obtain ⟨cl29, Ar29, q29, S29, M29, H29, G29⟩ := id V_b26
      obtain ⟨T29, h29, X29, e29, W29, st29⟩ := stC X28 hx hZ e28 Ar29 (j := (2 : Int32)) (inb_of S29 ⟨by decide, by decide⟩) (g := (mkF m 263 #[iv p0, iv p1, iv p2, iv d3, iv 0, iv 0, iv b0, iv b1, iv b2, iv b3, iv c0, iv c1, iv c2, iv c3, .val .null, .unset, .unset, .unset, .unset] [(.int c2), (.int (2 : Int32)), (.ref b26), (.ref b26), (.ref b25), (.ref b25)])) rfl rfl (hb hby at_263)
      refine own_to (mkF m 264 #[iv p0, iv p1, iv p2, iv d3, iv 0, iv 0, iv b0, iv b1, iv b2, iv b3, iv c0, iv c1, iv c2, iv c3, .val .null, .unset, .unset, .unset, .unset] [(.ref b26), (.ref b25), (.ref b25)]) st29 ?_
      have N29 := Fr.snoc X29 N28 ge_b26
      have tmp29 : Arv Z h29 b26 k26 .char (4 : Int32) [(.int c0), (.int c1), (.int (nar .char c2)), (.int (0 : Int32))] (.int (0 : Int32)) := Arv.set Ar29 q29 S29 M29 H29 G29 (fits_nar_char _) W29 2 rfl (Nat.le_of_ble_eq_true rfl)
      rw [own_nar8 c8_c2] at tmp29
      have OL := OL.wr W29 ge_b26
      have KP := KP.wr W29 (Or.inr sz_b26)
      have hk1 := Nat.le_trans hk1 (Keep.of_wr W29).1
      have E_b25 := E_b25.wr W29
      have F_coder_b25 := F_coder_b25.other W29 (Or.inl ne_b25_b26)
      have F_value_b25 := F_value_b25.other W29 (Or.inl ne_b25_b26)
      have V_b26 := tmp29
      refine own_to (T' := T29) (mkF m 265 #[iv p0, iv p1, iv p2, iv d3, iv 0, iv 0, iv b0, iv b1, iv b2, iv b3, iv c0, iv c1, iv c2, iv c3, .val .null, .unset, .unset, .unset, .unset] [(.ref b26), (.ref b26), (.ref b25), (.ref b25)]) (fun _ k => XS.dup X29.here hx rfl (hb hby at_264) rfl rfl k) ?_
      refine own_to (T' := T29) (mkF m 266 #[iv p0, iv p1, iv p2, iv d3, iv 0, iv 0, iv b0, iv b1, iv b2, iv b3, iv c0, iv c1, iv c2, iv c3, .val .null, .unset, .unset, .unset, .unset] [(.int (3 : Int32)), (.ref b26), (.ref b26), (.ref b25), (.ref b25)]) (fun _ k => XS.iconst X29.here hx rfl (hb hby at_265) k) ?_
      refine own_to (T' := T29) (mkF m 268 #[iv p0, iv p1, iv p2, iv d3, iv 0, iv 0, iv b0, iv b1, iv b2, iv b3, iv c0, iv c1, iv c2, iv c3, .val .null, .unset, .unset, .unset, .unset] [(.int c3), (.int (3 : Int32)), (.ref b26), (.ref b26), (.ref b25), (.ref b25)]) (fun _ k => XS.iload X29.here hx rfl (hb hby at_266) rfl k) ?_
      obtain ⟨cl30, Ar30, q30, S30, M30, H30, G30⟩ := id V_b26
      obtain ⟨T30, h30, X30, e30, W30, st30⟩ := stC X29 hx hZ e29 Ar30 (j := (3 : Int32)) (inb_of S30 ⟨by decide, by decide⟩) (g := (mkF m 268 #[iv p0, iv p1, iv p2, iv d3, iv 0, iv 0, iv b0, iv b1, iv b2, iv b3, iv c0, iv c1, iv c2, iv c3, .val .null, .unset, .unset, .unset, .unset] [(.int c3), (.int (3 : Int32)), (.ref b26), (.ref b26), (.ref b25), (.ref b25)])) rfl rfl (hb hby at_268)
      refine own_to (mkF m 269 #[iv p0, iv p1, iv p2, iv d3, iv 0, iv 0, iv b0, iv b1, iv b2, iv b3, iv c0, iv c1, iv c2, iv c3, .val .null, .unset, .unset, .unset, .unset] [(.ref b26), (.ref b25), (.ref b25)]) st30 ?_
      have N30 := Fr.snoc X30 N29 ge_b26
      have tmp30 : Arv Z h30 b26 k26 .char (4 : Int32) [(.int c0), (.int c1), (.int c2), (.int (nar .char c3))] (.int (0 : Int32)) := Arv.set Ar30 q30 S30 M30 H30 G30 (fits_nar_char _) W30 3 rfl (Nat.le_of_ble_eq_true rfl)
      rw [own_nar8 c8_c3] at tmp30
      have OL := OL.wr W30 ge_b26
      have KP := KP.wr W30 (Or.inr sz_b26)
      have hk1 := Nat.le_trans hk1 (Keep.of_wr W30).1
      have E_b25 := E_b25.wr W30
      have F_coder_b25 := F_coder_b25.other W30 (Or.inl ne_b25_b26)
      have F_value_b25 := F_value_b25.other W30 (Or.inl ne_b25_b26)
      have V_b26 := tmp30
      have hp31 : ∀ c ∈ ([c0, c1, c2, c3] : List Int32), ¬ c < 0 ∧ ¬ (255 : Int32) < c := (own_allS c8_c0 (own_allS c8_c1 (own_allS c8_c2 (own_allS c8_c3 own_all0))))
      have KP0 := KP
      have lt0_b25 := E_b25.lt
      have lt0_b26 := V_b26.lt
      obtain ⟨_, _, ⟨T32, L32, k32, n32⟩, -, X32, ⟨Lc32, hQ32, l32, y32, z32⟩, st32⟩ := X30.specialBack hx (y := (⟨"java/lang/String", "<init>", "([C)V"⟩ : MethodName)) rfl hown (mvT hZ (hw _ (List.mem_of_getElem? (i := 4) rfl))) (mvT hZ (hw _ (List.mem_of_getElem? (i := 5) rfl))) (mvT hZ (hw _ (List.mem_of_getElem? (i := 6) rfl))) (by decide) (StrChars.Road.backV (W := 1) hZ hwsV (kI := 4) (hw _ (List.mem_of_getElem? (i := 1) rfl)) (cs := ([c0, c1, c2, c3] : List Int32)) (bs := (([c0, c1, c2, c3] : List Int32)).map (fun c => c.toInt8.toInt32)) (n := 4) ge_b25 (Nat.le_trans Z0 KP.1) E_b25 F_value_b25 F_coder_b25 V_b26 (O2.ext OL.2) P5 rfl rfl (by decide) (by decide) hp31 rfl (by decide) (by decide)) (g := (mkF m 269 #[iv p0, iv p1, iv p2, iv d3, iv 0, iv 0, iv b0, iv b1, iv b2, iv b3, iv c0, iv c1, iv c2, iv c3, .val .null, .unset, .unset, .unset, .unset] [(.ref b26), (.ref b25), (.ref b25)])) rfl (by rw [hml]; rfl) (Steps.refl _) (a := b25) (argsL := [(.ref b26)]) (rest := [(.ref b25)]) (lenOf own_pd2 rfl) rfl (by show 2 * 0 + _ ≤ _; exact Nat.le_of_eq rfl) (hb hby at_269) (fun _ _ => ⟨rfl, e30, (by decide : 2 + 1 ≤ _), (by decide : 8 + 4 ≤ _)⟩)
      dsimp only [Pt.U, Pt.locs, Pt.cells, Pt.slots] at X32 l32 y32 z32 st32 hQ32
      subst l32 y32 z32
      obtain ⟨rfl, N32q, K32, Ex32, Cx32, t_co, kb_co, ge_t_co, sz0_t_co, ne_t_co_b25, Vx32, Kx32⟩ := hQ32
      have N32 := Fr.app N30 N32q
      have OL := OL.keep K32 (allS ge_b25 all0)
      have KP := KP.trans K32 (allS (Or.inr sz_b25) all0)
      have hk1 := Nat.le_trans hk1 K32.1
      have E_b25 := E_b25.keep K32
      have V_b26 := V_b26.keep K32 (ninS (Ne.symm ne_b25_b26) nin0)
      refine own_via (mkF m 272 #[iv p0, iv p1, iv p2, iv d3, iv 0, iv 0, iv b0, iv b1, iv b2, iv b3, iv c0, iv c1, iv c2, iv c3, .val .null, .unset, .unset, .unset, .unset] [(.ref b25)]) st32 ?_
      have sz_t_co : h0.size ≤ t_co := Nat.le_trans KP0.1 sz0_t_co
      have ne_b26_t_co : b26 ≠ t_co := Nat.ne_of_lt (Nat.lt_of_lt_of_le lt0_b26 sz0_t_co)
      have S_co : own_Str Z T32.heap b25 t_co kb_co ([c0, c1, c2, c3] : List Int32) := ⟨Ex32, Vx32, Cx32, Kx32, hp31, Nat.le_of_ble_eq_true rfl⟩
      refine own_to (T' := T32) (mkF m 274 #[iv p0, iv p1, iv p2, iv d3, iv 0, iv 0, iv b0, iv b1, iv b2, iv b3, iv c0, iv c1, iv c2, iv c3, .val .null, rv b25, .unset, .unset, .unset] []) (fun _ k => XS.astore X32.here hx rfl (hb hby at_272) rfl rfl (l' := #[iv p0, iv p1, iv p2, iv d3, iv 0, iv 0, iv b0, iv b1, iv b2, iv b3, iv c0, iv c1, iv c2, iv c3, .val .null, rv b25, .unset, .unset, .unset]) rfl k) ?_
      obtain ⟨T33, h33, X33, e33, E33, A33, D33, -, st33⟩ := newO X32 hx hZ hown (hw _ (List.mem_of_getElem? (i := 30) rfl)) (hw _ (List.mem_of_getElem? (i := 31) rfl)) (hw _ (List.mem_of_getElem? (i := 32) rfl)) rfl (g := (mkF m 274 #[iv p0, iv p1, iv p2, iv d3, iv 0, iv 0, iv b0, iv b1, iv b2, iv b3, iv c0, iv c1, iv c2, iv c3, .val .null, rv b25, .unset, .unset, .unset] [])) rfl (hb hby at_274) (by decide) (by decide)
      obtain ⟨b33, g33⟩ : ∃ z, z = T32.heap.size := ⟨_, rfl⟩
      rw [← g33] at A33 D33 st33
      have sz_b33 : h0.size ≤ b33 := Nat.le_trans KP.1 (Nat.le_of_eq g33.symm)
      have ge_b33 : n0 ≤ b33 := Nat.le_trans Z0 sz_b33
      have ne_b26_b33 : b26 ≠ b33 := Nat.ne_of_lt (Nat.lt_of_lt_of_le V_b26.lt (Nat.le_of_eq g33.symm))
      have ne_b25_b33 : b25 ≠ b33 := Nat.ne_of_lt (Nat.lt_of_lt_of_le S_co.lt (Nat.le_of_eq g33.symm))
      have ne_t_co_b33 : t_co ≠ b33 := Nat.ne_of_lt (Nat.lt_of_lt_of_le S_co.ltT (Nat.le_of_eq g33.symm))
      have OL := OL.ext E33
      have KP := KP.ext E33
      have hk1 := Nat.le_trans hk1 E33.1
      have V_b26 := V_b26.ext E33
      have S_co := S_co.ext E33
      have E_b33 : Exa Z h33 b33 "com/example/saldera/saldera/coupon/Cashier" := A33
      have F_username_b33 : Fld Z h33 b33 "com/example/saldera/saldera/coupon/Cashier" "username" "Ljava/lang/String;" .null := D33 (Or.inr (hw _ (List.mem_of_getElem? (i := 41) rfl))) (ty := (.object "java/lang/String")) (by decide)
      have F_branch_b33 : Fld Z h33 b33 "com/example/saldera/saldera/coupon/Cashier" "branch" "Ljava/lang/String;" .null := D33 (Or.inr (hw _ (List.mem_of_getElem? (i := 43) rfl))) (ty := (.object "java/lang/String")) (by decide)
      have F_crossBranch_b33 : Fld Z h33 b33 "com/example/saldera/saldera/coupon/Cashier" "crossBranch" "Z" (.int (0 : Int32)) := D33 (Or.inr (hw _ (List.mem_of_getElem? (i := 45) rfl))) (ty := .boolean) (by decide)
      refine own_to (mkF m 277 #[iv p0, iv p1, iv p2, iv d3, iv 0, iv 0, iv b0, iv b1, iv b2, iv b3, iv c0, iv c1, iv c2, iv c3, .val .null, rv b25, .unset, .unset, .unset] [(.ref b33)]) st33 ?_
      refine own_to (T' := T33) (mkF m 278 #[iv p0, iv p1, iv p2, iv d3, iv 0, iv 0, iv b0, iv b1, iv b2, iv b3, iv c0, iv c1, iv c2, iv c3, .val .null, rv b25, .unset, .unset, .unset] [(.ref b33), (.ref b33)]) (fun _ k => XS.dup X33.here hx rfl (hb hby at_277) rfl rfl k) ?_
      obtain ⟨aU, T34, h34, k1, X34, e34, E34, hS, hk2, hZ, hown, st34⟩ := ldcS (s := s) (vm0 := s.vm) X33 hx hZ hown (hw _ (List.mem_of_getElem? (i := 33) rfl)) hwsS e33 hS hk1 (g := (mkF m 278 #[iv p0, iv p1, iv p2, iv d3, iv 0, iv 0, iv b0, iv b1, iv b2, iv b3, iv c0, iv c1, iv c2, iv c3, .val .null, rv b25, .unset, .unset, .unset] [(.ref b33), (.ref b33)])) rfl (hb hby at_278) (n := 4) (by decide) (by decide) (by decide) (by decide)
      have OL := OL.ext E34
      have KP := KP.ext E34
      have V_b26 := V_b26.ext E34
      have S_co := S_co.ext E34
      have E_b33 := E_b33.ext E34
      have F_username_b33 := F_username_b33.ext E34
      have F_branch_b33 := F_branch_b33.ext E34
      have F_crossBranch_b33 := F_crossBranch_b33.ext E34
      have hk1 := hk2
      refine own_to (mkF m 280 #[iv p0, iv p1, iv p2, iv d3, iv 0, iv 0, iv b0, iv b1, iv b2, iv b3, iv c0, iv c1, iv c2, iv c3, .val .null, rv b25, .unset, .unset, .unset] [(.ref aU), (.ref b33), (.ref b33)]) st34 ?_
      refine own_to (T' := T34) (mkF m 282 #[iv p0, iv p1, iv p2, iv d3, iv 0, iv 0, iv b0, iv b1, iv b2, iv b3, iv c0, iv c1, iv c2, iv c3, .val .null, rv b25, .unset, .unset, .unset] [.null, (.ref aU), (.ref b33), (.ref b33)]) (fun _ k => XS.aload X34.here hx rfl (hb hby at_280) rfl rfl k) ?_
      refine own_to (T' := T34) (mkF m 283 #[iv p0, iv p1, iv p2, iv d3, iv 0, iv 0, iv b0, iv b1, iv b2, iv b3, iv c0, iv c1, iv c2, iv c3, .val .null, rv b25, .unset, .unset, .unset] [(.int d3), .null, (.ref aU), (.ref b33), (.ref b33)]) (fun _ k => XS.iloadN X34.here hx rfl (hb hby at_282) rfl k) ?_
      obtain ⟨_, _, ⟨T35, L35, k35, n35⟩, -, X35, ⟨Lc35, hQ35, l35, y35, z35⟩, st35⟩ := X34.specialBack hx (y := (⟨"com/example/saldera/saldera/coupon/Cashier", "<init>", "(Ljava/lang/String;Ljava/lang/String;Z)V"⟩ : MethodName)) rfl hown (mvT hZ (hw _ (List.mem_of_getElem? (i := 36) rfl))) (mvT hZ (hw _ (List.mem_of_getElem? (i := 37) rfl))) (mvT hZ (hw _ (List.mem_of_getElem? (i := 38) rfl))) (by decide) (backOf (W := 1) (own_rmCN l Z a0 hw [] b33 aU  d3 h34 n0 (Nat.le_trans Z0 KP.1) OL E_b33 ge_b33 F_username_b33 F_branch_b33 F_crossBranch_b33) hZ (hw _ (List.mem_of_getElem? (i := 38) rfl)) (hw _ (List.mem_of_getElem? (i := 32) rfl)) (by decide) (by decide)) (g := (mkF m 283 #[iv p0, iv p1, iv p2, iv d3, iv 0, iv 0, iv b0, iv b1, iv b2, iv b3, iv c0, iv c1, iv c2, iv c3, .val .null, rv b25, .unset, .unset, .unset] [(.int d3), .null, (.ref aU), (.ref b33), (.ref b33)])) rfl (by rw [hml]; rfl) (Steps.refl _) (a := b33) (argsL := [(.ref aU), .null, (.int d3)]) (rest := [(.ref b33)]) (lenOf own_pd3 rfl) rfl (by show 2 * 0 + _ ≤ _; exact Nat.le_of_eq rfl) (hb hby at_283) (fun _ _ => ⟨rfl, e34, (by decide : 6 + 0 ≤ _), (by decide : 23 + 0 ≤ _)⟩)
      dsimp only [Pt.U, Pt.locs, Pt.cells, Pt.slots] at X35 l35 y35 z35 st35 hQ35
      subst l35 y35 z35
      obtain ⟨rfl, N35q, K35, Ea35, Fb35, Fx35⟩ := hQ35
      have N35 := Fr.app N32 N35q
      have OL := OL.keep K35 (allS ge_b33 all0)
      have KP := KP.trans K35 (allS (Or.inr sz_b33) all0)
      have hk1 := Nat.le_trans hk1 K35.1
      have V_b26 := V_b26.keep K35 (ninS ne_b26_b33 nin0)
      have S_co := S_co.keep K35 (ninS ne_b25_b33 nin0) (ninS ne_t_co_b33 nin0)
      have E_b33 := E_b33.keep K35
      refine own_via (mkF m 286 #[iv p0, iv p1, iv p2, iv d3, iv 0, iv 0, iv b0, iv b1, iv b2, iv b3, iv c0, iv c1, iv c2, iv c3, .val .null, rv b25, .unset, .unset, .unset] [(.ref b33)]) st35 ?_
      have EC : Exa Z T35.heap b33 "com/example/saldera/saldera/coupon/Cashier" := Ea35
      have FB : Fld Z T35.heap b33 "com/example/saldera/saldera/coupon/Cashier" "branch" "Ljava/lang/String;" .null := Fb35
      have FX : Fld Z T35.heap b33 "com/example/saldera/saldera/coupon/Cashier" "crossBranch" "Z" (.int (nar .boolean d3)) := Fx35
      refine own_to (T' := T35) (mkF m 288 #[iv p0, iv p1, iv p2, iv d3, iv 0, iv 0, iv b0, iv b1, iv b2, iv b3, iv c0, iv c1, iv c2, iv c3, .val .null, rv b25, rv b33, .unset, .unset] []) (fun _ k => XS.astore X35.here hx rfl (hb hby at_286) rfl rfl (l' := #[iv p0, iv p1, iv p2, iv d3, iv 0, iv 0, iv b0, iv b1, iv b2, iv b3, iv c0, iv c1, iv c2, iv c3, .val .null, rv b25, rv b33, .unset, .unset]) rfl k) ?_
      refine own_to (T' := T35) (mkF m 290 #[iv p0, iv p1, iv p2, iv d3, iv 0, iv 0, iv b0, iv b1, iv b2, iv b3, iv c0, iv c1, iv c2, iv c3, .val .null, rv b25, rv b33, .unset, .unset] [(.int (0 : Int32))]) (fun _ k => XS.iload X35.here hx rfl (hb hby at_288) rfl k) ?_
      refine own_to (T' := T35) (mkF m 330 #[iv p0, iv p1, iv p2, iv d3, iv 0, iv 0, iv b0, iv b1, iv b2, iv b3, iv c0, iv c1, iv c2, iv c3, .val .null, rv b25, rv b33, .unset, .unset] []) (fun _ k => XS.ifYes X35.here hx rfl (pc0 := 290) (pc' := 330) rfl (hb hby at_290) rfl ((if0 _ _).trans (teq (by decide : (0 : Int32) = (0 : Int32))).1) (by decide) (by decide) k) ?_
      refine own_to (T' := T35) (mkF m 331 #[iv p0, iv p1, iv p2, iv d3, iv 0, iv 0, iv b0, iv b1, iv b2, iv b3, iv c0, iv c1, iv c2, iv c3, .val .null, rv b25, rv b33, .unset, .unset] [(.int (0 : Int32))]) (fun _ k => XS.iconst X35.here hx rfl (hb hby at_330) k) ?_
      refine own_to (T' := T35) (mkF m 333 #[iv p0, iv p1, iv p2, iv d3, iv 0, iv 0, iv b0, iv b1, iv b2, iv b3, iv c0, iv c1, iv c2, iv c3, .val .null, rv b25, rv b33, iv 0, .unset] []) (fun _ k => XS.istore X35.here hx rfl (hb hby at_331) rfl (l' := #[iv p0, iv p1, iv p2, iv d3, iv 0, iv 0, iv b0, iv b1, iv b2, iv b3, iv c0, iv c1, iv c2, iv c3, .val .null, rv b25, rv b33, iv 0, .unset]) rfl k) ?_
      rcases own_01 hd3t hd3f with q | q
      · subst q
        refine own_to (T' := T35) (mkF m 334 #[iv p0, iv p1, iv p2, iv 0, iv 0, iv 0, iv b0, iv b1, iv b2, iv b3, iv c0, iv c1, iv c2, iv c3, .val .null, rv b25, rv b33, iv 0, .unset] [(.int (0 : Int32))]) (fun _ k => XS.iloadN X35.here hx rfl (hb hby at_333) rfl k) ?_
        refine own_to (T' := T35) (mkF m 337 #[iv p0, iv p1, iv p2, iv 0, iv 0, iv 0, iv b0, iv b1, iv b2, iv b3, iv c0, iv c1, iv c2, iv c3, .val .null, rv b25, rv b33, iv 0, .unset] []) (fun _ k => XS.ifNo X35.here hx rfl (hb hby at_334) rfl ((if0 _ _).trans (teq (by decide : (0 : Int32) = (0 : Int32))).2) k) ?_
        refine own_to (T' := T35) (mkF m 339 #[iv p0, iv p1, iv p2, iv 0, iv 0, iv 0, iv b0, iv b1, iv b2, iv b3, iv c0, iv c1, iv c2, iv c3, .val .null, rv b25, rv b33, iv 0, .unset] [(.int (0 : Int32))]) (fun _ k => XS.iload X35.here hx rfl (hb hby at_337) rfl k) ?_
        refine own_to (T' := T35) (mkF m 346 #[iv p0, iv p1, iv p2, iv 0, iv 0, iv 0, iv b0, iv b1, iv b2, iv b3, iv c0, iv c1, iv c2, iv c3, .val .null, rv b25, rv b33, iv 0, .unset] []) (fun _ k => XS.ifYes X35.here hx rfl (pc0 := 339) (pc' := 346) rfl (hb hby at_339) rfl ((if0 _ _).trans (teq (by decide : (0 : Int32) = (0 : Int32))).1) (by decide) (by decide) k) ?_
        refine own_to (T' := T35) (mkF m 347 #[iv p0, iv p1, iv p2, iv 0, iv 0, iv 0, iv b0, iv b1, iv b2, iv b3, iv c0, iv c1, iv c2, iv c3, .val .null, rv b25, rv b33, iv 0, .unset] [(.int (0 : Int32))]) (fun _ k => XS.iconst X35.here hx rfl (hb hby at_346) k) ?_
        refine own_to (T' := T35) (mkF m 349 #[iv p0, iv p1, iv p2, iv 0, iv 0, iv 0, iv b0, iv b1, iv b2, iv b3, iv c0, iv c1, iv c2, iv c3, .val .null, rv b25, rv b33, iv 0, iv 0] []) (fun _ k => XS.istore X35.here hx rfl (hb hby at_347) rfl (l' := #[iv p0, iv p1, iv p2, iv 0, iv 0, iv 0, iv b0, iv b1, iv b2, iv b3, iv c0, iv c1, iv c2, iv c3, .val .null, rv b25, rv b33, iv 0, iv 0]) rfl k) ?_
        refine own_to (T' := T35) (mkF m 351 #[iv p0, iv p1, iv p2, iv 0, iv 0, iv 0, iv b0, iv b1, iv b2, iv b3, iv c0, iv c1, iv c2, iv c3, .val .null, rv b25, rv b33, iv 0, iv 0] [(.ref b33)]) (fun _ k => XS.aload X35.here hx rfl (hb hby at_349) rfl rfl k) ?_
        refine own_to (T' := T35) (mkF m 353 #[iv p0, iv p1, iv p2, iv 0, iv 0, iv 0, iv b0, iv b1, iv b2, iv b3, iv c0, iv c1, iv c2, iv c3, .val .null, rv b25, rv b33, iv 0, iv 0] [(.ref b25), (.ref b33)]) (fun _ k => XS.aload X35.here hx rfl (hb hby at_351) rfl rfl k) ?_
        obtain ⟨cq36, kq36, q36a, q36b, q36c⟩ := isOf hZ rfl EC
        obtain ⟨_, _, ⟨T36, L36, k36, n36⟩, -, X36, ⟨Lc36, hQ36, l36, y36, z36⟩, st36⟩ := X35.virtualBack hx (y := (⟨"com/example/saldera/saldera/coupon/Cashier", "mayCollect", "(Ljava/lang/String;)Z"⟩ : MethodName)) (z := (⟨"com/example/saldera/saldera/coupon/Cashier", "mayCollect", "(Ljava/lang/String;)Z"⟩ : MethodName)) hown (mvT hZ (hw _ (List.mem_of_getElem? (i := 46) rfl))) (mvT hZ (hw _ (List.mem_of_getElem? (i := 47) rfl))) (notFace_of_selects (args := #[]) (mvT hZ (hw _ (List.mem_of_getElem? (i := 49) rfl)))) (mvT hZ (hw _ (List.mem_of_getElem? (i := 49) rfl))) (mvT hZ (hw _ (List.mem_of_getElem? (i := 48) rfl))) (by decide) (backOf (W := 0) (own_rmMN l Z a0 hw [] b33 b25 T35.heap n0 (Nat.le_trans Z0 KP.1) OL FX FB EC S_co.1) hZ (hw _ (List.mem_of_getElem? (i := 50) rfl)) (hw _ (List.mem_of_getElem? (i := 32) rfl)) (by decide) (by decide)) q36a q36c (g := (mkF m 353 #[iv p0, iv p1, iv p2, iv 0, iv 0, iv 0, iv b0, iv b1, iv b2, iv b3, iv c0, iv c1, iv c2, iv c3, .val .null, rv b25, rv b33, iv 0, iv 0] [(.ref b25), (.ref b33)])) rfl (by rw [hml]; rfl) (Steps.refl _) (argsL := [(.ref b25)]) (rest := []) (lenOf own_pd1 rfl) rfl (by show 2 * 0 + _ ≤ _; exact Nat.le_of_eq rfl) (hb hby at_353) (fun _ _ => ⟨rfl, rfl, (by decide : 6 + 0 ≤ _), (by decide : 23 + 0 ≤ _)⟩)
        dsimp only [Pt.U, Pt.locs, Pt.cells, Pt.slots] at X36 l36 y36 z36 st36 hQ36
        subst l36 y36 z36
        obtain ⟨rfl, N36q, e36⟩ := hQ36
        have N36 := Fr.app N35 N36q
        refine own_via (mkF m 356 #[iv p0, iv p1, iv p2, iv 0, iv 0, iv 0, iv b0, iv b1, iv b2, iv b3, iv c0, iv c1, iv c2, iv c3, .val .null, rv b25, rv b33, iv 0, iv 0] [(.int (0 : Int32))]) st36 ?_
        refine own_to (T' := T36) (mkF m 358 #[iv p0, iv p1, iv p2, iv 0, iv 0, iv 0, iv b0, iv b1, iv b2, iv b3, iv c0, iv c1, iv c2, iv c3, .val .null, rv b25, rv b33, iv 0, iv 0] [(.int (0 : Int32)), (.int (0 : Int32))]) (fun _ k => XS.iload X36.here hx rfl (hb hby at_356) rfl k) ?_
        refine own_to (T' := T36) (mkF m 361 #[iv p0, iv p1, iv p2, iv 0, iv 0, iv 0, iv b0, iv b1, iv b2, iv b3, iv c0, iv c1, iv c2, iv c3, .val .null, rv b25, rv b33, iv 0, iv 0] []) (fun _ k => XS.icmpNo X36.here hx rfl (hb hby at_358) rfl (teq (by decide : (0 : Int32) = (0 : Int32))).2 k) ?_
        refine own_to (T' := T36) (mkF m 362 #[iv p0, iv p1, iv p2, iv 0, iv 0, iv 0, iv b0, iv b1, iv b2, iv b3, iv c0, iv c1, iv c2, iv c3, .val .null, rv b25, rv b33, iv 0, iv 0] [(.int (1 : Int32))]) (fun _ k => XS.iconst X36.here hx rfl (hb hby at_361) k) ?_
        refine own_to (T' := T36) (mkF m 366 #[iv p0, iv p1, iv p2, iv 0, iv 0, iv 0, iv b0, iv b1, iv b2, iv b3, iv c0, iv c1, iv c2, iv c3, .val .null, rv b25, rv b33, iv 0, iv 0] [(.int (1 : Int32))]) (fun _ k => XS.goto X36.here hx rfl (pc0 := 362) (pc' := 366) rfl (hb hby at_362) (by decide) (by decide) k) ?_
        exact own_retNW (s := s) (vm₁ := T34.vm) X36 hS (by rw [e36]; exact hk1) hx (t := .boolean) Bd.returns (by simp) hlk (hb hby at_366) (by decide) (by decide) (by rw [e36]; exact ⟨rfl, N36⟩)
      · subst q
        refine own_to (T' := T35) (mkF m 334 #[iv p0, iv p1, iv p2, iv 1, iv 0, iv 0, iv b0, iv b1, iv b2, iv b3, iv c0, iv c1, iv c2, iv c3, .val .null, rv b25, rv b33, iv 0, .unset] [(.int (1 : Int32))]) (fun _ k => XS.iloadN X35.here hx rfl (hb hby at_333) rfl k) ?_
        refine own_to (T' := T35) (mkF m 342 #[iv p0, iv p1, iv p2, iv 1, iv 0, iv 0, iv b0, iv b1, iv b2, iv b3, iv c0, iv c1, iv c2, iv c3, .val .null, rv b25, rv b33, iv 0, .unset] []) (fun _ k => XS.ifYes X35.here hx rfl (pc0 := 334) (pc' := 342) rfl (hb hby at_334) rfl ((if0 _ _).trans (feq (by decide : ¬ ((1 : Int32) = (0 : Int32)))).2) (by decide) (by decide) k) ?_
        refine own_to (T' := T35) (mkF m 343 #[iv p0, iv p1, iv p2, iv 1, iv 0, iv 0, iv b0, iv b1, iv b2, iv b3, iv c0, iv c1, iv c2, iv c3, .val .null, rv b25, rv b33, iv 0, .unset] [(.int (1 : Int32))]) (fun _ k => XS.iconst X35.here hx rfl (hb hby at_342) k) ?_
        refine own_to (T' := T35) (mkF m 347 #[iv p0, iv p1, iv p2, iv 1, iv 0, iv 0, iv b0, iv b1, iv b2, iv b3, iv c0, iv c1, iv c2, iv c3, .val .null, rv b25, rv b33, iv 0, .unset] [(.int (1 : Int32))]) (fun _ k => XS.goto X35.here hx rfl (pc0 := 343) (pc' := 347) rfl (hb hby at_343) (by decide) (by decide) k) ?_
        refine own_to (T' := T35) (mkF m 349 #[iv p0, iv p1, iv p2, iv 1, iv 0, iv 0, iv b0, iv b1, iv b2, iv b3, iv c0, iv c1, iv c2, iv c3, .val .null, rv b25, rv b33, iv 0, iv 1] []) (fun _ k => XS.istore X35.here hx rfl (hb hby at_347) rfl (l' := #[iv p0, iv p1, iv p2, iv 1, iv 0, iv 0, iv b0, iv b1, iv b2, iv b3, iv c0, iv c1, iv c2, iv c3, .val .null, rv b25, rv b33, iv 0, iv 1]) rfl k) ?_
        refine own_to (T' := T35) (mkF m 351 #[iv p0, iv p1, iv p2, iv 1, iv 0, iv 0, iv b0, iv b1, iv b2, iv b3, iv c0, iv c1, iv c2, iv c3, .val .null, rv b25, rv b33, iv 0, iv 1] [(.ref b33)]) (fun _ k => XS.aload X35.here hx rfl (hb hby at_349) rfl rfl k) ?_
        refine own_to (T' := T35) (mkF m 353 #[iv p0, iv p1, iv p2, iv 1, iv 0, iv 0, iv b0, iv b1, iv b2, iv b3, iv c0, iv c1, iv c2, iv c3, .val .null, rv b25, rv b33, iv 0, iv 1] [(.ref b25), (.ref b33)]) (fun _ k => XS.aload X35.here hx rfl (hb hby at_351) rfl rfl k) ?_
        obtain ⟨cq37, kq37, q37a, q37b, q37c⟩ := isOf hZ rfl EC
        obtain ⟨_, _, ⟨T37, L37, k37, n37⟩, -, X37, ⟨Lc37, hQ37, l37, y37, z37⟩, st37⟩ := X35.virtualBack hx (y := (⟨"com/example/saldera/saldera/coupon/Cashier", "mayCollect", "(Ljava/lang/String;)Z"⟩ : MethodName)) (z := (⟨"com/example/saldera/saldera/coupon/Cashier", "mayCollect", "(Ljava/lang/String;)Z"⟩ : MethodName)) hown (mvT hZ (hw _ (List.mem_of_getElem? (i := 46) rfl))) (mvT hZ (hw _ (List.mem_of_getElem? (i := 47) rfl))) (notFace_of_selects (args := #[]) (mvT hZ (hw _ (List.mem_of_getElem? (i := 49) rfl)))) (mvT hZ (hw _ (List.mem_of_getElem? (i := 49) rfl))) (mvT hZ (hw _ (List.mem_of_getElem? (i := 48) rfl))) (by decide) (backOf (W := 0) (own_rmMX l Z a0 hw [] b33 b25 T35.heap n0 (Nat.le_trans Z0 KP.1) OL FX) hZ (hw _ (List.mem_of_getElem? (i := 50) rfl)) (hw _ (List.mem_of_getElem? (i := 32) rfl)) (by decide) (by decide)) q37a q37c (g := (mkF m 353 #[iv p0, iv p1, iv p2, iv 1, iv 0, iv 0, iv b0, iv b1, iv b2, iv b3, iv c0, iv c1, iv c2, iv c3, .val .null, rv b25, rv b33, iv 0, iv 1] [(.ref b25), (.ref b33)])) rfl (by rw [hml]; rfl) (Steps.refl _) (argsL := [(.ref b25)]) (rest := []) (lenOf own_pd1 rfl) rfl (by show 2 * 0 + _ ≤ _; exact Nat.le_of_eq rfl) (hb hby at_353) (fun _ _ => ⟨rfl, rfl, (by decide : 6 + 0 ≤ _), (by decide : 23 + 0 ≤ _)⟩)
        dsimp only [Pt.U, Pt.locs, Pt.cells, Pt.slots] at X37 l37 y37 z37 st37 hQ37
        subst l37 y37 z37
        obtain ⟨rfl, N37q, e37⟩ := hQ37
        have N37 := Fr.app N35 N37q
        refine own_via (mkF m 356 #[iv p0, iv p1, iv p2, iv 1, iv 0, iv 0, iv b0, iv b1, iv b2, iv b3, iv c0, iv c1, iv c2, iv c3, .val .null, rv b25, rv b33, iv 0, iv 1] [(.int (1 : Int32))]) st37 ?_
        refine own_to (T' := T37) (mkF m 358 #[iv p0, iv p1, iv p2, iv 1, iv 0, iv 0, iv b0, iv b1, iv b2, iv b3, iv c0, iv c1, iv c2, iv c3, .val .null, rv b25, rv b33, iv 0, iv 1] [(.int (1 : Int32)), (.int (1 : Int32))]) (fun _ k => XS.iload X37.here hx rfl (hb hby at_356) rfl k) ?_
        refine own_to (T' := T37) (mkF m 361 #[iv p0, iv p1, iv p2, iv 1, iv 0, iv 0, iv b0, iv b1, iv b2, iv b3, iv c0, iv c1, iv c2, iv c3, .val .null, rv b25, rv b33, iv 0, iv 1] []) (fun _ k => XS.icmpNo X37.here hx rfl (hb hby at_358) rfl (teq (by decide : (1 : Int32) = (1 : Int32))).2 k) ?_
        refine own_to (T' := T37) (mkF m 362 #[iv p0, iv p1, iv p2, iv 1, iv 0, iv 0, iv b0, iv b1, iv b2, iv b3, iv c0, iv c1, iv c2, iv c3, .val .null, rv b25, rv b33, iv 0, iv 1] [(.int (1 : Int32))]) (fun _ k => XS.iconst X37.here hx rfl (hb hby at_361) k) ?_
        refine own_to (T' := T37) (mkF m 366 #[iv p0, iv p1, iv p2, iv 1, iv 0, iv 0, iv b0, iv b1, iv b2, iv b3, iv c0, iv c1, iv c2, iv c3, .val .null, rv b25, rv b33, iv 0, iv 1] [(.int (1 : Int32))]) (fun _ k => XS.goto X37.here hx rfl (pc0 := 362) (pc' := 366) rfl (hb hby at_362) (by decide) (by decide) k) ?_
        exact own_retNW (s := s) (vm₁ := T34.vm) X37 hS (by rw [e37]; exact hk1) hx (t := .boolean) Bd.returns (by simp) hlk (hb hby at_366) (by decide) (by decide) (by rw [e37]; exact ⟨rfl, N37⟩)
    · subst q
      refine own_to (T' := s₁) (mkF m 211 #[iv p0, iv p1, iv p2, iv d3, iv 0, iv 1, iv b0, iv b1, iv b2, iv b3, iv c0, iv c1, iv c2, iv c3, .val .null, .unset, .unset, .unset, .unset] [(.int (1 : Int32))]) (fun _ k => XS.iload X0.here hx rfl (hb hby at_209) rfl k) ?_
      refine own_to (T' := s₁) (mkF m 214 #[iv p0, iv p1, iv p2, iv d3, iv 0, iv 1, iv b0, iv b1, iv b2, iv b3, iv c0, iv c1, iv c2, iv c3, .val .null, .unset, .unset, .unset, .unset] []) (fun _ k => XS.ifNo X0.here hx rfl (hb hby at_211) rfl ((if0 _ _).trans (feq (by decide : ¬ ((1 : Int32) = (0 : Int32)))).1) k) ?_
      obtain ⟨T38, h38, X38, e38, E38, A38, D38, -, st38⟩ := newO X0 hx hZ hown (hw _ (List.mem_of_getElem? (i := 0) rfl)) (hw _ (List.mem_of_getElem? (i := 1) rfl)) (hw _ (List.mem_of_getElem? (i := 2) rfl)) e0 (g := (mkF m 214 #[iv p0, iv p1, iv p2, iv d3, iv 0, iv 1, iv b0, iv b1, iv b2, iv b3, iv c0, iv c1, iv c2, iv c3, .val .null, .unset, .unset, .unset, .unset] [])) rfl (hb hby at_214) (by decide) (by decide)
      obtain ⟨b38, g38⟩ : ∃ z, z = h0.size := ⟨_, rfl⟩
      rw [← g38] at A38 D38 st38
      have sz_b38 : h0.size ≤ b38 := Nat.le_trans KP.1 (Nat.le_of_eq g38.symm)
      have ge_b38 : n0 ≤ b38 := Nat.le_trans Z0 sz_b38
      have OL := OL.ext E38
      have KP := KP.ext E38
      have hk1 := Nat.le_trans hk1 E38.1
      have E_b38 : Exa Z h38 b38 "java/lang/String" := A38
      have F_coder_b38 : Fld Z h38 b38 "java/lang/String" "coder" "B" (.int (0 : Int32)) := D38 (Or.inr (hw _ (List.mem_of_getElem? (i := 27) rfl))) (ty := .byte) (by decide)
      have F_value_b38 : Fld Z h38 b38 "java/lang/String" "value" "[B" .null := D38 (Or.inr (hw _ (List.mem_of_getElem? (i := 29) rfl))) (ty := (.array .byte)) (by decide)
      refine own_to (mkF m 217 #[iv p0, iv p1, iv p2, iv d3, iv 0, iv 1, iv b0, iv b1, iv b2, iv b3, iv c0, iv c1, iv c2, iv c3, .val .null, .unset, .unset, .unset, .unset] [(.ref b38)]) st38 ?_
      refine own_to (T' := T38) (mkF m 218 #[iv p0, iv p1, iv p2, iv d3, iv 0, iv 1, iv b0, iv b1, iv b2, iv b3, iv c0, iv c1, iv c2, iv c3, .val .null, .unset, .unset, .unset, .unset] [(.ref b38), (.ref b38)]) (fun _ k => XS.dup X38.here hx rfl (hb hby at_217) rfl rfl k) ?_
      refine own_to (T' := T38) (mkF m 219 #[iv p0, iv p1, iv p2, iv d3, iv 0, iv 1, iv b0, iv b1, iv b2, iv b3, iv c0, iv c1, iv c2, iv c3, .val .null, .unset, .unset, .unset, .unset] [(.int (3 : Int32)), (.ref b38), (.ref b38)]) (fun _ k => XS.iconst X38.here hx rfl (hb hby at_218) k) ?_
      obtain ⟨T39, h39, k39, X39, e39, E39, A39, B39, st39⟩ := newPE X38 hx hZ (hw _ (List.mem_of_getElem? (i := 3) rfl)) e38 (g := (mkF m 219 #[iv p0, iv p1, iv p2, iv d3, iv 0, iv 1, iv b0, iv b1, iv b2, iv b3, iv c0, iv c1, iv c2, iv c3, .val .null, .unset, .unset, .unset, .unset] [(.int (3 : Int32)), (.ref b38), (.ref b38)])) rfl (hb hby at_219) rfl (by decide) (cap := 3) (by decide) (by decide) (by decide) (by decide) (ad := "[C") (by decide)
      obtain ⟨b39, g39⟩ : ∃ z, z = h38.size := ⟨_, rfl⟩
      rw [← g39] at A39 B39 st39
      have sz_b39 : h0.size ≤ b39 := Nat.le_trans KP.1 (Nat.le_of_eq g39.symm)
      have ge_b39 : n0 ≤ b39 := Nat.le_trans Z0 sz_b39
      have ne_b38_b39 : b38 ≠ b39 := Nat.ne_of_lt (Nat.lt_of_lt_of_le E_b38.lt (Nat.le_of_eq g39.symm))
      have OL := OL.ext E39
      have KP := KP.ext E39
      have hk1 := Nat.le_trans hk1 E39.1
      have E_b38 := E_b38.ext E39
      have F_coder_b38 := F_coder_b38.ext E39
      have F_value_b38 := F_value_b38.ext E39
      have V_b39 : Arv Z h39 b39 k39 .char (3 : Int32) [(.int (0 : Int32)), (.int (0 : Int32)), (.int (0 : Int32))] (.int (0 : Int32)) := (Arv.new A39 (by decide)).pad (pad_rep [] (.int (0 : Int32)) 3)
      refine own_to (mkF m 221 #[iv p0, iv p1, iv p2, iv d3, iv 0, iv 1, iv b0, iv b1, iv b2, iv b3, iv c0, iv c1, iv c2, iv c3, .val .null, .unset, .unset, .unset, .unset] [(.ref b39), (.ref b38), (.ref b38)]) st39 ?_
      refine own_to (T' := T39) (mkF m 222 #[iv p0, iv p1, iv p2, iv d3, iv 0, iv 1, iv b0, iv b1, iv b2, iv b3, iv c0, iv c1, iv c2, iv c3, .val .null, .unset, .unset, .unset, .unset] [(.ref b39), (.ref b39), (.ref b38), (.ref b38)]) (fun _ k => XS.dup X39.here hx rfl (hb hby at_221) rfl rfl k) ?_
      refine own_to (T' := T39) (mkF m 223 #[iv p0, iv p1, iv p2, iv d3, iv 0, iv 1, iv b0, iv b1, iv b2, iv b3, iv c0, iv c1, iv c2, iv c3, .val .null, .unset, .unset, .unset, .unset] [(.int (0 : Int32)), (.ref b39), (.ref b39), (.ref b38), (.ref b38)]) (fun _ k => XS.iconst X39.here hx rfl (hb hby at_222) k) ?_
      refine own_to (T' := T39) (mkF m 225 #[iv p0, iv p1, iv p2, iv d3, iv 0, iv 1, iv b0, iv b1, iv b2, iv b3, iv c0, iv c1, iv c2, iv c3, .val .null, .unset, .unset, .unset, .unset] [(.int c0), (.int (0 : Int32)), (.ref b39), (.ref b39), (.ref b38), (.ref b38)]) (fun _ k => XS.iload X39.here hx rfl (hb hby at_223) rfl k) ?_
      obtain ⟨cl40, Ar40, q40, S40, M40, H40, G40⟩ := id V_b39
      obtain ⟨T40, h40, X40, e40, W40, st40⟩ := stC X39 hx hZ e39 Ar40 (j := (0 : Int32)) (inb_of S40 ⟨by decide, by decide⟩) (g := (mkF m 225 #[iv p0, iv p1, iv p2, iv d3, iv 0, iv 1, iv b0, iv b1, iv b2, iv b3, iv c0, iv c1, iv c2, iv c3, .val .null, .unset, .unset, .unset, .unset] [(.int c0), (.int (0 : Int32)), (.ref b39), (.ref b39), (.ref b38), (.ref b38)])) rfl rfl (hb hby at_225)
      refine own_to (mkF m 226 #[iv p0, iv p1, iv p2, iv d3, iv 0, iv 1, iv b0, iv b1, iv b2, iv b3, iv c0, iv c1, iv c2, iv c3, .val .null, .unset, .unset, .unset, .unset] [(.ref b39), (.ref b38), (.ref b38)]) st40 ?_
      have N40 := Fr.snoc X40 N0 ge_b39
      have tmp40 : Arv Z h40 b39 k39 .char (3 : Int32) [(.int (nar .char c0)), (.int (0 : Int32)), (.int (0 : Int32))] (.int (0 : Int32)) := Arv.set Ar40 q40 S40 M40 H40 G40 (fits_nar_char _) W40 0 rfl (Nat.le_of_ble_eq_true rfl)
      rw [own_nar8 c8_c0] at tmp40
      have OL := OL.wr W40 ge_b39
      have KP := KP.wr W40 (Or.inr sz_b39)
      have hk1 := Nat.le_trans hk1 (Keep.of_wr W40).1
      have E_b38 := E_b38.wr W40
      have F_coder_b38 := F_coder_b38.other W40 (Or.inl ne_b38_b39)
      have F_value_b38 := F_value_b38.other W40 (Or.inl ne_b38_b39)
      have V_b39 := tmp40
      refine own_to (T' := T40) (mkF m 227 #[iv p0, iv p1, iv p2, iv d3, iv 0, iv 1, iv b0, iv b1, iv b2, iv b3, iv c0, iv c1, iv c2, iv c3, .val .null, .unset, .unset, .unset, .unset] [(.ref b39), (.ref b39), (.ref b38), (.ref b38)]) (fun _ k => XS.dup X40.here hx rfl (hb hby at_226) rfl rfl k) ?_
      refine own_to (T' := T40) (mkF m 228 #[iv p0, iv p1, iv p2, iv d3, iv 0, iv 1, iv b0, iv b1, iv b2, iv b3, iv c0, iv c1, iv c2, iv c3, .val .null, .unset, .unset, .unset, .unset] [(.int (1 : Int32)), (.ref b39), (.ref b39), (.ref b38), (.ref b38)]) (fun _ k => XS.iconst X40.here hx rfl (hb hby at_227) k) ?_
      refine own_to (T' := T40) (mkF m 230 #[iv p0, iv p1, iv p2, iv d3, iv 0, iv 1, iv b0, iv b1, iv b2, iv b3, iv c0, iv c1, iv c2, iv c3, .val .null, .unset, .unset, .unset, .unset] [(.int c1), (.int (1 : Int32)), (.ref b39), (.ref b39), (.ref b38), (.ref b38)]) (fun _ k => XS.iload X40.here hx rfl (hb hby at_228) rfl k) ?_
      obtain ⟨cl41, Ar41, q41, S41, M41, H41, G41⟩ := id V_b39
      obtain ⟨T41, h41, X41, e41, W41, st41⟩ := stC X40 hx hZ e40 Ar41 (j := (1 : Int32)) (inb_of S41 ⟨by decide, by decide⟩) (g := (mkF m 230 #[iv p0, iv p1, iv p2, iv d3, iv 0, iv 1, iv b0, iv b1, iv b2, iv b3, iv c0, iv c1, iv c2, iv c3, .val .null, .unset, .unset, .unset, .unset] [(.int c1), (.int (1 : Int32)), (.ref b39), (.ref b39), (.ref b38), (.ref b38)])) rfl rfl (hb hby at_230)
      refine own_to (mkF m 231 #[iv p0, iv p1, iv p2, iv d3, iv 0, iv 1, iv b0, iv b1, iv b2, iv b3, iv c0, iv c1, iv c2, iv c3, .val .null, .unset, .unset, .unset, .unset] [(.ref b39), (.ref b38), (.ref b38)]) st41 ?_
      have N41 := Fr.snoc X41 N40 ge_b39
      have tmp41 : Arv Z h41 b39 k39 .char (3 : Int32) [(.int c0), (.int (nar .char c1)), (.int (0 : Int32))] (.int (0 : Int32)) := Arv.set Ar41 q41 S41 M41 H41 G41 (fits_nar_char _) W41 1 rfl (Nat.le_of_ble_eq_true rfl)
      rw [own_nar8 c8_c1] at tmp41
      have OL := OL.wr W41 ge_b39
      have KP := KP.wr W41 (Or.inr sz_b39)
      have hk1 := Nat.le_trans hk1 (Keep.of_wr W41).1
      have E_b38 := E_b38.wr W41
      have F_coder_b38 := F_coder_b38.other W41 (Or.inl ne_b38_b39)
      have F_value_b38 := F_value_b38.other W41 (Or.inl ne_b38_b39)
      have V_b39 := tmp41
      refine own_to (T' := T41) (mkF m 232 #[iv p0, iv p1, iv p2, iv d3, iv 0, iv 1, iv b0, iv b1, iv b2, iv b3, iv c0, iv c1, iv c2, iv c3, .val .null, .unset, .unset, .unset, .unset] [(.ref b39), (.ref b39), (.ref b38), (.ref b38)]) (fun _ k => XS.dup X41.here hx rfl (hb hby at_231) rfl rfl k) ?_
      refine own_to (T' := T41) (mkF m 233 #[iv p0, iv p1, iv p2, iv d3, iv 0, iv 1, iv b0, iv b1, iv b2, iv b3, iv c0, iv c1, iv c2, iv c3, .val .null, .unset, .unset, .unset, .unset] [(.int (2 : Int32)), (.ref b39), (.ref b39), (.ref b38), (.ref b38)]) (fun _ k => XS.iconst X41.here hx rfl (hb hby at_232) k) ?_
      refine own_to (T' := T41) (mkF m 235 #[iv p0, iv p1, iv p2, iv d3, iv 0, iv 1, iv b0, iv b1, iv b2, iv b3, iv c0, iv c1, iv c2, iv c3, .val .null, .unset, .unset, .unset, .unset] [(.int c2), (.int (2 : Int32)), (.ref b39), (.ref b39), (.ref b38), (.ref b38)]) (fun _ k => XS.iload X41.here hx rfl (hb hby at_233) rfl k) ?_
      obtain ⟨cl42, Ar42, q42, S42, M42, H42, G42⟩ := id V_b39
      obtain ⟨T42, h42, X42, e42, W42, st42⟩ := stC X41 hx hZ e41 Ar42 (j := (2 : Int32)) (inb_of S42 ⟨by decide, by decide⟩) (g := (mkF m 235 #[iv p0, iv p1, iv p2, iv d3, iv 0, iv 1, iv b0, iv b1, iv b2, iv b3, iv c0, iv c1, iv c2, iv c3, .val .null, .unset, .unset, .unset, .unset] [(.int c2), (.int (2 : Int32)), (.ref b39), (.ref b39), (.ref b38), (.ref b38)])) rfl rfl (hb hby at_235)
      refine own_to (mkF m 236 #[iv p0, iv p1, iv p2, iv d3, iv 0, iv 1, iv b0, iv b1, iv b2, iv b3, iv c0, iv c1, iv c2, iv c3, .val .null, .unset, .unset, .unset, .unset] [(.ref b39), (.ref b38), (.ref b38)]) st42 ?_
      have N42 := Fr.snoc X42 N41 ge_b39
      have tmp42 : Arv Z h42 b39 k39 .char (3 : Int32) [(.int c0), (.int c1), (.int (nar .char c2))] (.int (0 : Int32)) := Arv.set Ar42 q42 S42 M42 H42 G42 (fits_nar_char _) W42 2 rfl (Nat.le_of_ble_eq_true rfl)
      rw [own_nar8 c8_c2] at tmp42
      have OL := OL.wr W42 ge_b39
      have KP := KP.wr W42 (Or.inr sz_b39)
      have hk1 := Nat.le_trans hk1 (Keep.of_wr W42).1
      have E_b38 := E_b38.wr W42
      have F_coder_b38 := F_coder_b38.other W42 (Or.inl ne_b38_b39)
      have F_value_b38 := F_value_b38.other W42 (Or.inl ne_b38_b39)
      have V_b39 := tmp42
      have hp43 : ∀ c ∈ ([c0, c1, c2] : List Int32), ¬ c < 0 ∧ ¬ (255 : Int32) < c := (own_allS c8_c0 (own_allS c8_c1 (own_allS c8_c2 own_all0)))
      have KP0 := KP
      have lt0_b38 := E_b38.lt
      have lt0_b39 := V_b39.lt
      obtain ⟨_, _, ⟨T44, L44, k44, n44⟩, -, X44, ⟨Lc44, hQ44, l44, y44, z44⟩, st44⟩ := X42.specialBack hx (y := (⟨"java/lang/String", "<init>", "([C)V"⟩ : MethodName)) rfl hown (mvT hZ (hw _ (List.mem_of_getElem? (i := 4) rfl))) (mvT hZ (hw _ (List.mem_of_getElem? (i := 5) rfl))) (mvT hZ (hw _ (List.mem_of_getElem? (i := 6) rfl))) (by decide) (StrChars.Road.backV (W := 1) hZ hwsV (kI := 4) (hw _ (List.mem_of_getElem? (i := 1) rfl)) (cs := ([c0, c1, c2] : List Int32)) (bs := (([c0, c1, c2] : List Int32)).map (fun c => c.toInt8.toInt32)) (n := 3) ge_b38 (Nat.le_trans Z0 KP.1) E_b38 F_value_b38 F_coder_b38 V_b39 (O2.ext OL.2) P5 rfl rfl (by decide) (by decide) hp43 rfl (by decide) (by decide)) (g := (mkF m 236 #[iv p0, iv p1, iv p2, iv d3, iv 0, iv 1, iv b0, iv b1, iv b2, iv b3, iv c0, iv c1, iv c2, iv c3, .val .null, .unset, .unset, .unset, .unset] [(.ref b39), (.ref b38), (.ref b38)])) rfl (by rw [hml]; rfl) (Steps.refl _) (a := b38) (argsL := [(.ref b39)]) (rest := [(.ref b38)]) (lenOf own_pd2 rfl) rfl (by show 2 * 0 + _ ≤ _; exact Nat.le_of_eq rfl) (hb hby at_236) (fun _ _ => ⟨rfl, e42, (by decide : 2 + 1 ≤ _), (by decide : 7 + 3 ≤ _)⟩)
      dsimp only [Pt.U, Pt.locs, Pt.cells, Pt.slots] at X44 l44 y44 z44 st44 hQ44
      subst l44 y44 z44
      obtain ⟨rfl, N44q, K44, Ex44, Cx44, t_co, kb_co, ge_t_co, sz0_t_co, ne_t_co_b38, Vx44, Kx44⟩ := hQ44
      have N44 := Fr.app N42 N44q
      have OL := OL.keep K44 (allS ge_b38 all0)
      have KP := KP.trans K44 (allS (Or.inr sz_b38) all0)
      have hk1 := Nat.le_trans hk1 K44.1
      have E_b38 := E_b38.keep K44
      have V_b39 := V_b39.keep K44 (ninS (Ne.symm ne_b38_b39) nin0)
      refine own_via (mkF m 239 #[iv p0, iv p1, iv p2, iv d3, iv 0, iv 1, iv b0, iv b1, iv b2, iv b3, iv c0, iv c1, iv c2, iv c3, .val .null, .unset, .unset, .unset, .unset] [(.ref b38)]) st44 ?_
      have sz_t_co : h0.size ≤ t_co := Nat.le_trans KP0.1 sz0_t_co
      have ne_b39_t_co : b39 ≠ t_co := Nat.ne_of_lt (Nat.lt_of_lt_of_le lt0_b39 sz0_t_co)
      have S_co : own_Str Z T44.heap b38 t_co kb_co ([c0, c1, c2] : List Int32) := ⟨Ex44, Vx44, Cx44, Kx44, hp43, Nat.le_of_ble_eq_true rfl⟩
      refine own_to (T' := T44) (mkF m 272 #[iv p0, iv p1, iv p2, iv d3, iv 0, iv 1, iv b0, iv b1, iv b2, iv b3, iv c0, iv c1, iv c2, iv c3, .val .null, .unset, .unset, .unset, .unset] [(.ref b38)]) (fun _ k => XS.goto X44.here hx rfl (pc0 := 239) (pc' := 272) rfl (hb hby at_239) (by decide) (by decide) k) ?_
      refine own_to (T' := T44) (mkF m 274 #[iv p0, iv p1, iv p2, iv d3, iv 0, iv 1, iv b0, iv b1, iv b2, iv b3, iv c0, iv c1, iv c2, iv c3, .val .null, rv b38, .unset, .unset, .unset] []) (fun _ k => XS.astore X44.here hx rfl (hb hby at_272) rfl rfl (l' := #[iv p0, iv p1, iv p2, iv d3, iv 0, iv 1, iv b0, iv b1, iv b2, iv b3, iv c0, iv c1, iv c2, iv c3, .val .null, rv b38, .unset, .unset, .unset]) rfl k) ?_
      obtain ⟨T45, h45, X45, e45, E45, A45, D45, -, st45⟩ := newO X44 hx hZ hown (hw _ (List.mem_of_getElem? (i := 30) rfl)) (hw _ (List.mem_of_getElem? (i := 31) rfl)) (hw _ (List.mem_of_getElem? (i := 32) rfl)) rfl (g := (mkF m 274 #[iv p0, iv p1, iv p2, iv d3, iv 0, iv 1, iv b0, iv b1, iv b2, iv b3, iv c0, iv c1, iv c2, iv c3, .val .null, rv b38, .unset, .unset, .unset] [])) rfl (hb hby at_274) (by decide) (by decide)
      obtain ⟨b45, g45⟩ : ∃ z, z = T44.heap.size := ⟨_, rfl⟩
      rw [← g45] at A45 D45 st45
      have sz_b45 : h0.size ≤ b45 := Nat.le_trans KP.1 (Nat.le_of_eq g45.symm)
      have ge_b45 : n0 ≤ b45 := Nat.le_trans Z0 sz_b45
      have ne_b39_b45 : b39 ≠ b45 := Nat.ne_of_lt (Nat.lt_of_lt_of_le V_b39.lt (Nat.le_of_eq g45.symm))
      have ne_b38_b45 : b38 ≠ b45 := Nat.ne_of_lt (Nat.lt_of_lt_of_le S_co.lt (Nat.le_of_eq g45.symm))
      have ne_t_co_b45 : t_co ≠ b45 := Nat.ne_of_lt (Nat.lt_of_lt_of_le S_co.ltT (Nat.le_of_eq g45.symm))
      have OL := OL.ext E45
      have KP := KP.ext E45
      have hk1 := Nat.le_trans hk1 E45.1
      have V_b39 := V_b39.ext E45
      have S_co := S_co.ext E45
      have E_b45 : Exa Z h45 b45 "com/example/saldera/saldera/coupon/Cashier" := A45
      have F_username_b45 : Fld Z h45 b45 "com/example/saldera/saldera/coupon/Cashier" "username" "Ljava/lang/String;" .null := D45 (Or.inr (hw _ (List.mem_of_getElem? (i := 41) rfl))) (ty := (.object "java/lang/String")) (by decide)
      have F_branch_b45 : Fld Z h45 b45 "com/example/saldera/saldera/coupon/Cashier" "branch" "Ljava/lang/String;" .null := D45 (Or.inr (hw _ (List.mem_of_getElem? (i := 43) rfl))) (ty := (.object "java/lang/String")) (by decide)
      have F_crossBranch_b45 : Fld Z h45 b45 "com/example/saldera/saldera/coupon/Cashier" "crossBranch" "Z" (.int (0 : Int32)) := D45 (Or.inr (hw _ (List.mem_of_getElem? (i := 45) rfl))) (ty := .boolean) (by decide)
      refine own_to (mkF m 277 #[iv p0, iv p1, iv p2, iv d3, iv 0, iv 1, iv b0, iv b1, iv b2, iv b3, iv c0, iv c1, iv c2, iv c3, .val .null, rv b38, .unset, .unset, .unset] [(.ref b45)]) st45 ?_
      refine own_to (T' := T45) (mkF m 278 #[iv p0, iv p1, iv p2, iv d3, iv 0, iv 1, iv b0, iv b1, iv b2, iv b3, iv c0, iv c1, iv c2, iv c3, .val .null, rv b38, .unset, .unset, .unset] [(.ref b45), (.ref b45)]) (fun _ k => XS.dup X45.here hx rfl (hb hby at_277) rfl rfl k) ?_
      obtain ⟨aU, T46, h46, k1, X46, e46, E46, hS, hk2, hZ, hown, st46⟩ := ldcS (s := s) (vm0 := s.vm) X45 hx hZ hown (hw _ (List.mem_of_getElem? (i := 33) rfl)) hwsS e45 hS hk1 (g := (mkF m 278 #[iv p0, iv p1, iv p2, iv d3, iv 0, iv 1, iv b0, iv b1, iv b2, iv b3, iv c0, iv c1, iv c2, iv c3, .val .null, rv b38, .unset, .unset, .unset] [(.ref b45), (.ref b45)])) rfl (hb hby at_278) (n := 4) (by decide) (by decide) (by decide) (by decide)
      have OL := OL.ext E46
      have KP := KP.ext E46
      have V_b39 := V_b39.ext E46
      have S_co := S_co.ext E46
      have E_b45 := E_b45.ext E46
      have F_username_b45 := F_username_b45.ext E46
      have F_branch_b45 := F_branch_b45.ext E46
      have F_crossBranch_b45 := F_crossBranch_b45.ext E46
      have hk1 := hk2
      refine own_to (mkF m 280 #[iv p0, iv p1, iv p2, iv d3, iv 0, iv 1, iv b0, iv b1, iv b2, iv b3, iv c0, iv c1, iv c2, iv c3, .val .null, rv b38, .unset, .unset, .unset] [(.ref aU), (.ref b45), (.ref b45)]) st46 ?_
      refine own_to (T' := T46) (mkF m 282 #[iv p0, iv p1, iv p2, iv d3, iv 0, iv 1, iv b0, iv b1, iv b2, iv b3, iv c0, iv c1, iv c2, iv c3, .val .null, rv b38, .unset, .unset, .unset] [.null, (.ref aU), (.ref b45), (.ref b45)]) (fun _ k => XS.aload X46.here hx rfl (hb hby at_280) rfl rfl k) ?_
      refine own_to (T' := T46) (mkF m 283 #[iv p0, iv p1, iv p2, iv d3, iv 0, iv 1, iv b0, iv b1, iv b2, iv b3, iv c0, iv c1, iv c2, iv c3, .val .null, rv b38, .unset, .unset, .unset] [(.int d3), .null, (.ref aU), (.ref b45), (.ref b45)]) (fun _ k => XS.iloadN X46.here hx rfl (hb hby at_282) rfl k) ?_
      obtain ⟨_, _, ⟨T47, L47, k47, n47⟩, -, X47, ⟨Lc47, hQ47, l47, y47, z47⟩, st47⟩ := X46.specialBack hx (y := (⟨"com/example/saldera/saldera/coupon/Cashier", "<init>", "(Ljava/lang/String;Ljava/lang/String;Z)V"⟩ : MethodName)) rfl hown (mvT hZ (hw _ (List.mem_of_getElem? (i := 36) rfl))) (mvT hZ (hw _ (List.mem_of_getElem? (i := 37) rfl))) (mvT hZ (hw _ (List.mem_of_getElem? (i := 38) rfl))) (by decide) (backOf (W := 1) (own_rmCN l Z a0 hw [] b45 aU  d3 h46 n0 (Nat.le_trans Z0 KP.1) OL E_b45 ge_b45 F_username_b45 F_branch_b45 F_crossBranch_b45) hZ (hw _ (List.mem_of_getElem? (i := 38) rfl)) (hw _ (List.mem_of_getElem? (i := 32) rfl)) (by decide) (by decide)) (g := (mkF m 283 #[iv p0, iv p1, iv p2, iv d3, iv 0, iv 1, iv b0, iv b1, iv b2, iv b3, iv c0, iv c1, iv c2, iv c3, .val .null, rv b38, .unset, .unset, .unset] [(.int d3), .null, (.ref aU), (.ref b45), (.ref b45)])) rfl (by rw [hml]; rfl) (Steps.refl _) (a := b45) (argsL := [(.ref aU), .null, (.int d3)]) (rest := [(.ref b45)]) (lenOf own_pd3 rfl) rfl (by show 2 * 0 + _ ≤ _; exact Nat.le_of_eq rfl) (hb hby at_283) (fun _ _ => ⟨rfl, e46, (by decide : 6 + 0 ≤ _), (by decide : 21 + 0 ≤ _)⟩)
      dsimp only [Pt.U, Pt.locs, Pt.cells, Pt.slots] at X47 l47 y47 z47 st47 hQ47
      subst l47 y47 z47
      obtain ⟨rfl, N47q, K47, Ea47, Fb47, Fx47⟩ := hQ47
      have N47 := Fr.app N44 N47q
      have OL := OL.keep K47 (allS ge_b45 all0)
      have KP := KP.trans K47 (allS (Or.inr sz_b45) all0)
      have hk1 := Nat.le_trans hk1 K47.1
      have V_b39 := V_b39.keep K47 (ninS ne_b39_b45 nin0)
      have S_co := S_co.keep K47 (ninS ne_b38_b45 nin0) (ninS ne_t_co_b45 nin0)
      have E_b45 := E_b45.keep K47
      refine own_via (mkF m 286 #[iv p0, iv p1, iv p2, iv d3, iv 0, iv 1, iv b0, iv b1, iv b2, iv b3, iv c0, iv c1, iv c2, iv c3, .val .null, rv b38, .unset, .unset, .unset] [(.ref b45)]) st47 ?_
      have EC : Exa Z T47.heap b45 "com/example/saldera/saldera/coupon/Cashier" := Ea47
      have FB : Fld Z T47.heap b45 "com/example/saldera/saldera/coupon/Cashier" "branch" "Ljava/lang/String;" .null := Fb47
      have FX : Fld Z T47.heap b45 "com/example/saldera/saldera/coupon/Cashier" "crossBranch" "Z" (.int (nar .boolean d3)) := Fx47
      refine own_to (T' := T47) (mkF m 288 #[iv p0, iv p1, iv p2, iv d3, iv 0, iv 1, iv b0, iv b1, iv b2, iv b3, iv c0, iv c1, iv c2, iv c3, .val .null, rv b38, rv b45, .unset, .unset] []) (fun _ k => XS.astore X47.here hx rfl (hb hby at_286) rfl rfl (l' := #[iv p0, iv p1, iv p2, iv d3, iv 0, iv 1, iv b0, iv b1, iv b2, iv b3, iv c0, iv c1, iv c2, iv c3, .val .null, rv b38, rv b45, .unset, .unset]) rfl k) ?_
      refine own_to (T' := T47) (mkF m 290 #[iv p0, iv p1, iv p2, iv d3, iv 0, iv 1, iv b0, iv b1, iv b2, iv b3, iv c0, iv c1, iv c2, iv c3, .val .null, rv b38, rv b45, .unset, .unset] [(.int (0 : Int32))]) (fun _ k => XS.iload X47.here hx rfl (hb hby at_288) rfl k) ?_
      refine own_to (T' := T47) (mkF m 330 #[iv p0, iv p1, iv p2, iv d3, iv 0, iv 1, iv b0, iv b1, iv b2, iv b3, iv c0, iv c1, iv c2, iv c3, .val .null, rv b38, rv b45, .unset, .unset] []) (fun _ k => XS.ifYes X47.here hx rfl (pc0 := 290) (pc' := 330) rfl (hb hby at_290) rfl ((if0 _ _).trans (teq (by decide : (0 : Int32) = (0 : Int32))).1) (by decide) (by decide) k) ?_
      refine own_to (T' := T47) (mkF m 331 #[iv p0, iv p1, iv p2, iv d3, iv 0, iv 1, iv b0, iv b1, iv b2, iv b3, iv c0, iv c1, iv c2, iv c3, .val .null, rv b38, rv b45, .unset, .unset] [(.int (0 : Int32))]) (fun _ k => XS.iconst X47.here hx rfl (hb hby at_330) k) ?_
      refine own_to (T' := T47) (mkF m 333 #[iv p0, iv p1, iv p2, iv d3, iv 0, iv 1, iv b0, iv b1, iv b2, iv b3, iv c0, iv c1, iv c2, iv c3, .val .null, rv b38, rv b45, iv 0, .unset] []) (fun _ k => XS.istore X47.here hx rfl (hb hby at_331) rfl (l' := #[iv p0, iv p1, iv p2, iv d3, iv 0, iv 1, iv b0, iv b1, iv b2, iv b3, iv c0, iv c1, iv c2, iv c3, .val .null, rv b38, rv b45, iv 0, .unset]) rfl k) ?_
      rcases own_01 hd3t hd3f with q | q
      · subst q
        refine own_to (T' := T47) (mkF m 334 #[iv p0, iv p1, iv p2, iv 0, iv 0, iv 1, iv b0, iv b1, iv b2, iv b3, iv c0, iv c1, iv c2, iv c3, .val .null, rv b38, rv b45, iv 0, .unset] [(.int (0 : Int32))]) (fun _ k => XS.iloadN X47.here hx rfl (hb hby at_333) rfl k) ?_
        refine own_to (T' := T47) (mkF m 337 #[iv p0, iv p1, iv p2, iv 0, iv 0, iv 1, iv b0, iv b1, iv b2, iv b3, iv c0, iv c1, iv c2, iv c3, .val .null, rv b38, rv b45, iv 0, .unset] []) (fun _ k => XS.ifNo X47.here hx rfl (hb hby at_334) rfl ((if0 _ _).trans (teq (by decide : (0 : Int32) = (0 : Int32))).2) k) ?_
        refine own_to (T' := T47) (mkF m 339 #[iv p0, iv p1, iv p2, iv 0, iv 0, iv 1, iv b0, iv b1, iv b2, iv b3, iv c0, iv c1, iv c2, iv c3, .val .null, rv b38, rv b45, iv 0, .unset] [(.int (0 : Int32))]) (fun _ k => XS.iload X47.here hx rfl (hb hby at_337) rfl k) ?_
        refine own_to (T' := T47) (mkF m 346 #[iv p0, iv p1, iv p2, iv 0, iv 0, iv 1, iv b0, iv b1, iv b2, iv b3, iv c0, iv c1, iv c2, iv c3, .val .null, rv b38, rv b45, iv 0, .unset] []) (fun _ k => XS.ifYes X47.here hx rfl (pc0 := 339) (pc' := 346) rfl (hb hby at_339) rfl ((if0 _ _).trans (teq (by decide : (0 : Int32) = (0 : Int32))).1) (by decide) (by decide) k) ?_
        refine own_to (T' := T47) (mkF m 347 #[iv p0, iv p1, iv p2, iv 0, iv 0, iv 1, iv b0, iv b1, iv b2, iv b3, iv c0, iv c1, iv c2, iv c3, .val .null, rv b38, rv b45, iv 0, .unset] [(.int (0 : Int32))]) (fun _ k => XS.iconst X47.here hx rfl (hb hby at_346) k) ?_
        refine own_to (T' := T47) (mkF m 349 #[iv p0, iv p1, iv p2, iv 0, iv 0, iv 1, iv b0, iv b1, iv b2, iv b3, iv c0, iv c1, iv c2, iv c3, .val .null, rv b38, rv b45, iv 0, iv 0] []) (fun _ k => XS.istore X47.here hx rfl (hb hby at_347) rfl (l' := #[iv p0, iv p1, iv p2, iv 0, iv 0, iv 1, iv b0, iv b1, iv b2, iv b3, iv c0, iv c1, iv c2, iv c3, .val .null, rv b38, rv b45, iv 0, iv 0]) rfl k) ?_
        refine own_to (T' := T47) (mkF m 351 #[iv p0, iv p1, iv p2, iv 0, iv 0, iv 1, iv b0, iv b1, iv b2, iv b3, iv c0, iv c1, iv c2, iv c3, .val .null, rv b38, rv b45, iv 0, iv 0] [(.ref b45)]) (fun _ k => XS.aload X47.here hx rfl (hb hby at_349) rfl rfl k) ?_
        refine own_to (T' := T47) (mkF m 353 #[iv p0, iv p1, iv p2, iv 0, iv 0, iv 1, iv b0, iv b1, iv b2, iv b3, iv c0, iv c1, iv c2, iv c3, .val .null, rv b38, rv b45, iv 0, iv 0] [(.ref b38), (.ref b45)]) (fun _ k => XS.aload X47.here hx rfl (hb hby at_351) rfl rfl k) ?_
        obtain ⟨cq48, kq48, q48a, q48b, q48c⟩ := isOf hZ rfl EC
        obtain ⟨_, _, ⟨T48, L48, k48, n48⟩, -, X48, ⟨Lc48, hQ48, l48, y48, z48⟩, st48⟩ := X47.virtualBack hx (y := (⟨"com/example/saldera/saldera/coupon/Cashier", "mayCollect", "(Ljava/lang/String;)Z"⟩ : MethodName)) (z := (⟨"com/example/saldera/saldera/coupon/Cashier", "mayCollect", "(Ljava/lang/String;)Z"⟩ : MethodName)) hown (mvT hZ (hw _ (List.mem_of_getElem? (i := 46) rfl))) (mvT hZ (hw _ (List.mem_of_getElem? (i := 47) rfl))) (notFace_of_selects (args := #[]) (mvT hZ (hw _ (List.mem_of_getElem? (i := 49) rfl)))) (mvT hZ (hw _ (List.mem_of_getElem? (i := 49) rfl))) (mvT hZ (hw _ (List.mem_of_getElem? (i := 48) rfl))) (by decide) (backOf (W := 0) (own_rmMN l Z a0 hw [] b45 b38 T47.heap n0 (Nat.le_trans Z0 KP.1) OL FX FB EC S_co.1) hZ (hw _ (List.mem_of_getElem? (i := 50) rfl)) (hw _ (List.mem_of_getElem? (i := 32) rfl)) (by decide) (by decide)) q48a q48c (g := (mkF m 353 #[iv p0, iv p1, iv p2, iv 0, iv 0, iv 1, iv b0, iv b1, iv b2, iv b3, iv c0, iv c1, iv c2, iv c3, .val .null, rv b38, rv b45, iv 0, iv 0] [(.ref b38), (.ref b45)])) rfl (by rw [hml]; rfl) (Steps.refl _) (argsL := [(.ref b38)]) (rest := []) (lenOf own_pd1 rfl) rfl (by show 2 * 0 + _ ≤ _; exact Nat.le_of_eq rfl) (hb hby at_353) (fun _ _ => ⟨rfl, rfl, (by decide : 6 + 0 ≤ _), (by decide : 21 + 0 ≤ _)⟩)
        dsimp only [Pt.U, Pt.locs, Pt.cells, Pt.slots] at X48 l48 y48 z48 st48 hQ48
        subst l48 y48 z48
        obtain ⟨rfl, N48q, e48⟩ := hQ48
        have N48 := Fr.app N47 N48q
        refine own_via (mkF m 356 #[iv p0, iv p1, iv p2, iv 0, iv 0, iv 1, iv b0, iv b1, iv b2, iv b3, iv c0, iv c1, iv c2, iv c3, .val .null, rv b38, rv b45, iv 0, iv 0] [(.int (0 : Int32))]) st48 ?_
        refine own_to (T' := T48) (mkF m 358 #[iv p0, iv p1, iv p2, iv 0, iv 0, iv 1, iv b0, iv b1, iv b2, iv b3, iv c0, iv c1, iv c2, iv c3, .val .null, rv b38, rv b45, iv 0, iv 0] [(.int (0 : Int32)), (.int (0 : Int32))]) (fun _ k => XS.iload X48.here hx rfl (hb hby at_356) rfl k) ?_
        refine own_to (T' := T48) (mkF m 361 #[iv p0, iv p1, iv p2, iv 0, iv 0, iv 1, iv b0, iv b1, iv b2, iv b3, iv c0, iv c1, iv c2, iv c3, .val .null, rv b38, rv b45, iv 0, iv 0] []) (fun _ k => XS.icmpNo X48.here hx rfl (hb hby at_358) rfl (teq (by decide : (0 : Int32) = (0 : Int32))).2 k) ?_
        refine own_to (T' := T48) (mkF m 362 #[iv p0, iv p1, iv p2, iv 0, iv 0, iv 1, iv b0, iv b1, iv b2, iv b3, iv c0, iv c1, iv c2, iv c3, .val .null, rv b38, rv b45, iv 0, iv 0] [(.int (1 : Int32))]) (fun _ k => XS.iconst X48.here hx rfl (hb hby at_361) k) ?_
        refine own_to (T' := T48) (mkF m 366 #[iv p0, iv p1, iv p2, iv 0, iv 0, iv 1, iv b0, iv b1, iv b2, iv b3, iv c0, iv c1, iv c2, iv c3, .val .null, rv b38, rv b45, iv 0, iv 0] [(.int (1 : Int32))]) (fun _ k => XS.goto X48.here hx rfl (pc0 := 362) (pc' := 366) rfl (hb hby at_362) (by decide) (by decide) k) ?_
        exact own_retNW (s := s) (vm₁ := T46.vm) X48 hS (by rw [e48]; exact hk1) hx (t := .boolean) Bd.returns (by simp) hlk (hb hby at_366) (by decide) (by decide) (by rw [e48]; exact ⟨rfl, N48⟩)
      · subst q
        refine own_to (T' := T47) (mkF m 334 #[iv p0, iv p1, iv p2, iv 1, iv 0, iv 1, iv b0, iv b1, iv b2, iv b3, iv c0, iv c1, iv c2, iv c3, .val .null, rv b38, rv b45, iv 0, .unset] [(.int (1 : Int32))]) (fun _ k => XS.iloadN X47.here hx rfl (hb hby at_333) rfl k) ?_
        refine own_to (T' := T47) (mkF m 342 #[iv p0, iv p1, iv p2, iv 1, iv 0, iv 1, iv b0, iv b1, iv b2, iv b3, iv c0, iv c1, iv c2, iv c3, .val .null, rv b38, rv b45, iv 0, .unset] []) (fun _ k => XS.ifYes X47.here hx rfl (pc0 := 334) (pc' := 342) rfl (hb hby at_334) rfl ((if0 _ _).trans (feq (by decide : ¬ ((1 : Int32) = (0 : Int32)))).2) (by decide) (by decide) k) ?_
        refine own_to (T' := T47) (mkF m 343 #[iv p0, iv p1, iv p2, iv 1, iv 0, iv 1, iv b0, iv b1, iv b2, iv b3, iv c0, iv c1, iv c2, iv c3, .val .null, rv b38, rv b45, iv 0, .unset] [(.int (1 : Int32))]) (fun _ k => XS.iconst X47.here hx rfl (hb hby at_342) k) ?_
        refine own_to (T' := T47) (mkF m 347 #[iv p0, iv p1, iv p2, iv 1, iv 0, iv 1, iv b0, iv b1, iv b2, iv b3, iv c0, iv c1, iv c2, iv c3, .val .null, rv b38, rv b45, iv 0, .unset] [(.int (1 : Int32))]) (fun _ k => XS.goto X47.here hx rfl (pc0 := 343) (pc' := 347) rfl (hb hby at_343) (by decide) (by decide) k) ?_
        refine own_to (T' := T47) (mkF m 349 #[iv p0, iv p1, iv p2, iv 1, iv 0, iv 1, iv b0, iv b1, iv b2, iv b3, iv c0, iv c1, iv c2, iv c3, .val .null, rv b38, rv b45, iv 0, iv 1] []) (fun _ k => XS.istore X47.here hx rfl (hb hby at_347) rfl (l' := #[iv p0, iv p1, iv p2, iv 1, iv 0, iv 1, iv b0, iv b1, iv b2, iv b3, iv c0, iv c1, iv c2, iv c3, .val .null, rv b38, rv b45, iv 0, iv 1]) rfl k) ?_
        refine own_to (T' := T47) (mkF m 351 #[iv p0, iv p1, iv p2, iv 1, iv 0, iv 1, iv b0, iv b1, iv b2, iv b3, iv c0, iv c1, iv c2, iv c3, .val .null, rv b38, rv b45, iv 0, iv 1] [(.ref b45)]) (fun _ k => XS.aload X47.here hx rfl (hb hby at_349) rfl rfl k) ?_
        refine own_to (T' := T47) (mkF m 353 #[iv p0, iv p1, iv p2, iv 1, iv 0, iv 1, iv b0, iv b1, iv b2, iv b3, iv c0, iv c1, iv c2, iv c3, .val .null, rv b38, rv b45, iv 0, iv 1] [(.ref b38), (.ref b45)]) (fun _ k => XS.aload X47.here hx rfl (hb hby at_351) rfl rfl k) ?_
        obtain ⟨cq49, kq49, q49a, q49b, q49c⟩ := isOf hZ rfl EC
        obtain ⟨_, _, ⟨T49, L49, k49, n49⟩, -, X49, ⟨Lc49, hQ49, l49, y49, z49⟩, st49⟩ := X47.virtualBack hx (y := (⟨"com/example/saldera/saldera/coupon/Cashier", "mayCollect", "(Ljava/lang/String;)Z"⟩ : MethodName)) (z := (⟨"com/example/saldera/saldera/coupon/Cashier", "mayCollect", "(Ljava/lang/String;)Z"⟩ : MethodName)) hown (mvT hZ (hw _ (List.mem_of_getElem? (i := 46) rfl))) (mvT hZ (hw _ (List.mem_of_getElem? (i := 47) rfl))) (notFace_of_selects (args := #[]) (mvT hZ (hw _ (List.mem_of_getElem? (i := 49) rfl)))) (mvT hZ (hw _ (List.mem_of_getElem? (i := 49) rfl))) (mvT hZ (hw _ (List.mem_of_getElem? (i := 48) rfl))) (by decide) (backOf (W := 0) (own_rmMX l Z a0 hw [] b45 b38 T47.heap n0 (Nat.le_trans Z0 KP.1) OL FX) hZ (hw _ (List.mem_of_getElem? (i := 50) rfl)) (hw _ (List.mem_of_getElem? (i := 32) rfl)) (by decide) (by decide)) q49a q49c (g := (mkF m 353 #[iv p0, iv p1, iv p2, iv 1, iv 0, iv 1, iv b0, iv b1, iv b2, iv b3, iv c0, iv c1, iv c2, iv c3, .val .null, rv b38, rv b45, iv 0, iv 1] [(.ref b38), (.ref b45)])) rfl (by rw [hml]; rfl) (Steps.refl _) (argsL := [(.ref b38)]) (rest := []) (lenOf own_pd1 rfl) rfl (by show 2 * 0 + _ ≤ _; exact Nat.le_of_eq rfl) (hb hby at_353) (fun _ _ => ⟨rfl, rfl, (by decide : 6 + 0 ≤ _), (by decide : 21 + 0 ≤ _)⟩)
        dsimp only [Pt.U, Pt.locs, Pt.cells, Pt.slots] at X49 l49 y49 z49 st49 hQ49
        subst l49 y49 z49
        obtain ⟨rfl, N49q, e49⟩ := hQ49
        have N49 := Fr.app N47 N49q
        refine own_via (mkF m 356 #[iv p0, iv p1, iv p2, iv 1, iv 0, iv 1, iv b0, iv b1, iv b2, iv b3, iv c0, iv c1, iv c2, iv c3, .val .null, rv b38, rv b45, iv 0, iv 1] [(.int (1 : Int32))]) st49 ?_
        refine own_to (T' := T49) (mkF m 358 #[iv p0, iv p1, iv p2, iv 1, iv 0, iv 1, iv b0, iv b1, iv b2, iv b3, iv c0, iv c1, iv c2, iv c3, .val .null, rv b38, rv b45, iv 0, iv 1] [(.int (1 : Int32)), (.int (1 : Int32))]) (fun _ k => XS.iload X49.here hx rfl (hb hby at_356) rfl k) ?_
        refine own_to (T' := T49) (mkF m 361 #[iv p0, iv p1, iv p2, iv 1, iv 0, iv 1, iv b0, iv b1, iv b2, iv b3, iv c0, iv c1, iv c2, iv c3, .val .null, rv b38, rv b45, iv 0, iv 1] []) (fun _ k => XS.icmpNo X49.here hx rfl (hb hby at_358) rfl (teq (by decide : (1 : Int32) = (1 : Int32))).2 k) ?_
        refine own_to (T' := T49) (mkF m 362 #[iv p0, iv p1, iv p2, iv 1, iv 0, iv 1, iv b0, iv b1, iv b2, iv b3, iv c0, iv c1, iv c2, iv c3, .val .null, rv b38, rv b45, iv 0, iv 1] [(.int (1 : Int32))]) (fun _ k => XS.iconst X49.here hx rfl (hb hby at_361) k) ?_
        refine own_to (T' := T49) (mkF m 366 #[iv p0, iv p1, iv p2, iv 1, iv 0, iv 1, iv b0, iv b1, iv b2, iv b3, iv c0, iv c1, iv c2, iv c3, .val .null, rv b38, rv b45, iv 0, iv 1] [(.int (1 : Int32))]) (fun _ k => XS.goto X49.here hx rfl (pc0 := 362) (pc' := 366) rfl (hb hby at_362) (by decide) (by decide) k) ?_
        exact own_retNW (s := s) (vm₁ := T46.vm) X49 hS (by rw [e49]; exact hk1) hx (t := .boolean) Bd.returns (by simp) hlk (hb hby at_366) (by decide) (by decide) (by rw [e49]; exact ⟨rfl, N49⟩)
  · subst q
    refine own_to (T' := s₁) (mkF m 170 #[iv p0, iv p1, iv p2, iv d3, iv 1, iv d5, iv b0, iv b1, iv b2, iv b3, iv c0, iv c1, iv c2, iv c3, .unset, .unset, .unset, .unset, .unset] [(.int (1 : Int32))]) (fun _ k => XS.iload X0.here hx rfl (hb hby at_168) rfl k) ?_
    refine own_to (T' := s₁) (mkF m 173 #[iv p0, iv p1, iv p2, iv d3, iv 1, iv d5, iv b0, iv b1, iv b2, iv b3, iv c0, iv c1, iv c2, iv c3, .unset, .unset, .unset, .unset, .unset] []) (fun _ k => XS.ifNo X0.here hx rfl (hb hby at_170) rfl ((if0 _ _).trans (feq (by decide : ¬ ((1 : Int32) = (0 : Int32)))).1) k) ?_
    obtain ⟨T50, h50, X50, e50, E50, A50, D50, -, st50⟩ := newO X0 hx hZ hown (hw _ (List.mem_of_getElem? (i := 0) rfl)) (hw _ (List.mem_of_getElem? (i := 1) rfl)) (hw _ (List.mem_of_getElem? (i := 2) rfl)) e0 (g := (mkF m 173 #[iv p0, iv p1, iv p2, iv d3, iv 1, iv d5, iv b0, iv b1, iv b2, iv b3, iv c0, iv c1, iv c2, iv c3, .unset, .unset, .unset, .unset, .unset] [])) rfl (hb hby at_173) (by decide) (by decide)
    obtain ⟨b50, g50⟩ : ∃ z, z = h0.size := ⟨_, rfl⟩
    rw [← g50] at A50 D50 st50
    have sz_b50 : h0.size ≤ b50 := Nat.le_trans KP.1 (Nat.le_of_eq g50.symm)
    have ge_b50 : n0 ≤ b50 := Nat.le_trans Z0 sz_b50
    have OL := OL.ext E50
    have KP := KP.ext E50
    have hk1 := Nat.le_trans hk1 E50.1
    have E_b50 : Exa Z h50 b50 "java/lang/String" := A50
    have F_coder_b50 : Fld Z h50 b50 "java/lang/String" "coder" "B" (.int (0 : Int32)) := D50 (Or.inr (hw _ (List.mem_of_getElem? (i := 27) rfl))) (ty := .byte) (by decide)
    have F_value_b50 : Fld Z h50 b50 "java/lang/String" "value" "[B" .null := D50 (Or.inr (hw _ (List.mem_of_getElem? (i := 29) rfl))) (ty := (.array .byte)) (by decide)
    refine own_to (mkF m 176 #[iv p0, iv p1, iv p2, iv d3, iv 1, iv d5, iv b0, iv b1, iv b2, iv b3, iv c0, iv c1, iv c2, iv c3, .unset, .unset, .unset, .unset, .unset] [(.ref b50)]) st50 ?_
    refine own_to (T' := T50) (mkF m 177 #[iv p0, iv p1, iv p2, iv d3, iv 1, iv d5, iv b0, iv b1, iv b2, iv b3, iv c0, iv c1, iv c2, iv c3, .unset, .unset, .unset, .unset, .unset] [(.ref b50), (.ref b50)]) (fun _ k => XS.dup X50.here hx rfl (hb hby at_176) rfl rfl k) ?_
    refine own_to (T' := T50) (mkF m 178 #[iv p0, iv p1, iv p2, iv d3, iv 1, iv d5, iv b0, iv b1, iv b2, iv b3, iv c0, iv c1, iv c2, iv c3, .unset, .unset, .unset, .unset, .unset] [(.int (4 : Int32)), (.ref b50), (.ref b50)]) (fun _ k => XS.iconst X50.here hx rfl (hb hby at_177) k) ?_
    obtain ⟨T51, h51, k51, X51, e51, E51, A51, B51, st51⟩ := newPE X50 hx hZ (hw _ (List.mem_of_getElem? (i := 3) rfl)) e50 (g := (mkF m 178 #[iv p0, iv p1, iv p2, iv d3, iv 1, iv d5, iv b0, iv b1, iv b2, iv b3, iv c0, iv c1, iv c2, iv c3, .unset, .unset, .unset, .unset, .unset] [(.int (4 : Int32)), (.ref b50), (.ref b50)])) rfl (hb hby at_178) rfl (by decide) (cap := 4) (by decide) (by decide) (by decide) (by decide) (ad := "[C") (by decide)
    obtain ⟨b51, g51⟩ : ∃ z, z = h50.size := ⟨_, rfl⟩
    rw [← g51] at A51 B51 st51
    have sz_b51 : h0.size ≤ b51 := Nat.le_trans KP.1 (Nat.le_of_eq g51.symm)
    have ge_b51 : n0 ≤ b51 := Nat.le_trans Z0 sz_b51
    have ne_b50_b51 : b50 ≠ b51 := Nat.ne_of_lt (Nat.lt_of_lt_of_le E_b50.lt (Nat.le_of_eq g51.symm))
    have OL := OL.ext E51
    have KP := KP.ext E51
    have hk1 := Nat.le_trans hk1 E51.1
    have E_b50 := E_b50.ext E51
    have F_coder_b50 := F_coder_b50.ext E51
    have F_value_b50 := F_value_b50.ext E51
    have V_b51 : Arv Z h51 b51 k51 .char (4 : Int32) [(.int (0 : Int32)), (.int (0 : Int32)), (.int (0 : Int32)), (.int (0 : Int32))] (.int (0 : Int32)) := (Arv.new A51 (by decide)).pad (pad_rep [] (.int (0 : Int32)) 4)
    refine own_to (mkF m 180 #[iv p0, iv p1, iv p2, iv d3, iv 1, iv d5, iv b0, iv b1, iv b2, iv b3, iv c0, iv c1, iv c2, iv c3, .unset, .unset, .unset, .unset, .unset] [(.ref b51), (.ref b50), (.ref b50)]) st51 ?_
    refine own_to (T' := T51) (mkF m 181 #[iv p0, iv p1, iv p2, iv d3, iv 1, iv d5, iv b0, iv b1, iv b2, iv b3, iv c0, iv c1, iv c2, iv c3, .unset, .unset, .unset, .unset, .unset] [(.ref b51), (.ref b51), (.ref b50), (.ref b50)]) (fun _ k => XS.dup X51.here hx rfl (hb hby at_180) rfl rfl k) ?_
    refine own_to (T' := T51) (mkF m 182 #[iv p0, iv p1, iv p2, iv d3, iv 1, iv d5, iv b0, iv b1, iv b2, iv b3, iv c0, iv c1, iv c2, iv c3, .unset, .unset, .unset, .unset, .unset] [(.int (0 : Int32)), (.ref b51), (.ref b51), (.ref b50), (.ref b50)]) (fun _ k => XS.iconst X51.here hx rfl (hb hby at_181) k) ?_
    refine own_to (T' := T51) (mkF m 184 #[iv p0, iv p1, iv p2, iv d3, iv 1, iv d5, iv b0, iv b1, iv b2, iv b3, iv c0, iv c1, iv c2, iv c3, .unset, .unset, .unset, .unset, .unset] [(.int b0), (.int (0 : Int32)), (.ref b51), (.ref b51), (.ref b50), (.ref b50)]) (fun _ k => XS.iload X51.here hx rfl (hb hby at_182) rfl k) ?_
    obtain ⟨cl52, Ar52, q52, S52, M52, H52, G52⟩ := id V_b51
    obtain ⟨T52, h52, X52, e52, W52, st52⟩ := stC X51 hx hZ e51 Ar52 (j := (0 : Int32)) (inb_of S52 ⟨by decide, by decide⟩) (g := (mkF m 184 #[iv p0, iv p1, iv p2, iv d3, iv 1, iv d5, iv b0, iv b1, iv b2, iv b3, iv c0, iv c1, iv c2, iv c3, .unset, .unset, .unset, .unset, .unset] [(.int b0), (.int (0 : Int32)), (.ref b51), (.ref b51), (.ref b50), (.ref b50)])) rfl rfl (hb hby at_184)
    refine own_to (mkF m 185 #[iv p0, iv p1, iv p2, iv d3, iv 1, iv d5, iv b0, iv b1, iv b2, iv b3, iv c0, iv c1, iv c2, iv c3, .unset, .unset, .unset, .unset, .unset] [(.ref b51), (.ref b50), (.ref b50)]) st52 ?_
    have N52 := Fr.snoc X52 N0 ge_b51
    have tmp52 : Arv Z h52 b51 k51 .char (4 : Int32) [(.int (nar .char b0)), (.int (0 : Int32)), (.int (0 : Int32)), (.int (0 : Int32))] (.int (0 : Int32)) := Arv.set Ar52 q52 S52 M52 H52 G52 (fits_nar_char _) W52 0 rfl (Nat.le_of_ble_eq_true rfl)
    rw [own_nar8 c8_b0] at tmp52
    have OL := OL.wr W52 ge_b51
    have KP := KP.wr W52 (Or.inr sz_b51)
    have hk1 := Nat.le_trans hk1 (Keep.of_wr W52).1
    have E_b50 := E_b50.wr W52
    have F_coder_b50 := F_coder_b50.other W52 (Or.inl ne_b50_b51)
    have F_value_b50 := F_value_b50.other W52 (Or.inl ne_b50_b51)
    have V_b51 := tmp52
    refine own_to (T' := T52) (mkF m 186 #[iv p0, iv p1, iv p2, iv d3, iv 1, iv d5, iv b0, iv b1, iv b2, iv b3, iv c0, iv c1, iv c2, iv c3, .unset, .unset, .unset, .unset, .unset] [(.ref b51), (.ref b51), (.ref b50), (.ref b50)]) (fun _ k => XS.dup X52.here hx rfl (hb hby at_185) rfl rfl k) ?_
    refine own_to (T' := T52) (mkF m 187 #[iv p0, iv p1, iv p2, iv d3, iv 1, iv d5, iv b0, iv b1, iv b2, iv b3, iv c0, iv c1, iv c2, iv c3, .unset, .unset, .unset, .unset, .unset] [(.int (1 : Int32)), (.ref b51), (.ref b51), (.ref b50), (.ref b50)]) (fun _ k => XS.iconst X52.here hx rfl (hb hby at_186) k) ?_
    refine own_to (T' := T52) (mkF m 189 #[iv p0, iv p1, iv p2, iv d3, iv 1, iv d5, iv b0, iv b1, iv b2, iv b3, iv c0, iv c1, iv c2, iv c3, .unset, .unset, .unset, .unset, .unset] [(.int b1), (.int (1 : Int32)), (.ref b51), (.ref b51), (.ref b50), (.ref b50)]) (fun _ k => XS.iload X52.here hx rfl (hb hby at_187) rfl k) ?_
    obtain ⟨cl53, Ar53, q53, S53, M53, H53, G53⟩ := id V_b51
    obtain ⟨T53, h53, X53, e53, W53, st53⟩ := stC X52 hx hZ e52 Ar53 (j := (1 : Int32)) (inb_of S53 ⟨by decide, by decide⟩) (g := (mkF m 189 #[iv p0, iv p1, iv p2, iv d3, iv 1, iv d5, iv b0, iv b1, iv b2, iv b3, iv c0, iv c1, iv c2, iv c3, .unset, .unset, .unset, .unset, .unset] [(.int b1), (.int (1 : Int32)), (.ref b51), (.ref b51), (.ref b50), (.ref b50)])) rfl rfl (hb hby at_189)
    refine own_to (mkF m 190 #[iv p0, iv p1, iv p2, iv d3, iv 1, iv d5, iv b0, iv b1, iv b2, iv b3, iv c0, iv c1, iv c2, iv c3, .unset, .unset, .unset, .unset, .unset] [(.ref b51), (.ref b50), (.ref b50)]) st53 ?_
    have N53 := Fr.snoc X53 N52 ge_b51
    have tmp53 : Arv Z h53 b51 k51 .char (4 : Int32) [(.int b0), (.int (nar .char b1)), (.int (0 : Int32)), (.int (0 : Int32))] (.int (0 : Int32)) := Arv.set Ar53 q53 S53 M53 H53 G53 (fits_nar_char _) W53 1 rfl (Nat.le_of_ble_eq_true rfl)
    rw [own_nar8 c8_b1] at tmp53
    have OL := OL.wr W53 ge_b51
    have KP := KP.wr W53 (Or.inr sz_b51)
    have hk1 := Nat.le_trans hk1 (Keep.of_wr W53).1
    have E_b50 := E_b50.wr W53
    have F_coder_b50 := F_coder_b50.other W53 (Or.inl ne_b50_b51)
    have F_value_b50 := F_value_b50.other W53 (Or.inl ne_b50_b51)
    have V_b51 := tmp53
    refine own_to (T' := T53) (mkF m 191 #[iv p0, iv p1, iv p2, iv d3, iv 1, iv d5, iv b0, iv b1, iv b2, iv b3, iv c0, iv c1, iv c2, iv c3, .unset, .unset, .unset, .unset, .unset] [(.ref b51), (.ref b51), (.ref b50), (.ref b50)]) (fun _ k => XS.dup X53.here hx rfl (hb hby at_190) rfl rfl k) ?_
    refine own_to (T' := T53) (mkF m 192 #[iv p0, iv p1, iv p2, iv d3, iv 1, iv d5, iv b0, iv b1, iv b2, iv b3, iv c0, iv c1, iv c2, iv c3, .unset, .unset, .unset, .unset, .unset] [(.int (2 : Int32)), (.ref b51), (.ref b51), (.ref b50), (.ref b50)]) (fun _ k => XS.iconst X53.here hx rfl (hb hby at_191) k) ?_
    refine own_to (T' := T53) (mkF m 194 #[iv p0, iv p1, iv p2, iv d3, iv 1, iv d5, iv b0, iv b1, iv b2, iv b3, iv c0, iv c1, iv c2, iv c3, .unset, .unset, .unset, .unset, .unset] [(.int b2), (.int (2 : Int32)), (.ref b51), (.ref b51), (.ref b50), (.ref b50)]) (fun _ k => XS.iload X53.here hx rfl (hb hby at_192) rfl k) ?_
    obtain ⟨cl54, Ar54, q54, S54, M54, H54, G54⟩ := id V_b51
    obtain ⟨T54, h54, X54, e54, W54, st54⟩ := stC X53 hx hZ e53 Ar54 (j := (2 : Int32)) (inb_of S54 ⟨by decide, by decide⟩) (g := (mkF m 194 #[iv p0, iv p1, iv p2, iv d3, iv 1, iv d5, iv b0, iv b1, iv b2, iv b3, iv c0, iv c1, iv c2, iv c3, .unset, .unset, .unset, .unset, .unset] [(.int b2), (.int (2 : Int32)), (.ref b51), (.ref b51), (.ref b50), (.ref b50)])) rfl rfl (hb hby at_194)
    refine own_to (mkF m 195 #[iv p0, iv p1, iv p2, iv d3, iv 1, iv d5, iv b0, iv b1, iv b2, iv b3, iv c0, iv c1, iv c2, iv c3, .unset, .unset, .unset, .unset, .unset] [(.ref b51), (.ref b50), (.ref b50)]) st54 ?_
    have N54 := Fr.snoc X54 N53 ge_b51
    have tmp54 : Arv Z h54 b51 k51 .char (4 : Int32) [(.int b0), (.int b1), (.int (nar .char b2)), (.int (0 : Int32))] (.int (0 : Int32)) := Arv.set Ar54 q54 S54 M54 H54 G54 (fits_nar_char _) W54 2 rfl (Nat.le_of_ble_eq_true rfl)
    rw [own_nar8 c8_b2] at tmp54
    have OL := OL.wr W54 ge_b51
    have KP := KP.wr W54 (Or.inr sz_b51)
    have hk1 := Nat.le_trans hk1 (Keep.of_wr W54).1
    have E_b50 := E_b50.wr W54
    have F_coder_b50 := F_coder_b50.other W54 (Or.inl ne_b50_b51)
    have F_value_b50 := F_value_b50.other W54 (Or.inl ne_b50_b51)
    have V_b51 := tmp54
    refine own_to (T' := T54) (mkF m 196 #[iv p0, iv p1, iv p2, iv d3, iv 1, iv d5, iv b0, iv b1, iv b2, iv b3, iv c0, iv c1, iv c2, iv c3, .unset, .unset, .unset, .unset, .unset] [(.ref b51), (.ref b51), (.ref b50), (.ref b50)]) (fun _ k => XS.dup X54.here hx rfl (hb hby at_195) rfl rfl k) ?_
    refine own_to (T' := T54) (mkF m 197 #[iv p0, iv p1, iv p2, iv d3, iv 1, iv d5, iv b0, iv b1, iv b2, iv b3, iv c0, iv c1, iv c2, iv c3, .unset, .unset, .unset, .unset, .unset] [(.int (3 : Int32)), (.ref b51), (.ref b51), (.ref b50), (.ref b50)]) (fun _ k => XS.iconst X54.here hx rfl (hb hby at_196) k) ?_
    refine own_to (T' := T54) (mkF m 199 #[iv p0, iv p1, iv p2, iv d3, iv 1, iv d5, iv b0, iv b1, iv b2, iv b3, iv c0, iv c1, iv c2, iv c3, .unset, .unset, .unset, .unset, .unset] [(.int b3), (.int (3 : Int32)), (.ref b51), (.ref b51), (.ref b50), (.ref b50)]) (fun _ k => XS.iload X54.here hx rfl (hb hby at_197) rfl k) ?_
    obtain ⟨cl55, Ar55, q55, S55, M55, H55, G55⟩ := id V_b51
    obtain ⟨T55, h55, X55, e55, W55, st55⟩ := stC X54 hx hZ e54 Ar55 (j := (3 : Int32)) (inb_of S55 ⟨by decide, by decide⟩) (g := (mkF m 199 #[iv p0, iv p1, iv p2, iv d3, iv 1, iv d5, iv b0, iv b1, iv b2, iv b3, iv c0, iv c1, iv c2, iv c3, .unset, .unset, .unset, .unset, .unset] [(.int b3), (.int (3 : Int32)), (.ref b51), (.ref b51), (.ref b50), (.ref b50)])) rfl rfl (hb hby at_199)
    refine own_to (mkF m 200 #[iv p0, iv p1, iv p2, iv d3, iv 1, iv d5, iv b0, iv b1, iv b2, iv b3, iv c0, iv c1, iv c2, iv c3, .unset, .unset, .unset, .unset, .unset] [(.ref b51), (.ref b50), (.ref b50)]) st55 ?_
    have N55 := Fr.snoc X55 N54 ge_b51
    have tmp55 : Arv Z h55 b51 k51 .char (4 : Int32) [(.int b0), (.int b1), (.int b2), (.int (nar .char b3))] (.int (0 : Int32)) := Arv.set Ar55 q55 S55 M55 H55 G55 (fits_nar_char _) W55 3 rfl (Nat.le_of_ble_eq_true rfl)
    rw [own_nar8 c8_b3] at tmp55
    have OL := OL.wr W55 ge_b51
    have KP := KP.wr W55 (Or.inr sz_b51)
    have hk1 := Nat.le_trans hk1 (Keep.of_wr W55).1
    have E_b50 := E_b50.wr W55
    have F_coder_b50 := F_coder_b50.other W55 (Or.inl ne_b50_b51)
    have F_value_b50 := F_value_b50.other W55 (Or.inl ne_b50_b51)
    have V_b51 := tmp55
    have hp56 : ∀ c ∈ ([b0, b1, b2, b3] : List Int32), ¬ c < 0 ∧ ¬ (255 : Int32) < c := (own_allS c8_b0 (own_allS c8_b1 (own_allS c8_b2 (own_allS c8_b3 own_all0))))
    have KP0 := KP
    have lt0_b50 := E_b50.lt
    have lt0_b51 := V_b51.lt
    obtain ⟨_, _, ⟨T57, L57, k57, n57⟩, -, X57, ⟨Lc57, hQ57, l57, y57, z57⟩, st57⟩ := X55.specialBack hx (y := (⟨"java/lang/String", "<init>", "([C)V"⟩ : MethodName)) rfl hown (mvT hZ (hw _ (List.mem_of_getElem? (i := 4) rfl))) (mvT hZ (hw _ (List.mem_of_getElem? (i := 5) rfl))) (mvT hZ (hw _ (List.mem_of_getElem? (i := 6) rfl))) (by decide) (StrChars.Road.backV (W := 1) hZ hwsV (kI := 4) (hw _ (List.mem_of_getElem? (i := 1) rfl)) (cs := ([b0, b1, b2, b3] : List Int32)) (bs := (([b0, b1, b2, b3] : List Int32)).map (fun c => c.toInt8.toInt32)) (n := 4) ge_b50 (Nat.le_trans Z0 KP.1) E_b50 F_value_b50 F_coder_b50 V_b51 (O2.ext OL.2) P5 rfl rfl (by decide) (by decide) hp56 rfl (by decide) (by decide)) (g := (mkF m 200 #[iv p0, iv p1, iv p2, iv d3, iv 1, iv d5, iv b0, iv b1, iv b2, iv b3, iv c0, iv c1, iv c2, iv c3, .unset, .unset, .unset, .unset, .unset] [(.ref b51), (.ref b50), (.ref b50)])) rfl (by rw [hml]; rfl) (Steps.refl _) (a := b50) (argsL := [(.ref b51)]) (rest := [(.ref b50)]) (lenOf own_pd2 rfl) rfl (by show 2 * 0 + _ ≤ _; exact Nat.le_of_eq rfl) (hb hby at_200) (fun _ _ => ⟨rfl, e55, (by decide : 2 + 1 ≤ _), (by decide : 8 + 4 ≤ _)⟩)
    dsimp only [Pt.U, Pt.locs, Pt.cells, Pt.slots] at X57 l57 y57 z57 st57 hQ57
    subst l57 y57 z57
    obtain ⟨rfl, N57q, K57, Ex57, Cx57, t_br, kb_br, ge_t_br, sz0_t_br, ne_t_br_b50, Vx57, Kx57⟩ := hQ57
    have N57 := Fr.app N55 N57q
    have OL := OL.keep K57 (allS ge_b50 all0)
    have KP := KP.trans K57 (allS (Or.inr sz_b50) all0)
    have hk1 := Nat.le_trans hk1 K57.1
    have E_b50 := E_b50.keep K57
    have V_b51 := V_b51.keep K57 (ninS (Ne.symm ne_b50_b51) nin0)
    refine own_via (mkF m 203 #[iv p0, iv p1, iv p2, iv d3, iv 1, iv d5, iv b0, iv b1, iv b2, iv b3, iv c0, iv c1, iv c2, iv c3, .unset, .unset, .unset, .unset, .unset] [(.ref b50)]) st57 ?_
    have sz_t_br : h0.size ≤ t_br := Nat.le_trans KP0.1 sz0_t_br
    have ne_b51_t_br : b51 ≠ t_br := Nat.ne_of_lt (Nat.lt_of_lt_of_le lt0_b51 sz0_t_br)
    have S_br : own_Str Z T57.heap b50 t_br kb_br ([b0, b1, b2, b3] : List Int32) := ⟨Ex57, Vx57, Cx57, Kx57, hp56, Nat.le_of_ble_eq_true rfl⟩
    refine own_to (T' := T57) (mkF m 207 #[iv p0, iv p1, iv p2, iv d3, iv 1, iv d5, iv b0, iv b1, iv b2, iv b3, iv c0, iv c1, iv c2, iv c3, .unset, .unset, .unset, .unset, .unset] [(.ref b50)]) (fun _ k => XS.goto X57.here hx rfl (pc0 := 203) (pc' := 207) rfl (hb hby at_203) (by decide) (by decide) k) ?_
    refine own_to (T' := T57) (mkF m 209 #[iv p0, iv p1, iv p2, iv d3, iv 1, iv d5, iv b0, iv b1, iv b2, iv b3, iv c0, iv c1, iv c2, iv c3, rv b50, .unset, .unset, .unset, .unset] []) (fun _ k => XS.astore X57.here hx rfl (hb hby at_207) rfl rfl (l' := #[iv p0, iv p1, iv p2, iv d3, iv 1, iv d5, iv b0, iv b1, iv b2, iv b3, iv c0, iv c1, iv c2, iv c3, rv b50, .unset, .unset, .unset, .unset]) rfl k) ?_
    rcases own_01 hd5t hd5f with q | q
    · subst q
      refine own_to (T' := T57) (mkF m 211 #[iv p0, iv p1, iv p2, iv d3, iv 1, iv 0, iv b0, iv b1, iv b2, iv b3, iv c0, iv c1, iv c2, iv c3, rv b50, .unset, .unset, .unset, .unset] [(.int (0 : Int32))]) (fun _ k => XS.iload X57.here hx rfl (hb hby at_209) rfl k) ?_
      refine own_to (T' := T57) (mkF m 242 #[iv p0, iv p1, iv p2, iv d3, iv 1, iv 0, iv b0, iv b1, iv b2, iv b3, iv c0, iv c1, iv c2, iv c3, rv b50, .unset, .unset, .unset, .unset] []) (fun _ k => XS.ifYes X57.here hx rfl (pc0 := 211) (pc' := 242) rfl (hb hby at_211) rfl ((if0 _ _).trans (teq (by decide : (0 : Int32) = (0 : Int32))).1) (by decide) (by decide) k) ?_
      obtain ⟨T58, h58, X58, e58, E58, A58, D58, -, st58⟩ := newO X57 hx hZ hown (hw _ (List.mem_of_getElem? (i := 0) rfl)) (hw _ (List.mem_of_getElem? (i := 1) rfl)) (hw _ (List.mem_of_getElem? (i := 2) rfl)) rfl (g := (mkF m 242 #[iv p0, iv p1, iv p2, iv d3, iv 1, iv 0, iv b0, iv b1, iv b2, iv b3, iv c0, iv c1, iv c2, iv c3, rv b50, .unset, .unset, .unset, .unset] [])) rfl (hb hby at_242) (by decide) (by decide)
      obtain ⟨b58, g58⟩ : ∃ z, z = T57.heap.size := ⟨_, rfl⟩
      rw [← g58] at A58 D58 st58
      have sz_b58 : h0.size ≤ b58 := Nat.le_trans KP.1 (Nat.le_of_eq g58.symm)
      have ge_b58 : n0 ≤ b58 := Nat.le_trans Z0 sz_b58
      have ne_b51_b58 : b51 ≠ b58 := Nat.ne_of_lt (Nat.lt_of_lt_of_le V_b51.lt (Nat.le_of_eq g58.symm))
      have ne_b50_b58 : b50 ≠ b58 := Nat.ne_of_lt (Nat.lt_of_lt_of_le S_br.lt (Nat.le_of_eq g58.symm))
      have ne_t_br_b58 : t_br ≠ b58 := Nat.ne_of_lt (Nat.lt_of_lt_of_le S_br.ltT (Nat.le_of_eq g58.symm))
      have OL := OL.ext E58
      have KP := KP.ext E58
      have hk1 := Nat.le_trans hk1 E58.1
      have V_b51 := V_b51.ext E58
      have S_br := S_br.ext E58
      have E_b58 : Exa Z h58 b58 "java/lang/String" := A58
      have F_coder_b58 : Fld Z h58 b58 "java/lang/String" "coder" "B" (.int (0 : Int32)) := D58 (Or.inr (hw _ (List.mem_of_getElem? (i := 27) rfl))) (ty := .byte) (by decide)
      have F_value_b58 : Fld Z h58 b58 "java/lang/String" "value" "[B" .null := D58 (Or.inr (hw _ (List.mem_of_getElem? (i := 29) rfl))) (ty := (.array .byte)) (by decide)
      refine own_to (mkF m 245 #[iv p0, iv p1, iv p2, iv d3, iv 1, iv 0, iv b0, iv b1, iv b2, iv b3, iv c0, iv c1, iv c2, iv c3, rv b50, .unset, .unset, .unset, .unset] [(.ref b58)]) st58 ?_
      refine own_to (T' := T58) (mkF m 246 #[iv p0, iv p1, iv p2, iv d3, iv 1, iv 0, iv b0, iv b1, iv b2, iv b3, iv c0, iv c1, iv c2, iv c3, rv b50, .unset, .unset, .unset, .unset] [(.ref b58), (.ref b58)]) (fun _ k => XS.dup X58.here hx rfl (hb hby at_245) rfl rfl k) ?_
      refine own_to (T' := T58) (mkF m 247 #[iv p0, iv p1, iv p2, iv d3, iv 1, iv 0, iv b0, iv b1, iv b2, iv b3, iv c0, iv c1, iv c2, iv c3, rv b50, .unset, .unset, .unset, .unset] [(.int (4 : Int32)), (.ref b58), (.ref b58)]) (fun _ k => XS.iconst X58.here hx rfl (hb hby at_246) k) ?_
      obtain ⟨T59, h59, k59, X59, e59, E59, A59, B59, st59⟩ := newPE X58 hx hZ (hw _ (List.mem_of_getElem? (i := 3) rfl)) e58 (g := (mkF m 247 #[iv p0, iv p1, iv p2, iv d3, iv 1, iv 0, iv b0, iv b1, iv b2, iv b3, iv c0, iv c1, iv c2, iv c3, rv b50, .unset, .unset, .unset, .unset] [(.int (4 : Int32)), (.ref b58), (.ref b58)])) rfl (hb hby at_247) rfl (by decide) (cap := 4) (by decide) (by decide) (by decide) (by decide) (ad := "[C") (by decide)
      obtain ⟨b59, g59⟩ : ∃ z, z = h58.size := ⟨_, rfl⟩
      rw [← g59] at A59 B59 st59
      have sz_b59 : h0.size ≤ b59 := Nat.le_trans KP.1 (Nat.le_of_eq g59.symm)
      have ge_b59 : n0 ≤ b59 := Nat.le_trans Z0 sz_b59
      have ne_b51_b59 : b51 ≠ b59 := Nat.ne_of_lt (Nat.lt_of_lt_of_le V_b51.lt (Nat.le_of_eq g59.symm))
      have ne_b50_b59 : b50 ≠ b59 := Nat.ne_of_lt (Nat.lt_of_lt_of_le S_br.lt (Nat.le_of_eq g59.symm))
      have ne_t_br_b59 : t_br ≠ b59 := Nat.ne_of_lt (Nat.lt_of_lt_of_le S_br.ltT (Nat.le_of_eq g59.symm))
      have ne_b58_b59 : b58 ≠ b59 := Nat.ne_of_lt (Nat.lt_of_lt_of_le E_b58.lt (Nat.le_of_eq g59.symm))
      have OL := OL.ext E59
      have KP := KP.ext E59
      have hk1 := Nat.le_trans hk1 E59.1
      have V_b51 := V_b51.ext E59
      have S_br := S_br.ext E59
      have E_b58 := E_b58.ext E59
      have F_coder_b58 := F_coder_b58.ext E59
      have F_value_b58 := F_value_b58.ext E59
      have V_b59 : Arv Z h59 b59 k59 .char (4 : Int32) [(.int (0 : Int32)), (.int (0 : Int32)), (.int (0 : Int32)), (.int (0 : Int32))] (.int (0 : Int32)) := (Arv.new A59 (by decide)).pad (pad_rep [] (.int (0 : Int32)) 4)
      refine own_to (mkF m 249 #[iv p0, iv p1, iv p2, iv d3, iv 1, iv 0, iv b0, iv b1, iv b2, iv b3, iv c0, iv c1, iv c2, iv c3, rv b50, .unset, .unset, .unset, .unset] [(.ref b59), (.ref b58), (.ref b58)]) st59 ?_
      refine own_to (T' := T59) (mkF m 250 #[iv p0, iv p1, iv p2, iv d3, iv 1, iv 0, iv b0, iv b1, iv b2, iv b3, iv c0, iv c1, iv c2, iv c3, rv b50, .unset, .unset, .unset, .unset] [(.ref b59), (.ref b59), (.ref b58), (.ref b58)]) (fun _ k => XS.dup X59.here hx rfl (hb hby at_249) rfl rfl k) ?_
      refine own_to (T' := T59) (mkF m 251 #[iv p0, iv p1, iv p2, iv d3, iv 1, iv 0, iv b0, iv b1, iv b2, iv b3, iv c0, iv c1, iv c2, iv c3, rv b50, .unset, .unset, .unset, .unset] [(.int (0 : Int32)), (.ref b59), (.ref b59), (.ref b58), (.ref b58)]) (fun _ k => XS.iconst X59.here hx rfl (hb hby at_250) k) ?_
      refine own_to (T' := T59) (mkF m 253 #[iv p0, iv p1, iv p2, iv d3, iv 1, iv 0, iv b0, iv b1, iv b2, iv b3, iv c0, iv c1, iv c2, iv c3, rv b50, .unset, .unset, .unset, .unset] [(.int c0), (.int (0 : Int32)), (.ref b59), (.ref b59), (.ref b58), (.ref b58)]) (fun _ k => XS.iload X59.here hx rfl (hb hby at_251) rfl k) ?_
      obtain ⟨cl60, Ar60, q60, S60, M60, H60, G60⟩ := id V_b59
      obtain ⟨T60, h60, X60, e60, W60, st60⟩ := stC X59 hx hZ e59 Ar60 (j := (0 : Int32)) (inb_of S60 ⟨by decide, by decide⟩) (g := (mkF m 253 #[iv p0, iv p1, iv p2, iv d3, iv 1, iv 0, iv b0, iv b1, iv b2, iv b3, iv c0, iv c1, iv c2, iv c3, rv b50, .unset, .unset, .unset, .unset] [(.int c0), (.int (0 : Int32)), (.ref b59), (.ref b59), (.ref b58), (.ref b58)])) rfl rfl (hb hby at_253)
      refine own_to (mkF m 254 #[iv p0, iv p1, iv p2, iv d3, iv 1, iv 0, iv b0, iv b1, iv b2, iv b3, iv c0, iv c1, iv c2, iv c3, rv b50, .unset, .unset, .unset, .unset] [(.ref b59), (.ref b58), (.ref b58)]) st60 ?_
      have N60 := Fr.snoc X60 N57 ge_b59
      have tmp60 : Arv Z h60 b59 k59 .char (4 : Int32) [(.int (nar .char c0)), (.int (0 : Int32)), (.int (0 : Int32)), (.int (0 : Int32))] (.int (0 : Int32)) := Arv.set Ar60 q60 S60 M60 H60 G60 (fits_nar_char _) W60 0 rfl (Nat.le_of_ble_eq_true rfl)
      rw [own_nar8 c8_c0] at tmp60
      have OL := OL.wr W60 ge_b59
      have KP := KP.wr W60 (Or.inr sz_b59)
      have hk1 := Nat.le_trans hk1 (Keep.of_wr W60).1
      have V_b51 := V_b51.other W60 ne_b51_b59
      have S_br := S_br.wr W60 ne_b50_b59 ne_t_br_b59
      have E_b58 := E_b58.wr W60
      have F_coder_b58 := F_coder_b58.other W60 (Or.inl ne_b58_b59)
      have F_value_b58 := F_value_b58.other W60 (Or.inl ne_b58_b59)
      have V_b59 := tmp60
      refine own_to (T' := T60) (mkF m 255 #[iv p0, iv p1, iv p2, iv d3, iv 1, iv 0, iv b0, iv b1, iv b2, iv b3, iv c0, iv c1, iv c2, iv c3, rv b50, .unset, .unset, .unset, .unset] [(.ref b59), (.ref b59), (.ref b58), (.ref b58)]) (fun _ k => XS.dup X60.here hx rfl (hb hby at_254) rfl rfl k) ?_
      refine own_to (T' := T60) (mkF m 256 #[iv p0, iv p1, iv p2, iv d3, iv 1, iv 0, iv b0, iv b1, iv b2, iv b3, iv c0, iv c1, iv c2, iv c3, rv b50, .unset, .unset, .unset, .unset] [(.int (1 : Int32)), (.ref b59), (.ref b59), (.ref b58), (.ref b58)]) (fun _ k => XS.iconst X60.here hx rfl (hb hby at_255) k) ?_
      refine own_to (T' := T60) (mkF m 258 #[iv p0, iv p1, iv p2, iv d3, iv 1, iv 0, iv b0, iv b1, iv b2, iv b3, iv c0, iv c1, iv c2, iv c3, rv b50, .unset, .unset, .unset, .unset] [(.int c1), (.int (1 : Int32)), (.ref b59), (.ref b59), (.ref b58), (.ref b58)]) (fun _ k => XS.iload X60.here hx rfl (hb hby at_256) rfl k) ?_
      obtain ⟨cl61, Ar61, q61, S61, M61, H61, G61⟩ := id V_b59
      obtain ⟨T61, h61, X61, e61, W61, st61⟩ := stC X60 hx hZ e60 Ar61 (j := (1 : Int32)) (inb_of S61 ⟨by decide, by decide⟩) (g := (mkF m 258 #[iv p0, iv p1, iv p2, iv d3, iv 1, iv 0, iv b0, iv b1, iv b2, iv b3, iv c0, iv c1, iv c2, iv c3, rv b50, .unset, .unset, .unset, .unset] [(.int c1), (.int (1 : Int32)), (.ref b59), (.ref b59), (.ref b58), (.ref b58)])) rfl rfl (hb hby at_258)
      refine own_to (mkF m 259 #[iv p0, iv p1, iv p2, iv d3, iv 1, iv 0, iv b0, iv b1, iv b2, iv b3, iv c0, iv c1, iv c2, iv c3, rv b50, .unset, .unset, .unset, .unset] [(.ref b59), (.ref b58), (.ref b58)]) st61 ?_
      have N61 := Fr.snoc X61 N60 ge_b59
      have tmp61 : Arv Z h61 b59 k59 .char (4 : Int32) [(.int c0), (.int (nar .char c1)), (.int (0 : Int32)), (.int (0 : Int32))] (.int (0 : Int32)) := Arv.set Ar61 q61 S61 M61 H61 G61 (fits_nar_char _) W61 1 rfl (Nat.le_of_ble_eq_true rfl)
      rw [own_nar8 c8_c1] at tmp61
      have OL := OL.wr W61 ge_b59
      have KP := KP.wr W61 (Or.inr sz_b59)
      have hk1 := Nat.le_trans hk1 (Keep.of_wr W61).1
      have V_b51 := V_b51.other W61 ne_b51_b59
      have S_br := S_br.wr W61 ne_b50_b59 ne_t_br_b59
      have E_b58 := E_b58.wr W61
      have F_coder_b58 := F_coder_b58.other W61 (Or.inl ne_b58_b59)
      have F_value_b58 := F_value_b58.other W61 (Or.inl ne_b58_b59)
      have V_b59 := tmp61
      refine own_to (T' := T61) (mkF m 260 #[iv p0, iv p1, iv p2, iv d3, iv 1, iv 0, iv b0, iv b1, iv b2, iv b3, iv c0, iv c1, iv c2, iv c3, rv b50, .unset, .unset, .unset, .unset] [(.ref b59), (.ref b59), (.ref b58), (.ref b58)]) (fun _ k => XS.dup X61.here hx rfl (hb hby at_259) rfl rfl k) ?_
      refine own_to (T' := T61) (mkF m 261 #[iv p0, iv p1, iv p2, iv d3, iv 1, iv 0, iv b0, iv b1, iv b2, iv b3, iv c0, iv c1, iv c2, iv c3, rv b50, .unset, .unset, .unset, .unset] [(.int (2 : Int32)), (.ref b59), (.ref b59), (.ref b58), (.ref b58)]) (fun _ k => XS.iconst X61.here hx rfl (hb hby at_260) k) ?_
      refine own_to (T' := T61) (mkF m 263 #[iv p0, iv p1, iv p2, iv d3, iv 1, iv 0, iv b0, iv b1, iv b2, iv b3, iv c0, iv c1, iv c2, iv c3, rv b50, .unset, .unset, .unset, .unset] [(.int c2), (.int (2 : Int32)), (.ref b59), (.ref b59), (.ref b58), (.ref b58)]) (fun _ k => XS.iload X61.here hx rfl (hb hby at_261) rfl k) ?_
      obtain ⟨cl62, Ar62, q62, S62, M62, H62, G62⟩ := id V_b59
      obtain ⟨T62, h62, X62, e62, W62, st62⟩ := stC X61 hx hZ e61 Ar62 (j := (2 : Int32)) (inb_of S62 ⟨by decide, by decide⟩) (g := (mkF m 263 #[iv p0, iv p1, iv p2, iv d3, iv 1, iv 0, iv b0, iv b1, iv b2, iv b3, iv c0, iv c1, iv c2, iv c3, rv b50, .unset, .unset, .unset, .unset] [(.int c2), (.int (2 : Int32)), (.ref b59), (.ref b59), (.ref b58), (.ref b58)])) rfl rfl (hb hby at_263)
      refine own_to (mkF m 264 #[iv p0, iv p1, iv p2, iv d3, iv 1, iv 0, iv b0, iv b1, iv b2, iv b3, iv c0, iv c1, iv c2, iv c3, rv b50, .unset, .unset, .unset, .unset] [(.ref b59), (.ref b58), (.ref b58)]) st62 ?_
      have N62 := Fr.snoc X62 N61 ge_b59
      have tmp62 : Arv Z h62 b59 k59 .char (4 : Int32) [(.int c0), (.int c1), (.int (nar .char c2)), (.int (0 : Int32))] (.int (0 : Int32)) := Arv.set Ar62 q62 S62 M62 H62 G62 (fits_nar_char _) W62 2 rfl (Nat.le_of_ble_eq_true rfl)
      rw [own_nar8 c8_c2] at tmp62
      have OL := OL.wr W62 ge_b59
      have KP := KP.wr W62 (Or.inr sz_b59)
      have hk1 := Nat.le_trans hk1 (Keep.of_wr W62).1
      have V_b51 := V_b51.other W62 ne_b51_b59
      have S_br := S_br.wr W62 ne_b50_b59 ne_t_br_b59
      have E_b58 := E_b58.wr W62
      have F_coder_b58 := F_coder_b58.other W62 (Or.inl ne_b58_b59)
      have F_value_b58 := F_value_b58.other W62 (Or.inl ne_b58_b59)
      have V_b59 := tmp62
      refine own_to (T' := T62) (mkF m 265 #[iv p0, iv p1, iv p2, iv d3, iv 1, iv 0, iv b0, iv b1, iv b2, iv b3, iv c0, iv c1, iv c2, iv c3, rv b50, .unset, .unset, .unset, .unset] [(.ref b59), (.ref b59), (.ref b58), (.ref b58)]) (fun _ k => XS.dup X62.here hx rfl (hb hby at_264) rfl rfl k) ?_
      refine own_to (T' := T62) (mkF m 266 #[iv p0, iv p1, iv p2, iv d3, iv 1, iv 0, iv b0, iv b1, iv b2, iv b3, iv c0, iv c1, iv c2, iv c3, rv b50, .unset, .unset, .unset, .unset] [(.int (3 : Int32)), (.ref b59), (.ref b59), (.ref b58), (.ref b58)]) (fun _ k => XS.iconst X62.here hx rfl (hb hby at_265) k) ?_
      refine own_to (T' := T62) (mkF m 268 #[iv p0, iv p1, iv p2, iv d3, iv 1, iv 0, iv b0, iv b1, iv b2, iv b3, iv c0, iv c1, iv c2, iv c3, rv b50, .unset, .unset, .unset, .unset] [(.int c3), (.int (3 : Int32)), (.ref b59), (.ref b59), (.ref b58), (.ref b58)]) (fun _ k => XS.iload X62.here hx rfl (hb hby at_266) rfl k) ?_
      obtain ⟨cl63, Ar63, q63, S63, M63, H63, G63⟩ := id V_b59
      obtain ⟨T63, h63, X63, e63, W63, st63⟩ := stC X62 hx hZ e62 Ar63 (j := (3 : Int32)) (inb_of S63 ⟨by decide, by decide⟩) (g := (mkF m 268 #[iv p0, iv p1, iv p2, iv d3, iv 1, iv 0, iv b0, iv b1, iv b2, iv b3, iv c0, iv c1, iv c2, iv c3, rv b50, .unset, .unset, .unset, .unset] [(.int c3), (.int (3 : Int32)), (.ref b59), (.ref b59), (.ref b58), (.ref b58)])) rfl rfl (hb hby at_268)
      refine own_to (mkF m 269 #[iv p0, iv p1, iv p2, iv d3, iv 1, iv 0, iv b0, iv b1, iv b2, iv b3, iv c0, iv c1, iv c2, iv c3, rv b50, .unset, .unset, .unset, .unset] [(.ref b59), (.ref b58), (.ref b58)]) st63 ?_
      have N63 := Fr.snoc X63 N62 ge_b59
      have tmp63 : Arv Z h63 b59 k59 .char (4 : Int32) [(.int c0), (.int c1), (.int c2), (.int (nar .char c3))] (.int (0 : Int32)) := Arv.set Ar63 q63 S63 M63 H63 G63 (fits_nar_char _) W63 3 rfl (Nat.le_of_ble_eq_true rfl)
      rw [own_nar8 c8_c3] at tmp63
      have OL := OL.wr W63 ge_b59
      have KP := KP.wr W63 (Or.inr sz_b59)
      have hk1 := Nat.le_trans hk1 (Keep.of_wr W63).1
      have V_b51 := V_b51.other W63 ne_b51_b59
      have S_br := S_br.wr W63 ne_b50_b59 ne_t_br_b59
      have E_b58 := E_b58.wr W63
      have F_coder_b58 := F_coder_b58.other W63 (Or.inl ne_b58_b59)
      have F_value_b58 := F_value_b58.other W63 (Or.inl ne_b58_b59)
      have V_b59 := tmp63
      have hp64 : ∀ c ∈ ([c0, c1, c2, c3] : List Int32), ¬ c < 0 ∧ ¬ (255 : Int32) < c := (own_allS c8_c0 (own_allS c8_c1 (own_allS c8_c2 (own_allS c8_c3 own_all0))))
      have KP0 := KP
      have lt0_b51 := V_b51.lt
      have lt0_b50 := S_br.lt
      have lt0_t_br := S_br.ltT
      have lt0_b58 := E_b58.lt
      have lt0_b59 := V_b59.lt
      obtain ⟨_, _, ⟨T65, L65, k65, n65⟩, -, X65, ⟨Lc65, hQ65, l65, y65, z65⟩, st65⟩ := X63.specialBack hx (y := (⟨"java/lang/String", "<init>", "([C)V"⟩ : MethodName)) rfl hown (mvT hZ (hw _ (List.mem_of_getElem? (i := 4) rfl))) (mvT hZ (hw _ (List.mem_of_getElem? (i := 5) rfl))) (mvT hZ (hw _ (List.mem_of_getElem? (i := 6) rfl))) (by decide) (StrChars.Road.backV (W := 1) hZ hwsV (kI := 4) (hw _ (List.mem_of_getElem? (i := 1) rfl)) (cs := ([c0, c1, c2, c3] : List Int32)) (bs := (([c0, c1, c2, c3] : List Int32)).map (fun c => c.toInt8.toInt32)) (n := 4) ge_b58 (Nat.le_trans Z0 KP.1) E_b58 F_value_b58 F_coder_b58 V_b59 (O2.ext OL.2) P5 rfl rfl (by decide) (by decide) hp64 rfl (by decide) (by decide)) (g := (mkF m 269 #[iv p0, iv p1, iv p2, iv d3, iv 1, iv 0, iv b0, iv b1, iv b2, iv b3, iv c0, iv c1, iv c2, iv c3, rv b50, .unset, .unset, .unset, .unset] [(.ref b59), (.ref b58), (.ref b58)])) rfl (by rw [hml]; rfl) (Steps.refl _) (a := b58) (argsL := [(.ref b59)]) (rest := [(.ref b58)]) (lenOf own_pd2 rfl) rfl (by show 2 * 0 + _ ≤ _; exact Nat.le_of_eq rfl) (hb hby at_269) (fun _ _ => ⟨rfl, e63, (by decide : 5 + 1 ≤ _), (by decide : 20 + 4 ≤ _)⟩)
      dsimp only [Pt.U, Pt.locs, Pt.cells, Pt.slots] at X65 l65 y65 z65 st65 hQ65
      subst l65 y65 z65
      obtain ⟨rfl, N65q, K65, Ex65, Cx65, t_co, kb_co, ge_t_co, sz0_t_co, ne_t_co_b58, Vx65, Kx65⟩ := hQ65
      have N65 := Fr.app N63 N65q
      have OL := OL.keep K65 (allS ge_b58 all0)
      have KP := KP.trans K65 (allS (Or.inr sz_b58) all0)
      have hk1 := Nat.le_trans hk1 K65.1
      have V_b51 := V_b51.keep K65 (ninS ne_b51_b58 nin0)
      have S_br := S_br.keep K65 (ninS ne_b50_b58 nin0) (ninS ne_t_br_b58 nin0)
      have E_b58 := E_b58.keep K65
      have V_b59 := V_b59.keep K65 (ninS (Ne.symm ne_b58_b59) nin0)
      refine own_via (mkF m 272 #[iv p0, iv p1, iv p2, iv d3, iv 1, iv 0, iv b0, iv b1, iv b2, iv b3, iv c0, iv c1, iv c2, iv c3, rv b50, .unset, .unset, .unset, .unset] [(.ref b58)]) st65 ?_
      have sz_t_co : h0.size ≤ t_co := Nat.le_trans KP0.1 sz0_t_co
      have ne_b51_t_co : b51 ≠ t_co := Nat.ne_of_lt (Nat.lt_of_lt_of_le lt0_b51 sz0_t_co)
      have ne_b50_t_co : b50 ≠ t_co := Nat.ne_of_lt (Nat.lt_of_lt_of_le lt0_b50 sz0_t_co)
      have ne_t_br_t_co : t_br ≠ t_co := Nat.ne_of_lt (Nat.lt_of_lt_of_le lt0_t_br sz0_t_co)
      have ne_b59_t_co : b59 ≠ t_co := Nat.ne_of_lt (Nat.lt_of_lt_of_le lt0_b59 sz0_t_co)
      have S_co : own_Str Z T65.heap b58 t_co kb_co ([c0, c1, c2, c3] : List Int32) := ⟨Ex65, Vx65, Cx65, Kx65, hp64, Nat.le_of_ble_eq_true rfl⟩
      refine own_to (T' := T65) (mkF m 274 #[iv p0, iv p1, iv p2, iv d3, iv 1, iv 0, iv b0, iv b1, iv b2, iv b3, iv c0, iv c1, iv c2, iv c3, rv b50, rv b58, .unset, .unset, .unset] []) (fun _ k => XS.astore X65.here hx rfl (hb hby at_272) rfl rfl (l' := #[iv p0, iv p1, iv p2, iv d3, iv 1, iv 0, iv b0, iv b1, iv b2, iv b3, iv c0, iv c1, iv c2, iv c3, rv b50, rv b58, .unset, .unset, .unset]) rfl k) ?_
      obtain ⟨T66, h66, X66, e66, E66, A66, D66, -, st66⟩ := newO X65 hx hZ hown (hw _ (List.mem_of_getElem? (i := 30) rfl)) (hw _ (List.mem_of_getElem? (i := 31) rfl)) (hw _ (List.mem_of_getElem? (i := 32) rfl)) rfl (g := (mkF m 274 #[iv p0, iv p1, iv p2, iv d3, iv 1, iv 0, iv b0, iv b1, iv b2, iv b3, iv c0, iv c1, iv c2, iv c3, rv b50, rv b58, .unset, .unset, .unset] [])) rfl (hb hby at_274) (by decide) (by decide)
      obtain ⟨b66, g66⟩ : ∃ z, z = T65.heap.size := ⟨_, rfl⟩
      rw [← g66] at A66 D66 st66
      have sz_b66 : h0.size ≤ b66 := Nat.le_trans KP.1 (Nat.le_of_eq g66.symm)
      have ge_b66 : n0 ≤ b66 := Nat.le_trans Z0 sz_b66
      have ne_b51_b66 : b51 ≠ b66 := Nat.ne_of_lt (Nat.lt_of_lt_of_le V_b51.lt (Nat.le_of_eq g66.symm))
      have ne_b50_b66 : b50 ≠ b66 := Nat.ne_of_lt (Nat.lt_of_lt_of_le S_br.lt (Nat.le_of_eq g66.symm))
      have ne_t_br_b66 : t_br ≠ b66 := Nat.ne_of_lt (Nat.lt_of_lt_of_le S_br.ltT (Nat.le_of_eq g66.symm))
      have ne_b59_b66 : b59 ≠ b66 := Nat.ne_of_lt (Nat.lt_of_lt_of_le V_b59.lt (Nat.le_of_eq g66.symm))
      have ne_b58_b66 : b58 ≠ b66 := Nat.ne_of_lt (Nat.lt_of_lt_of_le S_co.lt (Nat.le_of_eq g66.symm))
      have ne_t_co_b66 : t_co ≠ b66 := Nat.ne_of_lt (Nat.lt_of_lt_of_le S_co.ltT (Nat.le_of_eq g66.symm))
      have OL := OL.ext E66
      have KP := KP.ext E66
      have hk1 := Nat.le_trans hk1 E66.1
      have V_b51 := V_b51.ext E66
      have S_br := S_br.ext E66
      have V_b59 := V_b59.ext E66
      have S_co := S_co.ext E66
      have E_b66 : Exa Z h66 b66 "com/example/saldera/saldera/coupon/Cashier" := A66
      have F_username_b66 : Fld Z h66 b66 "com/example/saldera/saldera/coupon/Cashier" "username" "Ljava/lang/String;" .null := D66 (Or.inr (hw _ (List.mem_of_getElem? (i := 41) rfl))) (ty := (.object "java/lang/String")) (by decide)
      have F_branch_b66 : Fld Z h66 b66 "com/example/saldera/saldera/coupon/Cashier" "branch" "Ljava/lang/String;" .null := D66 (Or.inr (hw _ (List.mem_of_getElem? (i := 43) rfl))) (ty := (.object "java/lang/String")) (by decide)
      have F_crossBranch_b66 : Fld Z h66 b66 "com/example/saldera/saldera/coupon/Cashier" "crossBranch" "Z" (.int (0 : Int32)) := D66 (Or.inr (hw _ (List.mem_of_getElem? (i := 45) rfl))) (ty := .boolean) (by decide)
      refine own_to (mkF m 277 #[iv p0, iv p1, iv p2, iv d3, iv 1, iv 0, iv b0, iv b1, iv b2, iv b3, iv c0, iv c1, iv c2, iv c3, rv b50, rv b58, .unset, .unset, .unset] [(.ref b66)]) st66 ?_
      refine own_to (T' := T66) (mkF m 278 #[iv p0, iv p1, iv p2, iv d3, iv 1, iv 0, iv b0, iv b1, iv b2, iv b3, iv c0, iv c1, iv c2, iv c3, rv b50, rv b58, .unset, .unset, .unset] [(.ref b66), (.ref b66)]) (fun _ k => XS.dup X66.here hx rfl (hb hby at_277) rfl rfl k) ?_
      obtain ⟨aU, T67, h67, k1, X67, e67, E67, hS, hk2, hZ, hown, st67⟩ := ldcS (s := s) (vm0 := s.vm) X66 hx hZ hown (hw _ (List.mem_of_getElem? (i := 33) rfl)) hwsS e66 hS hk1 (g := (mkF m 278 #[iv p0, iv p1, iv p2, iv d3, iv 1, iv 0, iv b0, iv b1, iv b2, iv b3, iv c0, iv c1, iv c2, iv c3, rv b50, rv b58, .unset, .unset, .unset] [(.ref b66), (.ref b66)])) rfl (hb hby at_278) (n := 4) (by decide) (by decide) (by decide) (by decide)
      have OL := OL.ext E67
      have KP := KP.ext E67
      have V_b51 := V_b51.ext E67
      have S_br := S_br.ext E67
      have V_b59 := V_b59.ext E67
      have S_co := S_co.ext E67
      have E_b66 := E_b66.ext E67
      have F_username_b66 := F_username_b66.ext E67
      have F_branch_b66 := F_branch_b66.ext E67
      have F_crossBranch_b66 := F_crossBranch_b66.ext E67
      have hk1 := hk2
      refine own_to (mkF m 280 #[iv p0, iv p1, iv p2, iv d3, iv 1, iv 0, iv b0, iv b1, iv b2, iv b3, iv c0, iv c1, iv c2, iv c3, rv b50, rv b58, .unset, .unset, .unset] [(.ref aU), (.ref b66), (.ref b66)]) st67 ?_
      refine own_to (T' := T67) (mkF m 282 #[iv p0, iv p1, iv p2, iv d3, iv 1, iv 0, iv b0, iv b1, iv b2, iv b3, iv c0, iv c1, iv c2, iv c3, rv b50, rv b58, .unset, .unset, .unset] [(.ref b50), (.ref aU), (.ref b66), (.ref b66)]) (fun _ k => XS.aload X67.here hx rfl (hb hby at_280) rfl rfl k) ?_
      refine own_to (T' := T67) (mkF m 283 #[iv p0, iv p1, iv p2, iv d3, iv 1, iv 0, iv b0, iv b1, iv b2, iv b3, iv c0, iv c1, iv c2, iv c3, rv b50, rv b58, .unset, .unset, .unset] [(.int d3), (.ref b50), (.ref aU), (.ref b66), (.ref b66)]) (fun _ k => XS.iloadN X67.here hx rfl (hb hby at_282) rfl k) ?_
      obtain ⟨_, _, ⟨T68, L68, k68, n68⟩, -, X68, ⟨Lc68, hQ68, l68, y68, z68⟩, st68⟩ := X67.specialBack hx (y := (⟨"com/example/saldera/saldera/coupon/Cashier", "<init>", "(Ljava/lang/String;Ljava/lang/String;Z)V"⟩ : MethodName)) rfl hown (mvT hZ (hw _ (List.mem_of_getElem? (i := 36) rfl))) (mvT hZ (hw _ (List.mem_of_getElem? (i := 37) rfl))) (mvT hZ (hw _ (List.mem_of_getElem? (i := 38) rfl))) (by decide) (backOf (W := 1) (own_rmCB l Z a0 hw [] b66 aU b50 d3 h67 n0 (Nat.le_trans Z0 KP.1) OL E_b66 ge_b66 F_username_b66 F_branch_b66 F_crossBranch_b66) hZ (hw _ (List.mem_of_getElem? (i := 38) rfl)) (hw _ (List.mem_of_getElem? (i := 32) rfl)) (by decide) (by decide)) (g := (mkF m 283 #[iv p0, iv p1, iv p2, iv d3, iv 1, iv 0, iv b0, iv b1, iv b2, iv b3, iv c0, iv c1, iv c2, iv c3, rv b50, rv b58, .unset, .unset, .unset] [(.int d3), (.ref b50), (.ref aU), (.ref b66), (.ref b66)])) rfl (by rw [hml]; rfl) (Steps.refl _) (a := b66) (argsL := [(.ref aU), (.ref b50), (.int d3)]) (rest := [(.ref b66)]) (lenOf own_pd3 rfl) rfl (by show 2 * 0 + _ ≤ _; exact Nat.le_of_eq rfl) (hb hby at_283) (fun _ _ => ⟨rfl, e67, (by decide : 9 + 0 ≤ _), (by decide : 35 + 0 ≤ _)⟩)
      dsimp only [Pt.U, Pt.locs, Pt.cells, Pt.slots] at X68 l68 y68 z68 st68 hQ68
      subst l68 y68 z68
      obtain ⟨rfl, N68q, K68, Ea68, Fb68, Fx68⟩ := hQ68
      have N68 := Fr.app N65 N68q
      have OL := OL.keep K68 (allS ge_b66 all0)
      have KP := KP.trans K68 (allS (Or.inr sz_b66) all0)
      have hk1 := Nat.le_trans hk1 K68.1
      have V_b51 := V_b51.keep K68 (ninS ne_b51_b66 nin0)
      have S_br := S_br.keep K68 (ninS ne_b50_b66 nin0) (ninS ne_t_br_b66 nin0)
      have V_b59 := V_b59.keep K68 (ninS ne_b59_b66 nin0)
      have S_co := S_co.keep K68 (ninS ne_b58_b66 nin0) (ninS ne_t_co_b66 nin0)
      have E_b66 := E_b66.keep K68
      refine own_via (mkF m 286 #[iv p0, iv p1, iv p2, iv d3, iv 1, iv 0, iv b0, iv b1, iv b2, iv b3, iv c0, iv c1, iv c2, iv c3, rv b50, rv b58, .unset, .unset, .unset] [(.ref b66)]) st68 ?_
      have EC : Exa Z T68.heap b66 "com/example/saldera/saldera/coupon/Cashier" := Ea68
      have FB : Fld Z T68.heap b66 "com/example/saldera/saldera/coupon/Cashier" "branch" "Ljava/lang/String;" (.ref b50) := Fb68
      have FX : Fld Z T68.heap b66 "com/example/saldera/saldera/coupon/Cashier" "crossBranch" "Z" (.int (nar .boolean d3)) := Fx68
      refine own_to (T' := T68) (mkF m 288 #[iv p0, iv p1, iv p2, iv d3, iv 1, iv 0, iv b0, iv b1, iv b2, iv b3, iv c0, iv c1, iv c2, iv c3, rv b50, rv b58, rv b66, .unset, .unset] []) (fun _ k => XS.astore X68.here hx rfl (hb hby at_286) rfl rfl (l' := #[iv p0, iv p1, iv p2, iv d3, iv 1, iv 0, iv b0, iv b1, iv b2, iv b3, iv c0, iv c1, iv c2, iv c3, rv b50, rv b58, rv b66, .unset, .unset]) rfl k) ?_
      refine own_to (T' := T68) (mkF m 290 #[iv p0, iv p1, iv p2, iv d3, iv 1, iv 0, iv b0, iv b1, iv b2, iv b3, iv c0, iv c1, iv c2, iv c3, rv b50, rv b58, rv b66, .unset, .unset] [(.int (1 : Int32))]) (fun _ k => XS.iload X68.here hx rfl (hb hby at_288) rfl k) ?_
      refine own_to (T' := T68) (mkF m 293 #[iv p0, iv p1, iv p2, iv d3, iv 1, iv 0, iv b0, iv b1, iv b2, iv b3, iv c0, iv c1, iv c2, iv c3, rv b50, rv b58, rv b66, .unset, .unset] []) (fun _ k => XS.ifNo X68.here hx rfl (hb hby at_290) rfl ((if0 _ _).trans (feq (by decide : ¬ ((1 : Int32) = (0 : Int32)))).1) k) ?_
      refine own_to (T' := T68) (mkF m 295 #[iv p0, iv p1, iv p2, iv d3, iv 1, iv 0, iv b0, iv b1, iv b2, iv b3, iv c0, iv c1, iv c2, iv c3, rv b50, rv b58, rv b66, .unset, .unset] [(.int (0 : Int32))]) (fun _ k => XS.iload X68.here hx rfl (hb hby at_293) rfl k) ?_
      refine own_to (T' := T68) (mkF m 298 #[iv p0, iv p1, iv p2, iv d3, iv 1, iv 0, iv b0, iv b1, iv b2, iv b3, iv c0, iv c1, iv c2, iv c3, rv b50, rv b58, rv b66, .unset, .unset] []) (fun _ k => XS.ifNo X68.here hx rfl (hb hby at_295) rfl ((if0 _ _).trans (teq (by decide : (0 : Int32) = (0 : Int32))).2) k) ?_
      refine own_to (T' := T68) (mkF m 300 #[iv p0, iv p1, iv p2, iv d3, iv 1, iv 0, iv b0, iv b1, iv b2, iv b3, iv c0, iv c1, iv c2, iv c3, rv b50, rv b58, rv b66, .unset, .unset] [(.int c0)]) (fun _ k => XS.iload X68.here hx rfl (hb hby at_298) rfl k) ?_
      refine own_to (T' := T68) (mkF m 302 #[iv p0, iv p1, iv p2, iv d3, iv 1, iv 0, iv b0, iv b1, iv b2, iv b3, iv c0, iv c1, iv c2, iv c3, rv b50, rv b58, rv b66, .unset, .unset] [(.int b0), (.int c0)]) (fun _ k => XS.iload X68.here hx rfl (hb hby at_300) rfl k) ?_
      by_cases hq0 : c0 = b0
      · refine own_to (T' := T68) (mkF m 305 #[iv p0, iv p1, iv p2, iv d3, iv 1, iv 0, iv b0, iv b1, iv b2, iv b3, iv c0, iv c1, iv c2, iv c3, rv b50, rv b58, rv b66, .unset, .unset] []) (fun _ k => XS.icmpNo X68.here hx rfl (hb hby at_302) rfl (teq hq0).2 k) ?_
        refine own_to (T' := T68) (mkF m 307 #[iv p0, iv p1, iv p2, iv d3, iv 1, iv 0, iv b0, iv b1, iv b2, iv b3, iv c0, iv c1, iv c2, iv c3, rv b50, rv b58, rv b66, .unset, .unset] [(.int c1)]) (fun _ k => XS.iload X68.here hx rfl (hb hby at_305) rfl k) ?_
        refine own_to (T' := T68) (mkF m 309 #[iv p0, iv p1, iv p2, iv d3, iv 1, iv 0, iv b0, iv b1, iv b2, iv b3, iv c0, iv c1, iv c2, iv c3, rv b50, rv b58, rv b66, .unset, .unset] [(.int b1), (.int c1)]) (fun _ k => XS.iload X68.here hx rfl (hb hby at_307) rfl k) ?_
        by_cases hq1 : c1 = b1
        · refine own_to (T' := T68) (mkF m 312 #[iv p0, iv p1, iv p2, iv d3, iv 1, iv 0, iv b0, iv b1, iv b2, iv b3, iv c0, iv c1, iv c2, iv c3, rv b50, rv b58, rv b66, .unset, .unset] []) (fun _ k => XS.icmpNo X68.here hx rfl (hb hby at_309) rfl (teq hq1).2 k) ?_
          refine own_to (T' := T68) (mkF m 314 #[iv p0, iv p1, iv p2, iv d3, iv 1, iv 0, iv b0, iv b1, iv b2, iv b3, iv c0, iv c1, iv c2, iv c3, rv b50, rv b58, rv b66, .unset, .unset] [(.int c2)]) (fun _ k => XS.iload X68.here hx rfl (hb hby at_312) rfl k) ?_
          refine own_to (T' := T68) (mkF m 316 #[iv p0, iv p1, iv p2, iv d3, iv 1, iv 0, iv b0, iv b1, iv b2, iv b3, iv c0, iv c1, iv c2, iv c3, rv b50, rv b58, rv b66, .unset, .unset] [(.int b2), (.int c2)]) (fun _ k => XS.iload X68.here hx rfl (hb hby at_314) rfl k) ?_
          by_cases hq2 : c2 = b2
          · refine own_to (T' := T68) (mkF m 319 #[iv p0, iv p1, iv p2, iv d3, iv 1, iv 0, iv b0, iv b1, iv b2, iv b3, iv c0, iv c1, iv c2, iv c3, rv b50, rv b58, rv b66, .unset, .unset] []) (fun _ k => XS.icmpNo X68.here hx rfl (hb hby at_316) rfl (teq hq2).2 k) ?_
            refine own_to (T' := T68) (mkF m 321 #[iv p0, iv p1, iv p2, iv d3, iv 1, iv 0, iv b0, iv b1, iv b2, iv b3, iv c0, iv c1, iv c2, iv c3, rv b50, rv b58, rv b66, .unset, .unset] [(.int c3)]) (fun _ k => XS.iload X68.here hx rfl (hb hby at_319) rfl k) ?_
            refine own_to (T' := T68) (mkF m 323 #[iv p0, iv p1, iv p2, iv d3, iv 1, iv 0, iv b0, iv b1, iv b2, iv b3, iv c0, iv c1, iv c2, iv c3, rv b50, rv b58, rv b66, .unset, .unset] [(.int b3), (.int c3)]) (fun _ k => XS.iload X68.here hx rfl (hb hby at_321) rfl k) ?_
            by_cases hq3 : c3 = b3
            · refine own_to (T' := T68) (mkF m 326 #[iv p0, iv p1, iv p2, iv d3, iv 1, iv 0, iv b0, iv b1, iv b2, iv b3, iv c0, iv c1, iv c2, iv c3, rv b50, rv b58, rv b66, .unset, .unset] []) (fun _ k => XS.icmpNo X68.here hx rfl (hb hby at_323) rfl (teq hq3).2 k) ?_
              refine own_to (T' := T68) (mkF m 327 #[iv p0, iv p1, iv p2, iv d3, iv 1, iv 0, iv b0, iv b1, iv b2, iv b3, iv c0, iv c1, iv c2, iv c3, rv b50, rv b58, rv b66, .unset, .unset] [(.int (1 : Int32))]) (fun _ k => XS.iconst X68.here hx rfl (hb hby at_326) k) ?_
              refine own_to (T' := T68) (mkF m 331 #[iv p0, iv p1, iv p2, iv d3, iv 1, iv 0, iv b0, iv b1, iv b2, iv b3, iv c0, iv c1, iv c2, iv c3, rv b50, rv b58, rv b66, .unset, .unset] [(.int (1 : Int32))]) (fun _ k => XS.goto X68.here hx rfl (pc0 := 327) (pc' := 331) rfl (hb hby at_327) (by decide) (by decide) k) ?_
              refine own_to (T' := T68) (mkF m 333 #[iv p0, iv p1, iv p2, iv d3, iv 1, iv 0, iv b0, iv b1, iv b2, iv b3, iv c0, iv c1, iv c2, iv c3, rv b50, rv b58, rv b66, iv 1, .unset] []) (fun _ k => XS.istore X68.here hx rfl (hb hby at_331) rfl (l' := #[iv p0, iv p1, iv p2, iv d3, iv 1, iv 0, iv b0, iv b1, iv b2, iv b3, iv c0, iv c1, iv c2, iv c3, rv b50, rv b58, rv b66, iv 1, .unset]) rfl k) ?_
              rcases own_01 hd3t hd3f with q | q
              · subst q
                refine own_to (T' := T68) (mkF m 334 #[iv p0, iv p1, iv p2, iv 0, iv 1, iv 0, iv b0, iv b1, iv b2, iv b3, iv c0, iv c1, iv c2, iv c3, rv b50, rv b58, rv b66, iv 1, .unset] [(.int (0 : Int32))]) (fun _ k => XS.iloadN X68.here hx rfl (hb hby at_333) rfl k) ?_
                refine own_to (T' := T68) (mkF m 337 #[iv p0, iv p1, iv p2, iv 0, iv 1, iv 0, iv b0, iv b1, iv b2, iv b3, iv c0, iv c1, iv c2, iv c3, rv b50, rv b58, rv b66, iv 1, .unset] []) (fun _ k => XS.ifNo X68.here hx rfl (hb hby at_334) rfl ((if0 _ _).trans (teq (by decide : (0 : Int32) = (0 : Int32))).2) k) ?_
                refine own_to (T' := T68) (mkF m 339 #[iv p0, iv p1, iv p2, iv 0, iv 1, iv 0, iv b0, iv b1, iv b2, iv b3, iv c0, iv c1, iv c2, iv c3, rv b50, rv b58, rv b66, iv 1, .unset] [(.int (1 : Int32))]) (fun _ k => XS.iload X68.here hx rfl (hb hby at_337) rfl k) ?_
                refine own_to (T' := T68) (mkF m 342 #[iv p0, iv p1, iv p2, iv 0, iv 1, iv 0, iv b0, iv b1, iv b2, iv b3, iv c0, iv c1, iv c2, iv c3, rv b50, rv b58, rv b66, iv 1, .unset] []) (fun _ k => XS.ifNo X68.here hx rfl (hb hby at_339) rfl ((if0 _ _).trans (feq (by decide : ¬ ((1 : Int32) = (0 : Int32)))).1) k) ?_
                refine own_to (T' := T68) (mkF m 343 #[iv p0, iv p1, iv p2, iv 0, iv 1, iv 0, iv b0, iv b1, iv b2, iv b3, iv c0, iv c1, iv c2, iv c3, rv b50, rv b58, rv b66, iv 1, .unset] [(.int (1 : Int32))]) (fun _ k => XS.iconst X68.here hx rfl (hb hby at_342) k) ?_
                refine own_to (T' := T68) (mkF m 347 #[iv p0, iv p1, iv p2, iv 0, iv 1, iv 0, iv b0, iv b1, iv b2, iv b3, iv c0, iv c1, iv c2, iv c3, rv b50, rv b58, rv b66, iv 1, .unset] [(.int (1 : Int32))]) (fun _ k => XS.goto X68.here hx rfl (pc0 := 343) (pc' := 347) rfl (hb hby at_343) (by decide) (by decide) k) ?_
                refine own_to (T' := T68) (mkF m 349 #[iv p0, iv p1, iv p2, iv 0, iv 1, iv 0, iv b0, iv b1, iv b2, iv b3, iv c0, iv c1, iv c2, iv c3, rv b50, rv b58, rv b66, iv 1, iv 1] []) (fun _ k => XS.istore X68.here hx rfl (hb hby at_347) rfl (l' := #[iv p0, iv p1, iv p2, iv 0, iv 1, iv 0, iv b0, iv b1, iv b2, iv b3, iv c0, iv c1, iv c2, iv c3, rv b50, rv b58, rv b66, iv 1, iv 1]) rfl k) ?_
                refine own_to (T' := T68) (mkF m 351 #[iv p0, iv p1, iv p2, iv 0, iv 1, iv 0, iv b0, iv b1, iv b2, iv b3, iv c0, iv c1, iv c2, iv c3, rv b50, rv b58, rv b66, iv 1, iv 1] [(.ref b66)]) (fun _ k => XS.aload X68.here hx rfl (hb hby at_349) rfl rfl k) ?_
                refine own_to (T' := T68) (mkF m 353 #[iv p0, iv p1, iv p2, iv 0, iv 1, iv 0, iv b0, iv b1, iv b2, iv b3, iv c0, iv c1, iv c2, iv c3, rv b50, rv b58, rv b66, iv 1, iv 1] [(.ref b58), (.ref b66)]) (fun _ k => XS.aload X68.here hx rfl (hb hby at_351) rfl rfl k) ?_
                obtain ⟨cq77, kq77, q77a, q77b, q77c⟩ := isOf hZ rfl EC
                obtain ⟨_, _, ⟨T77, L77, k77, n77⟩, -, X77, ⟨Lc77, hQ77, l77, y77, z77⟩, st77⟩ := X68.virtualBack hx (y := (⟨"com/example/saldera/saldera/coupon/Cashier", "mayCollect", "(Ljava/lang/String;)Z"⟩ : MethodName)) (z := (⟨"com/example/saldera/saldera/coupon/Cashier", "mayCollect", "(Ljava/lang/String;)Z"⟩ : MethodName)) hown (mvT hZ (hw _ (List.mem_of_getElem? (i := 46) rfl))) (mvT hZ (hw _ (List.mem_of_getElem? (i := 47) rfl))) (notFace_of_selects (args := #[]) (mvT hZ (hw _ (List.mem_of_getElem? (i := 49) rfl)))) (mvT hZ (hw _ (List.mem_of_getElem? (i := 49) rfl))) (mvT hZ (hw _ (List.mem_of_getElem? (i := 48) rfl))) (by decide) (backOf (W := 0) (own_rmMB l Z a0 hw [] G1 b66 b58 t_co kb_co ([c0, c1, c2, c3] : List Int32) b50 t_br kb_br ([b0, b1, b2, b3] : List Int32) T68.heap n0 (Nat.le_trans Z0 KP.1) OL FX FB EC S_co S_br O2 P5) hZ (hw _ (List.mem_of_getElem? (i := 50) rfl)) (hw _ (List.mem_of_getElem? (i := 32) rfl)) (by decide) (by decide)) q77a q77c (g := (mkF m 353 #[iv p0, iv p1, iv p2, iv 0, iv 1, iv 0, iv b0, iv b1, iv b2, iv b3, iv c0, iv c1, iv c2, iv c3, rv b50, rv b58, rv b66, iv 1, iv 1] [(.ref b58), (.ref b66)])) rfl (by rw [hml]; rfl) (Steps.refl _) (argsL := [(.ref b58)]) (rest := []) (lenOf own_pd1 rfl) rfl (by show 2 * 0 + _ ≤ _; exact Nat.le_of_eq rfl) (hb hby at_353) (fun _ _ => ⟨rfl, rfl, (by decide : 9 + 0 ≤ _), (by decide : 35 + 0 ≤ _)⟩)
                dsimp only [Pt.U, Pt.locs, Pt.cells, Pt.slots] at X77 l77 y77 z77 st77 hQ77
                subst l77 y77 z77
                obtain ⟨r77, rfl, h177, h077, N77q, e77⟩ := hQ77
                have N77 := Fr.app N68 N77q
                refine own_via (mkF m 356 #[iv p0, iv p1, iv p2, iv 0, iv 1, iv 0, iv b0, iv b1, iv b2, iv b3, iv c0, iv c1, iv c2, iv c3, rv b50, rv b58, rv b66, iv 1, iv 1] [(.int r77)]) st77 ?_
                have hr77 : r77 = (1 : Int32) := h177 (by rw [hq0, hq1, hq2, hq3])
                subst hr77
                refine own_to (T' := T77) (mkF m 358 #[iv p0, iv p1, iv p2, iv 0, iv 1, iv 0, iv b0, iv b1, iv b2, iv b3, iv c0, iv c1, iv c2, iv c3, rv b50, rv b58, rv b66, iv 1, iv 1] [(.int (1 : Int32)), (.int (1 : Int32))]) (fun _ k => XS.iload X77.here hx rfl (hb hby at_356) rfl k) ?_
                refine own_to (T' := T77) (mkF m 361 #[iv p0, iv p1, iv p2, iv 0, iv 1, iv 0, iv b0, iv b1, iv b2, iv b3, iv c0, iv c1, iv c2, iv c3, rv b50, rv b58, rv b66, iv 1, iv 1] []) (fun _ k => XS.icmpNo X77.here hx rfl (hb hby at_358) rfl (teq (by decide : (1 : Int32) = (1 : Int32))).2 k) ?_
                refine own_to (T' := T77) (mkF m 362 #[iv p0, iv p1, iv p2, iv 0, iv 1, iv 0, iv b0, iv b1, iv b2, iv b3, iv c0, iv c1, iv c2, iv c3, rv b50, rv b58, rv b66, iv 1, iv 1] [(.int (1 : Int32))]) (fun _ k => XS.iconst X77.here hx rfl (hb hby at_361) k) ?_
                refine own_to (T' := T77) (mkF m 366 #[iv p0, iv p1, iv p2, iv 0, iv 1, iv 0, iv b0, iv b1, iv b2, iv b3, iv c0, iv c1, iv c2, iv c3, rv b50, rv b58, rv b66, iv 1, iv 1] [(.int (1 : Int32))]) (fun _ k => XS.goto X77.here hx rfl (pc0 := 362) (pc' := 366) rfl (hb hby at_362) (by decide) (by decide) k) ?_
                exact own_retNW (s := s) (vm₁ := T67.vm) X77 hS (by rw [e77]; exact hk1) hx (t := .boolean) Bd.returns (by simp) hlk (hb hby at_366) (by decide) (by decide) (by rw [e77]; exact ⟨rfl, N77⟩)
              · subst q
                refine own_to (T' := T68) (mkF m 334 #[iv p0, iv p1, iv p2, iv 1, iv 1, iv 0, iv b0, iv b1, iv b2, iv b3, iv c0, iv c1, iv c2, iv c3, rv b50, rv b58, rv b66, iv 1, .unset] [(.int (1 : Int32))]) (fun _ k => XS.iloadN X68.here hx rfl (hb hby at_333) rfl k) ?_
                refine own_to (T' := T68) (mkF m 342 #[iv p0, iv p1, iv p2, iv 1, iv 1, iv 0, iv b0, iv b1, iv b2, iv b3, iv c0, iv c1, iv c2, iv c3, rv b50, rv b58, rv b66, iv 1, .unset] []) (fun _ k => XS.ifYes X68.here hx rfl (pc0 := 334) (pc' := 342) rfl (hb hby at_334) rfl ((if0 _ _).trans (feq (by decide : ¬ ((1 : Int32) = (0 : Int32)))).2) (by decide) (by decide) k) ?_
                refine own_to (T' := T68) (mkF m 343 #[iv p0, iv p1, iv p2, iv 1, iv 1, iv 0, iv b0, iv b1, iv b2, iv b3, iv c0, iv c1, iv c2, iv c3, rv b50, rv b58, rv b66, iv 1, .unset] [(.int (1 : Int32))]) (fun _ k => XS.iconst X68.here hx rfl (hb hby at_342) k) ?_
                refine own_to (T' := T68) (mkF m 347 #[iv p0, iv p1, iv p2, iv 1, iv 1, iv 0, iv b0, iv b1, iv b2, iv b3, iv c0, iv c1, iv c2, iv c3, rv b50, rv b58, rv b66, iv 1, .unset] [(.int (1 : Int32))]) (fun _ k => XS.goto X68.here hx rfl (pc0 := 343) (pc' := 347) rfl (hb hby at_343) (by decide) (by decide) k) ?_
                refine own_to (T' := T68) (mkF m 349 #[iv p0, iv p1, iv p2, iv 1, iv 1, iv 0, iv b0, iv b1, iv b2, iv b3, iv c0, iv c1, iv c2, iv c3, rv b50, rv b58, rv b66, iv 1, iv 1] []) (fun _ k => XS.istore X68.here hx rfl (hb hby at_347) rfl (l' := #[iv p0, iv p1, iv p2, iv 1, iv 1, iv 0, iv b0, iv b1, iv b2, iv b3, iv c0, iv c1, iv c2, iv c3, rv b50, rv b58, rv b66, iv 1, iv 1]) rfl k) ?_
                refine own_to (T' := T68) (mkF m 351 #[iv p0, iv p1, iv p2, iv 1, iv 1, iv 0, iv b0, iv b1, iv b2, iv b3, iv c0, iv c1, iv c2, iv c3, rv b50, rv b58, rv b66, iv 1, iv 1] [(.ref b66)]) (fun _ k => XS.aload X68.here hx rfl (hb hby at_349) rfl rfl k) ?_
                refine own_to (T' := T68) (mkF m 353 #[iv p0, iv p1, iv p2, iv 1, iv 1, iv 0, iv b0, iv b1, iv b2, iv b3, iv c0, iv c1, iv c2, iv c3, rv b50, rv b58, rv b66, iv 1, iv 1] [(.ref b58), (.ref b66)]) (fun _ k => XS.aload X68.here hx rfl (hb hby at_351) rfl rfl k) ?_
                obtain ⟨cq78, kq78, q78a, q78b, q78c⟩ := isOf hZ rfl EC
                obtain ⟨_, _, ⟨T78, L78, k78, n78⟩, -, X78, ⟨Lc78, hQ78, l78, y78, z78⟩, st78⟩ := X68.virtualBack hx (y := (⟨"com/example/saldera/saldera/coupon/Cashier", "mayCollect", "(Ljava/lang/String;)Z"⟩ : MethodName)) (z := (⟨"com/example/saldera/saldera/coupon/Cashier", "mayCollect", "(Ljava/lang/String;)Z"⟩ : MethodName)) hown (mvT hZ (hw _ (List.mem_of_getElem? (i := 46) rfl))) (mvT hZ (hw _ (List.mem_of_getElem? (i := 47) rfl))) (notFace_of_selects (args := #[]) (mvT hZ (hw _ (List.mem_of_getElem? (i := 49) rfl)))) (mvT hZ (hw _ (List.mem_of_getElem? (i := 49) rfl))) (mvT hZ (hw _ (List.mem_of_getElem? (i := 48) rfl))) (by decide) (backOf (W := 0) (own_rmMX l Z a0 hw [] b66 b58 T68.heap n0 (Nat.le_trans Z0 KP.1) OL FX) hZ (hw _ (List.mem_of_getElem? (i := 50) rfl)) (hw _ (List.mem_of_getElem? (i := 32) rfl)) (by decide) (by decide)) q78a q78c (g := (mkF m 353 #[iv p0, iv p1, iv p2, iv 1, iv 1, iv 0, iv b0, iv b1, iv b2, iv b3, iv c0, iv c1, iv c2, iv c3, rv b50, rv b58, rv b66, iv 1, iv 1] [(.ref b58), (.ref b66)])) rfl (by rw [hml]; rfl) (Steps.refl _) (argsL := [(.ref b58)]) (rest := []) (lenOf own_pd1 rfl) rfl (by show 2 * 0 + _ ≤ _; exact Nat.le_of_eq rfl) (hb hby at_353) (fun _ _ => ⟨rfl, rfl, (by decide : 9 + 0 ≤ _), (by decide : 35 + 0 ≤ _)⟩)
                dsimp only [Pt.U, Pt.locs, Pt.cells, Pt.slots] at X78 l78 y78 z78 st78 hQ78
                subst l78 y78 z78
                obtain ⟨rfl, N78q, e78⟩ := hQ78
                have N78 := Fr.app N68 N78q
                refine own_via (mkF m 356 #[iv p0, iv p1, iv p2, iv 1, iv 1, iv 0, iv b0, iv b1, iv b2, iv b3, iv c0, iv c1, iv c2, iv c3, rv b50, rv b58, rv b66, iv 1, iv 1] [(.int (1 : Int32))]) st78 ?_
                refine own_to (T' := T78) (mkF m 358 #[iv p0, iv p1, iv p2, iv 1, iv 1, iv 0, iv b0, iv b1, iv b2, iv b3, iv c0, iv c1, iv c2, iv c3, rv b50, rv b58, rv b66, iv 1, iv 1] [(.int (1 : Int32)), (.int (1 : Int32))]) (fun _ k => XS.iload X78.here hx rfl (hb hby at_356) rfl k) ?_
                refine own_to (T' := T78) (mkF m 361 #[iv p0, iv p1, iv p2, iv 1, iv 1, iv 0, iv b0, iv b1, iv b2, iv b3, iv c0, iv c1, iv c2, iv c3, rv b50, rv b58, rv b66, iv 1, iv 1] []) (fun _ k => XS.icmpNo X78.here hx rfl (hb hby at_358) rfl (teq (by decide : (1 : Int32) = (1 : Int32))).2 k) ?_
                refine own_to (T' := T78) (mkF m 362 #[iv p0, iv p1, iv p2, iv 1, iv 1, iv 0, iv b0, iv b1, iv b2, iv b3, iv c0, iv c1, iv c2, iv c3, rv b50, rv b58, rv b66, iv 1, iv 1] [(.int (1 : Int32))]) (fun _ k => XS.iconst X78.here hx rfl (hb hby at_361) k) ?_
                refine own_to (T' := T78) (mkF m 366 #[iv p0, iv p1, iv p2, iv 1, iv 1, iv 0, iv b0, iv b1, iv b2, iv b3, iv c0, iv c1, iv c2, iv c3, rv b50, rv b58, rv b66, iv 1, iv 1] [(.int (1 : Int32))]) (fun _ k => XS.goto X78.here hx rfl (pc0 := 362) (pc' := 366) rfl (hb hby at_362) (by decide) (by decide) k) ?_
                exact own_retNW (s := s) (vm₁ := T67.vm) X78 hS (by rw [e78]; exact hk1) hx (t := .boolean) Bd.returns (by simp) hlk (hb hby at_366) (by decide) (by decide) (by rw [e78]; exact ⟨rfl, N78⟩)
            · refine own_to (T' := T68) (mkF m 330 #[iv p0, iv p1, iv p2, iv d3, iv 1, iv 0, iv b0, iv b1, iv b2, iv b3, iv c0, iv c1, iv c2, iv c3, rv b50, rv b58, rv b66, .unset, .unset] []) (fun _ k => XS.icmpYes X68.here hx rfl (pc0 := 323) (pc' := 330) rfl (hb hby at_323) rfl (feq hq3).2 (by decide) (by decide) k) ?_
              refine own_to (T' := T68) (mkF m 331 #[iv p0, iv p1, iv p2, iv d3, iv 1, iv 0, iv b0, iv b1, iv b2, iv b3, iv c0, iv c1, iv c2, iv c3, rv b50, rv b58, rv b66, .unset, .unset] [(.int (0 : Int32))]) (fun _ k => XS.iconst X68.here hx rfl (hb hby at_330) k) ?_
              refine own_to (T' := T68) (mkF m 333 #[iv p0, iv p1, iv p2, iv d3, iv 1, iv 0, iv b0, iv b1, iv b2, iv b3, iv c0, iv c1, iv c2, iv c3, rv b50, rv b58, rv b66, iv 0, .unset] []) (fun _ k => XS.istore X68.here hx rfl (hb hby at_331) rfl (l' := #[iv p0, iv p1, iv p2, iv d3, iv 1, iv 0, iv b0, iv b1, iv b2, iv b3, iv c0, iv c1, iv c2, iv c3, rv b50, rv b58, rv b66, iv 0, .unset]) rfl k) ?_
              rcases own_01 hd3t hd3f with q | q
              · subst q
                refine own_to (T' := T68) (mkF m 334 #[iv p0, iv p1, iv p2, iv 0, iv 1, iv 0, iv b0, iv b1, iv b2, iv b3, iv c0, iv c1, iv c2, iv c3, rv b50, rv b58, rv b66, iv 0, .unset] [(.int (0 : Int32))]) (fun _ k => XS.iloadN X68.here hx rfl (hb hby at_333) rfl k) ?_
                refine own_to (T' := T68) (mkF m 337 #[iv p0, iv p1, iv p2, iv 0, iv 1, iv 0, iv b0, iv b1, iv b2, iv b3, iv c0, iv c1, iv c2, iv c3, rv b50, rv b58, rv b66, iv 0, .unset] []) (fun _ k => XS.ifNo X68.here hx rfl (hb hby at_334) rfl ((if0 _ _).trans (teq (by decide : (0 : Int32) = (0 : Int32))).2) k) ?_
                refine own_to (T' := T68) (mkF m 339 #[iv p0, iv p1, iv p2, iv 0, iv 1, iv 0, iv b0, iv b1, iv b2, iv b3, iv c0, iv c1, iv c2, iv c3, rv b50, rv b58, rv b66, iv 0, .unset] [(.int (0 : Int32))]) (fun _ k => XS.iload X68.here hx rfl (hb hby at_337) rfl k) ?_
                refine own_to (T' := T68) (mkF m 346 #[iv p0, iv p1, iv p2, iv 0, iv 1, iv 0, iv b0, iv b1, iv b2, iv b3, iv c0, iv c1, iv c2, iv c3, rv b50, rv b58, rv b66, iv 0, .unset] []) (fun _ k => XS.ifYes X68.here hx rfl (pc0 := 339) (pc' := 346) rfl (hb hby at_339) rfl ((if0 _ _).trans (teq (by decide : (0 : Int32) = (0 : Int32))).1) (by decide) (by decide) k) ?_
                refine own_to (T' := T68) (mkF m 347 #[iv p0, iv p1, iv p2, iv 0, iv 1, iv 0, iv b0, iv b1, iv b2, iv b3, iv c0, iv c1, iv c2, iv c3, rv b50, rv b58, rv b66, iv 0, .unset] [(.int (0 : Int32))]) (fun _ k => XS.iconst X68.here hx rfl (hb hby at_346) k) ?_
                refine own_to (T' := T68) (mkF m 349 #[iv p0, iv p1, iv p2, iv 0, iv 1, iv 0, iv b0, iv b1, iv b2, iv b3, iv c0, iv c1, iv c2, iv c3, rv b50, rv b58, rv b66, iv 0, iv 0] []) (fun _ k => XS.istore X68.here hx rfl (hb hby at_347) rfl (l' := #[iv p0, iv p1, iv p2, iv 0, iv 1, iv 0, iv b0, iv b1, iv b2, iv b3, iv c0, iv c1, iv c2, iv c3, rv b50, rv b58, rv b66, iv 0, iv 0]) rfl k) ?_
                refine own_to (T' := T68) (mkF m 351 #[iv p0, iv p1, iv p2, iv 0, iv 1, iv 0, iv b0, iv b1, iv b2, iv b3, iv c0, iv c1, iv c2, iv c3, rv b50, rv b58, rv b66, iv 0, iv 0] [(.ref b66)]) (fun _ k => XS.aload X68.here hx rfl (hb hby at_349) rfl rfl k) ?_
                refine own_to (T' := T68) (mkF m 353 #[iv p0, iv p1, iv p2, iv 0, iv 1, iv 0, iv b0, iv b1, iv b2, iv b3, iv c0, iv c1, iv c2, iv c3, rv b50, rv b58, rv b66, iv 0, iv 0] [(.ref b58), (.ref b66)]) (fun _ k => XS.aload X68.here hx rfl (hb hby at_351) rfl rfl k) ?_
                obtain ⟨cq75, kq75, q75a, q75b, q75c⟩ := isOf hZ rfl EC
                obtain ⟨_, _, ⟨T75, L75, k75, n75⟩, -, X75, ⟨Lc75, hQ75, l75, y75, z75⟩, st75⟩ := X68.virtualBack hx (y := (⟨"com/example/saldera/saldera/coupon/Cashier", "mayCollect", "(Ljava/lang/String;)Z"⟩ : MethodName)) (z := (⟨"com/example/saldera/saldera/coupon/Cashier", "mayCollect", "(Ljava/lang/String;)Z"⟩ : MethodName)) hown (mvT hZ (hw _ (List.mem_of_getElem? (i := 46) rfl))) (mvT hZ (hw _ (List.mem_of_getElem? (i := 47) rfl))) (notFace_of_selects (args := #[]) (mvT hZ (hw _ (List.mem_of_getElem? (i := 49) rfl)))) (mvT hZ (hw _ (List.mem_of_getElem? (i := 49) rfl))) (mvT hZ (hw _ (List.mem_of_getElem? (i := 48) rfl))) (by decide) (backOf (W := 0) (own_rmMB l Z a0 hw [] G1 b66 b58 t_co kb_co ([c0, c1, c2, c3] : List Int32) b50 t_br kb_br ([b0, b1, b2, b3] : List Int32) T68.heap n0 (Nat.le_trans Z0 KP.1) OL FX FB EC S_co S_br O2 P5) hZ (hw _ (List.mem_of_getElem? (i := 50) rfl)) (hw _ (List.mem_of_getElem? (i := 32) rfl)) (by decide) (by decide)) q75a q75c (g := (mkF m 353 #[iv p0, iv p1, iv p2, iv 0, iv 1, iv 0, iv b0, iv b1, iv b2, iv b3, iv c0, iv c1, iv c2, iv c3, rv b50, rv b58, rv b66, iv 0, iv 0] [(.ref b58), (.ref b66)])) rfl (by rw [hml]; rfl) (Steps.refl _) (argsL := [(.ref b58)]) (rest := []) (lenOf own_pd1 rfl) rfl (by show 2 * 0 + _ ≤ _; exact Nat.le_of_eq rfl) (hb hby at_353) (fun _ _ => ⟨rfl, rfl, (by decide : 9 + 0 ≤ _), (by decide : 35 + 0 ≤ _)⟩)
                dsimp only [Pt.U, Pt.locs, Pt.cells, Pt.slots] at X75 l75 y75 z75 st75 hQ75
                subst l75 y75 z75
                obtain ⟨r75, rfl, h175, h075, N75q, e75⟩ := hQ75
                have N75 := Fr.app N68 N75q
                refine own_via (mkF m 356 #[iv p0, iv p1, iv p2, iv 0, iv 1, iv 0, iv b0, iv b1, iv b2, iv b3, iv c0, iv c1, iv c2, iv c3, rv b50, rv b58, rv b66, iv 0, iv 0] [(.int r75)]) st75 ?_
                have hr75 : r75 = (0 : Int32) := h075 (fun q => hq3 (List.cons.inj (List.cons.inj (List.cons.inj (List.cons.inj q).2).2).2).1)
                subst hr75
                refine own_to (T' := T75) (mkF m 358 #[iv p0, iv p1, iv p2, iv 0, iv 1, iv 0, iv b0, iv b1, iv b2, iv b3, iv c0, iv c1, iv c2, iv c3, rv b50, rv b58, rv b66, iv 0, iv 0] [(.int (0 : Int32)), (.int (0 : Int32))]) (fun _ k => XS.iload X75.here hx rfl (hb hby at_356) rfl k) ?_
                refine own_to (T' := T75) (mkF m 361 #[iv p0, iv p1, iv p2, iv 0, iv 1, iv 0, iv b0, iv b1, iv b2, iv b3, iv c0, iv c1, iv c2, iv c3, rv b50, rv b58, rv b66, iv 0, iv 0] []) (fun _ k => XS.icmpNo X75.here hx rfl (hb hby at_358) rfl (teq (by decide : (0 : Int32) = (0 : Int32))).2 k) ?_
                refine own_to (T' := T75) (mkF m 362 #[iv p0, iv p1, iv p2, iv 0, iv 1, iv 0, iv b0, iv b1, iv b2, iv b3, iv c0, iv c1, iv c2, iv c3, rv b50, rv b58, rv b66, iv 0, iv 0] [(.int (1 : Int32))]) (fun _ k => XS.iconst X75.here hx rfl (hb hby at_361) k) ?_
                refine own_to (T' := T75) (mkF m 366 #[iv p0, iv p1, iv p2, iv 0, iv 1, iv 0, iv b0, iv b1, iv b2, iv b3, iv c0, iv c1, iv c2, iv c3, rv b50, rv b58, rv b66, iv 0, iv 0] [(.int (1 : Int32))]) (fun _ k => XS.goto X75.here hx rfl (pc0 := 362) (pc' := 366) rfl (hb hby at_362) (by decide) (by decide) k) ?_
                exact own_retNW (s := s) (vm₁ := T67.vm) X75 hS (by rw [e75]; exact hk1) hx (t := .boolean) Bd.returns (by simp) hlk (hb hby at_366) (by decide) (by decide) (by rw [e75]; exact ⟨rfl, N75⟩)
              · subst q
                refine own_to (T' := T68) (mkF m 334 #[iv p0, iv p1, iv p2, iv 1, iv 1, iv 0, iv b0, iv b1, iv b2, iv b3, iv c0, iv c1, iv c2, iv c3, rv b50, rv b58, rv b66, iv 0, .unset] [(.int (1 : Int32))]) (fun _ k => XS.iloadN X68.here hx rfl (hb hby at_333) rfl k) ?_
                refine own_to (T' := T68) (mkF m 342 #[iv p0, iv p1, iv p2, iv 1, iv 1, iv 0, iv b0, iv b1, iv b2, iv b3, iv c0, iv c1, iv c2, iv c3, rv b50, rv b58, rv b66, iv 0, .unset] []) (fun _ k => XS.ifYes X68.here hx rfl (pc0 := 334) (pc' := 342) rfl (hb hby at_334) rfl ((if0 _ _).trans (feq (by decide : ¬ ((1 : Int32) = (0 : Int32)))).2) (by decide) (by decide) k) ?_
                refine own_to (T' := T68) (mkF m 343 #[iv p0, iv p1, iv p2, iv 1, iv 1, iv 0, iv b0, iv b1, iv b2, iv b3, iv c0, iv c1, iv c2, iv c3, rv b50, rv b58, rv b66, iv 0, .unset] [(.int (1 : Int32))]) (fun _ k => XS.iconst X68.here hx rfl (hb hby at_342) k) ?_
                refine own_to (T' := T68) (mkF m 347 #[iv p0, iv p1, iv p2, iv 1, iv 1, iv 0, iv b0, iv b1, iv b2, iv b3, iv c0, iv c1, iv c2, iv c3, rv b50, rv b58, rv b66, iv 0, .unset] [(.int (1 : Int32))]) (fun _ k => XS.goto X68.here hx rfl (pc0 := 343) (pc' := 347) rfl (hb hby at_343) (by decide) (by decide) k) ?_
                refine own_to (T' := T68) (mkF m 349 #[iv p0, iv p1, iv p2, iv 1, iv 1, iv 0, iv b0, iv b1, iv b2, iv b3, iv c0, iv c1, iv c2, iv c3, rv b50, rv b58, rv b66, iv 0, iv 1] []) (fun _ k => XS.istore X68.here hx rfl (hb hby at_347) rfl (l' := #[iv p0, iv p1, iv p2, iv 1, iv 1, iv 0, iv b0, iv b1, iv b2, iv b3, iv c0, iv c1, iv c2, iv c3, rv b50, rv b58, rv b66, iv 0, iv 1]) rfl k) ?_
                refine own_to (T' := T68) (mkF m 351 #[iv p0, iv p1, iv p2, iv 1, iv 1, iv 0, iv b0, iv b1, iv b2, iv b3, iv c0, iv c1, iv c2, iv c3, rv b50, rv b58, rv b66, iv 0, iv 1] [(.ref b66)]) (fun _ k => XS.aload X68.here hx rfl (hb hby at_349) rfl rfl k) ?_
                refine own_to (T' := T68) (mkF m 353 #[iv p0, iv p1, iv p2, iv 1, iv 1, iv 0, iv b0, iv b1, iv b2, iv b3, iv c0, iv c1, iv c2, iv c3, rv b50, rv b58, rv b66, iv 0, iv 1] [(.ref b58), (.ref b66)]) (fun _ k => XS.aload X68.here hx rfl (hb hby at_351) rfl rfl k) ?_
                obtain ⟨cq76, kq76, q76a, q76b, q76c⟩ := isOf hZ rfl EC
                obtain ⟨_, _, ⟨T76, L76, k76, n76⟩, -, X76, ⟨Lc76, hQ76, l76, y76, z76⟩, st76⟩ := X68.virtualBack hx (y := (⟨"com/example/saldera/saldera/coupon/Cashier", "mayCollect", "(Ljava/lang/String;)Z"⟩ : MethodName)) (z := (⟨"com/example/saldera/saldera/coupon/Cashier", "mayCollect", "(Ljava/lang/String;)Z"⟩ : MethodName)) hown (mvT hZ (hw _ (List.mem_of_getElem? (i := 46) rfl))) (mvT hZ (hw _ (List.mem_of_getElem? (i := 47) rfl))) (notFace_of_selects (args := #[]) (mvT hZ (hw _ (List.mem_of_getElem? (i := 49) rfl)))) (mvT hZ (hw _ (List.mem_of_getElem? (i := 49) rfl))) (mvT hZ (hw _ (List.mem_of_getElem? (i := 48) rfl))) (by decide) (backOf (W := 0) (own_rmMX l Z a0 hw [] b66 b58 T68.heap n0 (Nat.le_trans Z0 KP.1) OL FX) hZ (hw _ (List.mem_of_getElem? (i := 50) rfl)) (hw _ (List.mem_of_getElem? (i := 32) rfl)) (by decide) (by decide)) q76a q76c (g := (mkF m 353 #[iv p0, iv p1, iv p2, iv 1, iv 1, iv 0, iv b0, iv b1, iv b2, iv b3, iv c0, iv c1, iv c2, iv c3, rv b50, rv b58, rv b66, iv 0, iv 1] [(.ref b58), (.ref b66)])) rfl (by rw [hml]; rfl) (Steps.refl _) (argsL := [(.ref b58)]) (rest := []) (lenOf own_pd1 rfl) rfl (by show 2 * 0 + _ ≤ _; exact Nat.le_of_eq rfl) (hb hby at_353) (fun _ _ => ⟨rfl, rfl, (by decide : 9 + 0 ≤ _), (by decide : 35 + 0 ≤ _)⟩)
                dsimp only [Pt.U, Pt.locs, Pt.cells, Pt.slots] at X76 l76 y76 z76 st76 hQ76
                subst l76 y76 z76
                obtain ⟨rfl, N76q, e76⟩ := hQ76
                have N76 := Fr.app N68 N76q
                refine own_via (mkF m 356 #[iv p0, iv p1, iv p2, iv 1, iv 1, iv 0, iv b0, iv b1, iv b2, iv b3, iv c0, iv c1, iv c2, iv c3, rv b50, rv b58, rv b66, iv 0, iv 1] [(.int (1 : Int32))]) st76 ?_
                refine own_to (T' := T76) (mkF m 358 #[iv p0, iv p1, iv p2, iv 1, iv 1, iv 0, iv b0, iv b1, iv b2, iv b3, iv c0, iv c1, iv c2, iv c3, rv b50, rv b58, rv b66, iv 0, iv 1] [(.int (1 : Int32)), (.int (1 : Int32))]) (fun _ k => XS.iload X76.here hx rfl (hb hby at_356) rfl k) ?_
                refine own_to (T' := T76) (mkF m 361 #[iv p0, iv p1, iv p2, iv 1, iv 1, iv 0, iv b0, iv b1, iv b2, iv b3, iv c0, iv c1, iv c2, iv c3, rv b50, rv b58, rv b66, iv 0, iv 1] []) (fun _ k => XS.icmpNo X76.here hx rfl (hb hby at_358) rfl (teq (by decide : (1 : Int32) = (1 : Int32))).2 k) ?_
                refine own_to (T' := T76) (mkF m 362 #[iv p0, iv p1, iv p2, iv 1, iv 1, iv 0, iv b0, iv b1, iv b2, iv b3, iv c0, iv c1, iv c2, iv c3, rv b50, rv b58, rv b66, iv 0, iv 1] [(.int (1 : Int32))]) (fun _ k => XS.iconst X76.here hx rfl (hb hby at_361) k) ?_
                refine own_to (T' := T76) (mkF m 366 #[iv p0, iv p1, iv p2, iv 1, iv 1, iv 0, iv b0, iv b1, iv b2, iv b3, iv c0, iv c1, iv c2, iv c3, rv b50, rv b58, rv b66, iv 0, iv 1] [(.int (1 : Int32))]) (fun _ k => XS.goto X76.here hx rfl (pc0 := 362) (pc' := 366) rfl (hb hby at_362) (by decide) (by decide) k) ?_
                exact own_retNW (s := s) (vm₁ := T67.vm) X76 hS (by rw [e76]; exact hk1) hx (t := .boolean) Bd.returns (by simp) hlk (hb hby at_366) (by decide) (by decide) (by rw [e76]; exact ⟨rfl, N76⟩)
          · refine own_to (T' := T68) (mkF m 330 #[iv p0, iv p1, iv p2, iv d3, iv 1, iv 0, iv b0, iv b1, iv b2, iv b3, iv c0, iv c1, iv c2, iv c3, rv b50, rv b58, rv b66, .unset, .unset] []) (fun _ k => XS.icmpYes X68.here hx rfl (pc0 := 316) (pc' := 330) rfl (hb hby at_316) rfl (feq hq2).2 (by decide) (by decide) k) ?_
            refine own_to (T' := T68) (mkF m 331 #[iv p0, iv p1, iv p2, iv d3, iv 1, iv 0, iv b0, iv b1, iv b2, iv b3, iv c0, iv c1, iv c2, iv c3, rv b50, rv b58, rv b66, .unset, .unset] [(.int (0 : Int32))]) (fun _ k => XS.iconst X68.here hx rfl (hb hby at_330) k) ?_
            refine own_to (T' := T68) (mkF m 333 #[iv p0, iv p1, iv p2, iv d3, iv 1, iv 0, iv b0, iv b1, iv b2, iv b3, iv c0, iv c1, iv c2, iv c3, rv b50, rv b58, rv b66, iv 0, .unset] []) (fun _ k => XS.istore X68.here hx rfl (hb hby at_331) rfl (l' := #[iv p0, iv p1, iv p2, iv d3, iv 1, iv 0, iv b0, iv b1, iv b2, iv b3, iv c0, iv c1, iv c2, iv c3, rv b50, rv b58, rv b66, iv 0, .unset]) rfl k) ?_
            rcases own_01 hd3t hd3f with q | q
            · subst q
              refine own_to (T' := T68) (mkF m 334 #[iv p0, iv p1, iv p2, iv 0, iv 1, iv 0, iv b0, iv b1, iv b2, iv b3, iv c0, iv c1, iv c2, iv c3, rv b50, rv b58, rv b66, iv 0, .unset] [(.int (0 : Int32))]) (fun _ k => XS.iloadN X68.here hx rfl (hb hby at_333) rfl k) ?_
              refine own_to (T' := T68) (mkF m 337 #[iv p0, iv p1, iv p2, iv 0, iv 1, iv 0, iv b0, iv b1, iv b2, iv b3, iv c0, iv c1, iv c2, iv c3, rv b50, rv b58, rv b66, iv 0, .unset] []) (fun _ k => XS.ifNo X68.here hx rfl (hb hby at_334) rfl ((if0 _ _).trans (teq (by decide : (0 : Int32) = (0 : Int32))).2) k) ?_
              refine own_to (T' := T68) (mkF m 339 #[iv p0, iv p1, iv p2, iv 0, iv 1, iv 0, iv b0, iv b1, iv b2, iv b3, iv c0, iv c1, iv c2, iv c3, rv b50, rv b58, rv b66, iv 0, .unset] [(.int (0 : Int32))]) (fun _ k => XS.iload X68.here hx rfl (hb hby at_337) rfl k) ?_
              refine own_to (T' := T68) (mkF m 346 #[iv p0, iv p1, iv p2, iv 0, iv 1, iv 0, iv b0, iv b1, iv b2, iv b3, iv c0, iv c1, iv c2, iv c3, rv b50, rv b58, rv b66, iv 0, .unset] []) (fun _ k => XS.ifYes X68.here hx rfl (pc0 := 339) (pc' := 346) rfl (hb hby at_339) rfl ((if0 _ _).trans (teq (by decide : (0 : Int32) = (0 : Int32))).1) (by decide) (by decide) k) ?_
              refine own_to (T' := T68) (mkF m 347 #[iv p0, iv p1, iv p2, iv 0, iv 1, iv 0, iv b0, iv b1, iv b2, iv b3, iv c0, iv c1, iv c2, iv c3, rv b50, rv b58, rv b66, iv 0, .unset] [(.int (0 : Int32))]) (fun _ k => XS.iconst X68.here hx rfl (hb hby at_346) k) ?_
              refine own_to (T' := T68) (mkF m 349 #[iv p0, iv p1, iv p2, iv 0, iv 1, iv 0, iv b0, iv b1, iv b2, iv b3, iv c0, iv c1, iv c2, iv c3, rv b50, rv b58, rv b66, iv 0, iv 0] []) (fun _ k => XS.istore X68.here hx rfl (hb hby at_347) rfl (l' := #[iv p0, iv p1, iv p2, iv 0, iv 1, iv 0, iv b0, iv b1, iv b2, iv b3, iv c0, iv c1, iv c2, iv c3, rv b50, rv b58, rv b66, iv 0, iv 0]) rfl k) ?_
              refine own_to (T' := T68) (mkF m 351 #[iv p0, iv p1, iv p2, iv 0, iv 1, iv 0, iv b0, iv b1, iv b2, iv b3, iv c0, iv c1, iv c2, iv c3, rv b50, rv b58, rv b66, iv 0, iv 0] [(.ref b66)]) (fun _ k => XS.aload X68.here hx rfl (hb hby at_349) rfl rfl k) ?_
              refine own_to (T' := T68) (mkF m 353 #[iv p0, iv p1, iv p2, iv 0, iv 1, iv 0, iv b0, iv b1, iv b2, iv b3, iv c0, iv c1, iv c2, iv c3, rv b50, rv b58, rv b66, iv 0, iv 0] [(.ref b58), (.ref b66)]) (fun _ k => XS.aload X68.here hx rfl (hb hby at_351) rfl rfl k) ?_
              obtain ⟨cq73, kq73, q73a, q73b, q73c⟩ := isOf hZ rfl EC
              obtain ⟨_, _, ⟨T73, L73, k73, n73⟩, -, X73, ⟨Lc73, hQ73, l73, y73, z73⟩, st73⟩ := X68.virtualBack hx (y := (⟨"com/example/saldera/saldera/coupon/Cashier", "mayCollect", "(Ljava/lang/String;)Z"⟩ : MethodName)) (z := (⟨"com/example/saldera/saldera/coupon/Cashier", "mayCollect", "(Ljava/lang/String;)Z"⟩ : MethodName)) hown (mvT hZ (hw _ (List.mem_of_getElem? (i := 46) rfl))) (mvT hZ (hw _ (List.mem_of_getElem? (i := 47) rfl))) (notFace_of_selects (args := #[]) (mvT hZ (hw _ (List.mem_of_getElem? (i := 49) rfl)))) (mvT hZ (hw _ (List.mem_of_getElem? (i := 49) rfl))) (mvT hZ (hw _ (List.mem_of_getElem? (i := 48) rfl))) (by decide) (backOf (W := 0) (own_rmMB l Z a0 hw [] G1 b66 b58 t_co kb_co ([c0, c1, c2, c3] : List Int32) b50 t_br kb_br ([b0, b1, b2, b3] : List Int32) T68.heap n0 (Nat.le_trans Z0 KP.1) OL FX FB EC S_co S_br O2 P5) hZ (hw _ (List.mem_of_getElem? (i := 50) rfl)) (hw _ (List.mem_of_getElem? (i := 32) rfl)) (by decide) (by decide)) q73a q73c (g := (mkF m 353 #[iv p0, iv p1, iv p2, iv 0, iv 1, iv 0, iv b0, iv b1, iv b2, iv b3, iv c0, iv c1, iv c2, iv c3, rv b50, rv b58, rv b66, iv 0, iv 0] [(.ref b58), (.ref b66)])) rfl (by rw [hml]; rfl) (Steps.refl _) (argsL := [(.ref b58)]) (rest := []) (lenOf own_pd1 rfl) rfl (by show 2 * 0 + _ ≤ _; exact Nat.le_of_eq rfl) (hb hby at_353) (fun _ _ => ⟨rfl, rfl, (by decide : 9 + 0 ≤ _), (by decide : 35 + 0 ≤ _)⟩)
              dsimp only [Pt.U, Pt.locs, Pt.cells, Pt.slots] at X73 l73 y73 z73 st73 hQ73
              subst l73 y73 z73
              obtain ⟨r73, rfl, h173, h073, N73q, e73⟩ := hQ73
              have N73 := Fr.app N68 N73q
              refine own_via (mkF m 356 #[iv p0, iv p1, iv p2, iv 0, iv 1, iv 0, iv b0, iv b1, iv b2, iv b3, iv c0, iv c1, iv c2, iv c3, rv b50, rv b58, rv b66, iv 0, iv 0] [(.int r73)]) st73 ?_
              have hr73 : r73 = (0 : Int32) := h073 (fun q => hq2 (List.cons.inj (List.cons.inj (List.cons.inj q).2).2).1)
              subst hr73
              refine own_to (T' := T73) (mkF m 358 #[iv p0, iv p1, iv p2, iv 0, iv 1, iv 0, iv b0, iv b1, iv b2, iv b3, iv c0, iv c1, iv c2, iv c3, rv b50, rv b58, rv b66, iv 0, iv 0] [(.int (0 : Int32)), (.int (0 : Int32))]) (fun _ k => XS.iload X73.here hx rfl (hb hby at_356) rfl k) ?_
              refine own_to (T' := T73) (mkF m 361 #[iv p0, iv p1, iv p2, iv 0, iv 1, iv 0, iv b0, iv b1, iv b2, iv b3, iv c0, iv c1, iv c2, iv c3, rv b50, rv b58, rv b66, iv 0, iv 0] []) (fun _ k => XS.icmpNo X73.here hx rfl (hb hby at_358) rfl (teq (by decide : (0 : Int32) = (0 : Int32))).2 k) ?_
              refine own_to (T' := T73) (mkF m 362 #[iv p0, iv p1, iv p2, iv 0, iv 1, iv 0, iv b0, iv b1, iv b2, iv b3, iv c0, iv c1, iv c2, iv c3, rv b50, rv b58, rv b66, iv 0, iv 0] [(.int (1 : Int32))]) (fun _ k => XS.iconst X73.here hx rfl (hb hby at_361) k) ?_
              refine own_to (T' := T73) (mkF m 366 #[iv p0, iv p1, iv p2, iv 0, iv 1, iv 0, iv b0, iv b1, iv b2, iv b3, iv c0, iv c1, iv c2, iv c3, rv b50, rv b58, rv b66, iv 0, iv 0] [(.int (1 : Int32))]) (fun _ k => XS.goto X73.here hx rfl (pc0 := 362) (pc' := 366) rfl (hb hby at_362) (by decide) (by decide) k) ?_
              exact own_retNW (s := s) (vm₁ := T67.vm) X73 hS (by rw [e73]; exact hk1) hx (t := .boolean) Bd.returns (by simp) hlk (hb hby at_366) (by decide) (by decide) (by rw [e73]; exact ⟨rfl, N73⟩)
            · subst q
              refine own_to (T' := T68) (mkF m 334 #[iv p0, iv p1, iv p2, iv 1, iv 1, iv 0, iv b0, iv b1, iv b2, iv b3, iv c0, iv c1, iv c2, iv c3, rv b50, rv b58, rv b66, iv 0, .unset] [(.int (1 : Int32))]) (fun _ k => XS.iloadN X68.here hx rfl (hb hby at_333) rfl k) ?_
              refine own_to (T' := T68) (mkF m 342 #[iv p0, iv p1, iv p2, iv 1, iv 1, iv 0, iv b0, iv b1, iv b2, iv b3, iv c0, iv c1, iv c2, iv c3, rv b50, rv b58, rv b66, iv 0, .unset] []) (fun _ k => XS.ifYes X68.here hx rfl (pc0 := 334) (pc' := 342) rfl (hb hby at_334) rfl ((if0 _ _).trans (feq (by decide : ¬ ((1 : Int32) = (0 : Int32)))).2) (by decide) (by decide) k) ?_
              refine own_to (T' := T68) (mkF m 343 #[iv p0, iv p1, iv p2, iv 1, iv 1, iv 0, iv b0, iv b1, iv b2, iv b3, iv c0, iv c1, iv c2, iv c3, rv b50, rv b58, rv b66, iv 0, .unset] [(.int (1 : Int32))]) (fun _ k => XS.iconst X68.here hx rfl (hb hby at_342) k) ?_
              refine own_to (T' := T68) (mkF m 347 #[iv p0, iv p1, iv p2, iv 1, iv 1, iv 0, iv b0, iv b1, iv b2, iv b3, iv c0, iv c1, iv c2, iv c3, rv b50, rv b58, rv b66, iv 0, .unset] [(.int (1 : Int32))]) (fun _ k => XS.goto X68.here hx rfl (pc0 := 343) (pc' := 347) rfl (hb hby at_343) (by decide) (by decide) k) ?_
              refine own_to (T' := T68) (mkF m 349 #[iv p0, iv p1, iv p2, iv 1, iv 1, iv 0, iv b0, iv b1, iv b2, iv b3, iv c0, iv c1, iv c2, iv c3, rv b50, rv b58, rv b66, iv 0, iv 1] []) (fun _ k => XS.istore X68.here hx rfl (hb hby at_347) rfl (l' := #[iv p0, iv p1, iv p2, iv 1, iv 1, iv 0, iv b0, iv b1, iv b2, iv b3, iv c0, iv c1, iv c2, iv c3, rv b50, rv b58, rv b66, iv 0, iv 1]) rfl k) ?_
              refine own_to (T' := T68) (mkF m 351 #[iv p0, iv p1, iv p2, iv 1, iv 1, iv 0, iv b0, iv b1, iv b2, iv b3, iv c0, iv c1, iv c2, iv c3, rv b50, rv b58, rv b66, iv 0, iv 1] [(.ref b66)]) (fun _ k => XS.aload X68.here hx rfl (hb hby at_349) rfl rfl k) ?_
              refine own_to (T' := T68) (mkF m 353 #[iv p0, iv p1, iv p2, iv 1, iv 1, iv 0, iv b0, iv b1, iv b2, iv b3, iv c0, iv c1, iv c2, iv c3, rv b50, rv b58, rv b66, iv 0, iv 1] [(.ref b58), (.ref b66)]) (fun _ k => XS.aload X68.here hx rfl (hb hby at_351) rfl rfl k) ?_
              obtain ⟨cq74, kq74, q74a, q74b, q74c⟩ := isOf hZ rfl EC
              obtain ⟨_, _, ⟨T74, L74, k74, n74⟩, -, X74, ⟨Lc74, hQ74, l74, y74, z74⟩, st74⟩ := X68.virtualBack hx (y := (⟨"com/example/saldera/saldera/coupon/Cashier", "mayCollect", "(Ljava/lang/String;)Z"⟩ : MethodName)) (z := (⟨"com/example/saldera/saldera/coupon/Cashier", "mayCollect", "(Ljava/lang/String;)Z"⟩ : MethodName)) hown (mvT hZ (hw _ (List.mem_of_getElem? (i := 46) rfl))) (mvT hZ (hw _ (List.mem_of_getElem? (i := 47) rfl))) (notFace_of_selects (args := #[]) (mvT hZ (hw _ (List.mem_of_getElem? (i := 49) rfl)))) (mvT hZ (hw _ (List.mem_of_getElem? (i := 49) rfl))) (mvT hZ (hw _ (List.mem_of_getElem? (i := 48) rfl))) (by decide) (backOf (W := 0) (own_rmMX l Z a0 hw [] b66 b58 T68.heap n0 (Nat.le_trans Z0 KP.1) OL FX) hZ (hw _ (List.mem_of_getElem? (i := 50) rfl)) (hw _ (List.mem_of_getElem? (i := 32) rfl)) (by decide) (by decide)) q74a q74c (g := (mkF m 353 #[iv p0, iv p1, iv p2, iv 1, iv 1, iv 0, iv b0, iv b1, iv b2, iv b3, iv c0, iv c1, iv c2, iv c3, rv b50, rv b58, rv b66, iv 0, iv 1] [(.ref b58), (.ref b66)])) rfl (by rw [hml]; rfl) (Steps.refl _) (argsL := [(.ref b58)]) (rest := []) (lenOf own_pd1 rfl) rfl (by show 2 * 0 + _ ≤ _; exact Nat.le_of_eq rfl) (hb hby at_353) (fun _ _ => ⟨rfl, rfl, (by decide : 9 + 0 ≤ _), (by decide : 35 + 0 ≤ _)⟩)
              dsimp only [Pt.U, Pt.locs, Pt.cells, Pt.slots] at X74 l74 y74 z74 st74 hQ74
              subst l74 y74 z74
              obtain ⟨rfl, N74q, e74⟩ := hQ74
              have N74 := Fr.app N68 N74q
              refine own_via (mkF m 356 #[iv p0, iv p1, iv p2, iv 1, iv 1, iv 0, iv b0, iv b1, iv b2, iv b3, iv c0, iv c1, iv c2, iv c3, rv b50, rv b58, rv b66, iv 0, iv 1] [(.int (1 : Int32))]) st74 ?_
              refine own_to (T' := T74) (mkF m 358 #[iv p0, iv p1, iv p2, iv 1, iv 1, iv 0, iv b0, iv b1, iv b2, iv b3, iv c0, iv c1, iv c2, iv c3, rv b50, rv b58, rv b66, iv 0, iv 1] [(.int (1 : Int32)), (.int (1 : Int32))]) (fun _ k => XS.iload X74.here hx rfl (hb hby at_356) rfl k) ?_
              refine own_to (T' := T74) (mkF m 361 #[iv p0, iv p1, iv p2, iv 1, iv 1, iv 0, iv b0, iv b1, iv b2, iv b3, iv c0, iv c1, iv c2, iv c3, rv b50, rv b58, rv b66, iv 0, iv 1] []) (fun _ k => XS.icmpNo X74.here hx rfl (hb hby at_358) rfl (teq (by decide : (1 : Int32) = (1 : Int32))).2 k) ?_
              refine own_to (T' := T74) (mkF m 362 #[iv p0, iv p1, iv p2, iv 1, iv 1, iv 0, iv b0, iv b1, iv b2, iv b3, iv c0, iv c1, iv c2, iv c3, rv b50, rv b58, rv b66, iv 0, iv 1] [(.int (1 : Int32))]) (fun _ k => XS.iconst X74.here hx rfl (hb hby at_361) k) ?_
              refine own_to (T' := T74) (mkF m 366 #[iv p0, iv p1, iv p2, iv 1, iv 1, iv 0, iv b0, iv b1, iv b2, iv b3, iv c0, iv c1, iv c2, iv c3, rv b50, rv b58, rv b66, iv 0, iv 1] [(.int (1 : Int32))]) (fun _ k => XS.goto X74.here hx rfl (pc0 := 362) (pc' := 366) rfl (hb hby at_362) (by decide) (by decide) k) ?_
              exact own_retNW (s := s) (vm₁ := T67.vm) X74 hS (by rw [e74]; exact hk1) hx (t := .boolean) Bd.returns (by simp) hlk (hb hby at_366) (by decide) (by decide) (by rw [e74]; exact ⟨rfl, N74⟩)
        · refine own_to (T' := T68) (mkF m 330 #[iv p0, iv p1, iv p2, iv d3, iv 1, iv 0, iv b0, iv b1, iv b2, iv b3, iv c0, iv c1, iv c2, iv c3, rv b50, rv b58, rv b66, .unset, .unset] []) (fun _ k => XS.icmpYes X68.here hx rfl (pc0 := 309) (pc' := 330) rfl (hb hby at_309) rfl (feq hq1).2 (by decide) (by decide) k) ?_
          refine own_to (T' := T68) (mkF m 331 #[iv p0, iv p1, iv p2, iv d3, iv 1, iv 0, iv b0, iv b1, iv b2, iv b3, iv c0, iv c1, iv c2, iv c3, rv b50, rv b58, rv b66, .unset, .unset] [(.int (0 : Int32))]) (fun _ k => XS.iconst X68.here hx rfl (hb hby at_330) k) ?_
          refine own_to (T' := T68) (mkF m 333 #[iv p0, iv p1, iv p2, iv d3, iv 1, iv 0, iv b0, iv b1, iv b2, iv b3, iv c0, iv c1, iv c2, iv c3, rv b50, rv b58, rv b66, iv 0, .unset] []) (fun _ k => XS.istore X68.here hx rfl (hb hby at_331) rfl (l' := #[iv p0, iv p1, iv p2, iv d3, iv 1, iv 0, iv b0, iv b1, iv b2, iv b3, iv c0, iv c1, iv c2, iv c3, rv b50, rv b58, rv b66, iv 0, .unset]) rfl k) ?_
          rcases own_01 hd3t hd3f with q | q
          · subst q
            refine own_to (T' := T68) (mkF m 334 #[iv p0, iv p1, iv p2, iv 0, iv 1, iv 0, iv b0, iv b1, iv b2, iv b3, iv c0, iv c1, iv c2, iv c3, rv b50, rv b58, rv b66, iv 0, .unset] [(.int (0 : Int32))]) (fun _ k => XS.iloadN X68.here hx rfl (hb hby at_333) rfl k) ?_
            refine own_to (T' := T68) (mkF m 337 #[iv p0, iv p1, iv p2, iv 0, iv 1, iv 0, iv b0, iv b1, iv b2, iv b3, iv c0, iv c1, iv c2, iv c3, rv b50, rv b58, rv b66, iv 0, .unset] []) (fun _ k => XS.ifNo X68.here hx rfl (hb hby at_334) rfl ((if0 _ _).trans (teq (by decide : (0 : Int32) = (0 : Int32))).2) k) ?_
            refine own_to (T' := T68) (mkF m 339 #[iv p0, iv p1, iv p2, iv 0, iv 1, iv 0, iv b0, iv b1, iv b2, iv b3, iv c0, iv c1, iv c2, iv c3, rv b50, rv b58, rv b66, iv 0, .unset] [(.int (0 : Int32))]) (fun _ k => XS.iload X68.here hx rfl (hb hby at_337) rfl k) ?_
            refine own_to (T' := T68) (mkF m 346 #[iv p0, iv p1, iv p2, iv 0, iv 1, iv 0, iv b0, iv b1, iv b2, iv b3, iv c0, iv c1, iv c2, iv c3, rv b50, rv b58, rv b66, iv 0, .unset] []) (fun _ k => XS.ifYes X68.here hx rfl (pc0 := 339) (pc' := 346) rfl (hb hby at_339) rfl ((if0 _ _).trans (teq (by decide : (0 : Int32) = (0 : Int32))).1) (by decide) (by decide) k) ?_
            refine own_to (T' := T68) (mkF m 347 #[iv p0, iv p1, iv p2, iv 0, iv 1, iv 0, iv b0, iv b1, iv b2, iv b3, iv c0, iv c1, iv c2, iv c3, rv b50, rv b58, rv b66, iv 0, .unset] [(.int (0 : Int32))]) (fun _ k => XS.iconst X68.here hx rfl (hb hby at_346) k) ?_
            refine own_to (T' := T68) (mkF m 349 #[iv p0, iv p1, iv p2, iv 0, iv 1, iv 0, iv b0, iv b1, iv b2, iv b3, iv c0, iv c1, iv c2, iv c3, rv b50, rv b58, rv b66, iv 0, iv 0] []) (fun _ k => XS.istore X68.here hx rfl (hb hby at_347) rfl (l' := #[iv p0, iv p1, iv p2, iv 0, iv 1, iv 0, iv b0, iv b1, iv b2, iv b3, iv c0, iv c1, iv c2, iv c3, rv b50, rv b58, rv b66, iv 0, iv 0]) rfl k) ?_
            refine own_to (T' := T68) (mkF m 351 #[iv p0, iv p1, iv p2, iv 0, iv 1, iv 0, iv b0, iv b1, iv b2, iv b3, iv c0, iv c1, iv c2, iv c3, rv b50, rv b58, rv b66, iv 0, iv 0] [(.ref b66)]) (fun _ k => XS.aload X68.here hx rfl (hb hby at_349) rfl rfl k) ?_
            refine own_to (T' := T68) (mkF m 353 #[iv p0, iv p1, iv p2, iv 0, iv 1, iv 0, iv b0, iv b1, iv b2, iv b3, iv c0, iv c1, iv c2, iv c3, rv b50, rv b58, rv b66, iv 0, iv 0] [(.ref b58), (.ref b66)]) (fun _ k => XS.aload X68.here hx rfl (hb hby at_351) rfl rfl k) ?_
            obtain ⟨cq71, kq71, q71a, q71b, q71c⟩ := isOf hZ rfl EC
            obtain ⟨_, _, ⟨T71, L71, k71, n71⟩, -, X71, ⟨Lc71, hQ71, l71, y71, z71⟩, st71⟩ := X68.virtualBack hx (y := (⟨"com/example/saldera/saldera/coupon/Cashier", "mayCollect", "(Ljava/lang/String;)Z"⟩ : MethodName)) (z := (⟨"com/example/saldera/saldera/coupon/Cashier", "mayCollect", "(Ljava/lang/String;)Z"⟩ : MethodName)) hown (mvT hZ (hw _ (List.mem_of_getElem? (i := 46) rfl))) (mvT hZ (hw _ (List.mem_of_getElem? (i := 47) rfl))) (notFace_of_selects (args := #[]) (mvT hZ (hw _ (List.mem_of_getElem? (i := 49) rfl)))) (mvT hZ (hw _ (List.mem_of_getElem? (i := 49) rfl))) (mvT hZ (hw _ (List.mem_of_getElem? (i := 48) rfl))) (by decide) (backOf (W := 0) (own_rmMB l Z a0 hw [] G1 b66 b58 t_co kb_co ([c0, c1, c2, c3] : List Int32) b50 t_br kb_br ([b0, b1, b2, b3] : List Int32) T68.heap n0 (Nat.le_trans Z0 KP.1) OL FX FB EC S_co S_br O2 P5) hZ (hw _ (List.mem_of_getElem? (i := 50) rfl)) (hw _ (List.mem_of_getElem? (i := 32) rfl)) (by decide) (by decide)) q71a q71c (g := (mkF m 353 #[iv p0, iv p1, iv p2, iv 0, iv 1, iv 0, iv b0, iv b1, iv b2, iv b3, iv c0, iv c1, iv c2, iv c3, rv b50, rv b58, rv b66, iv 0, iv 0] [(.ref b58), (.ref b66)])) rfl (by rw [hml]; rfl) (Steps.refl _) (argsL := [(.ref b58)]) (rest := []) (lenOf own_pd1 rfl) rfl (by show 2 * 0 + _ ≤ _; exact Nat.le_of_eq rfl) (hb hby at_353) (fun _ _ => ⟨rfl, rfl, (by decide : 9 + 0 ≤ _), (by decide : 35 + 0 ≤ _)⟩)
            dsimp only [Pt.U, Pt.locs, Pt.cells, Pt.slots] at X71 l71 y71 z71 st71 hQ71
            subst l71 y71 z71
            obtain ⟨r71, rfl, h171, h071, N71q, e71⟩ := hQ71
            have N71 := Fr.app N68 N71q
            refine own_via (mkF m 356 #[iv p0, iv p1, iv p2, iv 0, iv 1, iv 0, iv b0, iv b1, iv b2, iv b3, iv c0, iv c1, iv c2, iv c3, rv b50, rv b58, rv b66, iv 0, iv 0] [(.int r71)]) st71 ?_
            have hr71 : r71 = (0 : Int32) := h071 (fun q => hq1 (List.cons.inj (List.cons.inj q).2).1)
            subst hr71
            refine own_to (T' := T71) (mkF m 358 #[iv p0, iv p1, iv p2, iv 0, iv 1, iv 0, iv b0, iv b1, iv b2, iv b3, iv c0, iv c1, iv c2, iv c3, rv b50, rv b58, rv b66, iv 0, iv 0] [(.int (0 : Int32)), (.int (0 : Int32))]) (fun _ k => XS.iload X71.here hx rfl (hb hby at_356) rfl k) ?_
            refine own_to (T' := T71) (mkF m 361 #[iv p0, iv p1, iv p2, iv 0, iv 1, iv 0, iv b0, iv b1, iv b2, iv b3, iv c0, iv c1, iv c2, iv c3, rv b50, rv b58, rv b66, iv 0, iv 0] []) (fun _ k => XS.icmpNo X71.here hx rfl (hb hby at_358) rfl (teq (by decide : (0 : Int32) = (0 : Int32))).2 k) ?_
            refine own_to (T' := T71) (mkF m 362 #[iv p0, iv p1, iv p2, iv 0, iv 1, iv 0, iv b0, iv b1, iv b2, iv b3, iv c0, iv c1, iv c2, iv c3, rv b50, rv b58, rv b66, iv 0, iv 0] [(.int (1 : Int32))]) (fun _ k => XS.iconst X71.here hx rfl (hb hby at_361) k) ?_
            refine own_to (T' := T71) (mkF m 366 #[iv p0, iv p1, iv p2, iv 0, iv 1, iv 0, iv b0, iv b1, iv b2, iv b3, iv c0, iv c1, iv c2, iv c3, rv b50, rv b58, rv b66, iv 0, iv 0] [(.int (1 : Int32))]) (fun _ k => XS.goto X71.here hx rfl (pc0 := 362) (pc' := 366) rfl (hb hby at_362) (by decide) (by decide) k) ?_
            exact own_retNW (s := s) (vm₁ := T67.vm) X71 hS (by rw [e71]; exact hk1) hx (t := .boolean) Bd.returns (by simp) hlk (hb hby at_366) (by decide) (by decide) (by rw [e71]; exact ⟨rfl, N71⟩)
          · subst q
            refine own_to (T' := T68) (mkF m 334 #[iv p0, iv p1, iv p2, iv 1, iv 1, iv 0, iv b0, iv b1, iv b2, iv b3, iv c0, iv c1, iv c2, iv c3, rv b50, rv b58, rv b66, iv 0, .unset] [(.int (1 : Int32))]) (fun _ k => XS.iloadN X68.here hx rfl (hb hby at_333) rfl k) ?_
            refine own_to (T' := T68) (mkF m 342 #[iv p0, iv p1, iv p2, iv 1, iv 1, iv 0, iv b0, iv b1, iv b2, iv b3, iv c0, iv c1, iv c2, iv c3, rv b50, rv b58, rv b66, iv 0, .unset] []) (fun _ k => XS.ifYes X68.here hx rfl (pc0 := 334) (pc' := 342) rfl (hb hby at_334) rfl ((if0 _ _).trans (feq (by decide : ¬ ((1 : Int32) = (0 : Int32)))).2) (by decide) (by decide) k) ?_
            refine own_to (T' := T68) (mkF m 343 #[iv p0, iv p1, iv p2, iv 1, iv 1, iv 0, iv b0, iv b1, iv b2, iv b3, iv c0, iv c1, iv c2, iv c3, rv b50, rv b58, rv b66, iv 0, .unset] [(.int (1 : Int32))]) (fun _ k => XS.iconst X68.here hx rfl (hb hby at_342) k) ?_
            refine own_to (T' := T68) (mkF m 347 #[iv p0, iv p1, iv p2, iv 1, iv 1, iv 0, iv b0, iv b1, iv b2, iv b3, iv c0, iv c1, iv c2, iv c3, rv b50, rv b58, rv b66, iv 0, .unset] [(.int (1 : Int32))]) (fun _ k => XS.goto X68.here hx rfl (pc0 := 343) (pc' := 347) rfl (hb hby at_343) (by decide) (by decide) k) ?_
            refine own_to (T' := T68) (mkF m 349 #[iv p0, iv p1, iv p2, iv 1, iv 1, iv 0, iv b0, iv b1, iv b2, iv b3, iv c0, iv c1, iv c2, iv c3, rv b50, rv b58, rv b66, iv 0, iv 1] []) (fun _ k => XS.istore X68.here hx rfl (hb hby at_347) rfl (l' := #[iv p0, iv p1, iv p2, iv 1, iv 1, iv 0, iv b0, iv b1, iv b2, iv b3, iv c0, iv c1, iv c2, iv c3, rv b50, rv b58, rv b66, iv 0, iv 1]) rfl k) ?_
            refine own_to (T' := T68) (mkF m 351 #[iv p0, iv p1, iv p2, iv 1, iv 1, iv 0, iv b0, iv b1, iv b2, iv b3, iv c0, iv c1, iv c2, iv c3, rv b50, rv b58, rv b66, iv 0, iv 1] [(.ref b66)]) (fun _ k => XS.aload X68.here hx rfl (hb hby at_349) rfl rfl k) ?_
            refine own_to (T' := T68) (mkF m 353 #[iv p0, iv p1, iv p2, iv 1, iv 1, iv 0, iv b0, iv b1, iv b2, iv b3, iv c0, iv c1, iv c2, iv c3, rv b50, rv b58, rv b66, iv 0, iv 1] [(.ref b58), (.ref b66)]) (fun _ k => XS.aload X68.here hx rfl (hb hby at_351) rfl rfl k) ?_
            obtain ⟨cq72, kq72, q72a, q72b, q72c⟩ := isOf hZ rfl EC
            obtain ⟨_, _, ⟨T72, L72, k72, n72⟩, -, X72, ⟨Lc72, hQ72, l72, y72, z72⟩, st72⟩ := X68.virtualBack hx (y := (⟨"com/example/saldera/saldera/coupon/Cashier", "mayCollect", "(Ljava/lang/String;)Z"⟩ : MethodName)) (z := (⟨"com/example/saldera/saldera/coupon/Cashier", "mayCollect", "(Ljava/lang/String;)Z"⟩ : MethodName)) hown (mvT hZ (hw _ (List.mem_of_getElem? (i := 46) rfl))) (mvT hZ (hw _ (List.mem_of_getElem? (i := 47) rfl))) (notFace_of_selects (args := #[]) (mvT hZ (hw _ (List.mem_of_getElem? (i := 49) rfl)))) (mvT hZ (hw _ (List.mem_of_getElem? (i := 49) rfl))) (mvT hZ (hw _ (List.mem_of_getElem? (i := 48) rfl))) (by decide) (backOf (W := 0) (own_rmMX l Z a0 hw [] b66 b58 T68.heap n0 (Nat.le_trans Z0 KP.1) OL FX) hZ (hw _ (List.mem_of_getElem? (i := 50) rfl)) (hw _ (List.mem_of_getElem? (i := 32) rfl)) (by decide) (by decide)) q72a q72c (g := (mkF m 353 #[iv p0, iv p1, iv p2, iv 1, iv 1, iv 0, iv b0, iv b1, iv b2, iv b3, iv c0, iv c1, iv c2, iv c3, rv b50, rv b58, rv b66, iv 0, iv 1] [(.ref b58), (.ref b66)])) rfl (by rw [hml]; rfl) (Steps.refl _) (argsL := [(.ref b58)]) (rest := []) (lenOf own_pd1 rfl) rfl (by show 2 * 0 + _ ≤ _; exact Nat.le_of_eq rfl) (hb hby at_353) (fun _ _ => ⟨rfl, rfl, (by decide : 9 + 0 ≤ _), (by decide : 35 + 0 ≤ _)⟩)
            dsimp only [Pt.U, Pt.locs, Pt.cells, Pt.slots] at X72 l72 y72 z72 st72 hQ72
            subst l72 y72 z72
            obtain ⟨rfl, N72q, e72⟩ := hQ72
            have N72 := Fr.app N68 N72q
            refine own_via (mkF m 356 #[iv p0, iv p1, iv p2, iv 1, iv 1, iv 0, iv b0, iv b1, iv b2, iv b3, iv c0, iv c1, iv c2, iv c3, rv b50, rv b58, rv b66, iv 0, iv 1] [(.int (1 : Int32))]) st72 ?_
            refine own_to (T' := T72) (mkF m 358 #[iv p0, iv p1, iv p2, iv 1, iv 1, iv 0, iv b0, iv b1, iv b2, iv b3, iv c0, iv c1, iv c2, iv c3, rv b50, rv b58, rv b66, iv 0, iv 1] [(.int (1 : Int32)), (.int (1 : Int32))]) (fun _ k => XS.iload X72.here hx rfl (hb hby at_356) rfl k) ?_
            refine own_to (T' := T72) (mkF m 361 #[iv p0, iv p1, iv p2, iv 1, iv 1, iv 0, iv b0, iv b1, iv b2, iv b3, iv c0, iv c1, iv c2, iv c3, rv b50, rv b58, rv b66, iv 0, iv 1] []) (fun _ k => XS.icmpNo X72.here hx rfl (hb hby at_358) rfl (teq (by decide : (1 : Int32) = (1 : Int32))).2 k) ?_
            refine own_to (T' := T72) (mkF m 362 #[iv p0, iv p1, iv p2, iv 1, iv 1, iv 0, iv b0, iv b1, iv b2, iv b3, iv c0, iv c1, iv c2, iv c3, rv b50, rv b58, rv b66, iv 0, iv 1] [(.int (1 : Int32))]) (fun _ k => XS.iconst X72.here hx rfl (hb hby at_361) k) ?_
            refine own_to (T' := T72) (mkF m 366 #[iv p0, iv p1, iv p2, iv 1, iv 1, iv 0, iv b0, iv b1, iv b2, iv b3, iv c0, iv c1, iv c2, iv c3, rv b50, rv b58, rv b66, iv 0, iv 1] [(.int (1 : Int32))]) (fun _ k => XS.goto X72.here hx rfl (pc0 := 362) (pc' := 366) rfl (hb hby at_362) (by decide) (by decide) k) ?_
            exact own_retNW (s := s) (vm₁ := T67.vm) X72 hS (by rw [e72]; exact hk1) hx (t := .boolean) Bd.returns (by simp) hlk (hb hby at_366) (by decide) (by decide) (by rw [e72]; exact ⟨rfl, N72⟩)
      · refine own_to (T' := T68) (mkF m 330 #[iv p0, iv p1, iv p2, iv d3, iv 1, iv 0, iv b0, iv b1, iv b2, iv b3, iv c0, iv c1, iv c2, iv c3, rv b50, rv b58, rv b66, .unset, .unset] []) (fun _ k => XS.icmpYes X68.here hx rfl (pc0 := 302) (pc' := 330) rfl (hb hby at_302) rfl (feq hq0).2 (by decide) (by decide) k) ?_
        refine own_to (T' := T68) (mkF m 331 #[iv p0, iv p1, iv p2, iv d3, iv 1, iv 0, iv b0, iv b1, iv b2, iv b3, iv c0, iv c1, iv c2, iv c3, rv b50, rv b58, rv b66, .unset, .unset] [(.int (0 : Int32))]) (fun _ k => XS.iconst X68.here hx rfl (hb hby at_330) k) ?_
        refine own_to (T' := T68) (mkF m 333 #[iv p0, iv p1, iv p2, iv d3, iv 1, iv 0, iv b0, iv b1, iv b2, iv b3, iv c0, iv c1, iv c2, iv c3, rv b50, rv b58, rv b66, iv 0, .unset] []) (fun _ k => XS.istore X68.here hx rfl (hb hby at_331) rfl (l' := #[iv p0, iv p1, iv p2, iv d3, iv 1, iv 0, iv b0, iv b1, iv b2, iv b3, iv c0, iv c1, iv c2, iv c3, rv b50, rv b58, rv b66, iv 0, .unset]) rfl k) ?_
        rcases own_01 hd3t hd3f with q | q
        · subst q
          refine own_to (T' := T68) (mkF m 334 #[iv p0, iv p1, iv p2, iv 0, iv 1, iv 0, iv b0, iv b1, iv b2, iv b3, iv c0, iv c1, iv c2, iv c3, rv b50, rv b58, rv b66, iv 0, .unset] [(.int (0 : Int32))]) (fun _ k => XS.iloadN X68.here hx rfl (hb hby at_333) rfl k) ?_
          refine own_to (T' := T68) (mkF m 337 #[iv p0, iv p1, iv p2, iv 0, iv 1, iv 0, iv b0, iv b1, iv b2, iv b3, iv c0, iv c1, iv c2, iv c3, rv b50, rv b58, rv b66, iv 0, .unset] []) (fun _ k => XS.ifNo X68.here hx rfl (hb hby at_334) rfl ((if0 _ _).trans (teq (by decide : (0 : Int32) = (0 : Int32))).2) k) ?_
          refine own_to (T' := T68) (mkF m 339 #[iv p0, iv p1, iv p2, iv 0, iv 1, iv 0, iv b0, iv b1, iv b2, iv b3, iv c0, iv c1, iv c2, iv c3, rv b50, rv b58, rv b66, iv 0, .unset] [(.int (0 : Int32))]) (fun _ k => XS.iload X68.here hx rfl (hb hby at_337) rfl k) ?_
          refine own_to (T' := T68) (mkF m 346 #[iv p0, iv p1, iv p2, iv 0, iv 1, iv 0, iv b0, iv b1, iv b2, iv b3, iv c0, iv c1, iv c2, iv c3, rv b50, rv b58, rv b66, iv 0, .unset] []) (fun _ k => XS.ifYes X68.here hx rfl (pc0 := 339) (pc' := 346) rfl (hb hby at_339) rfl ((if0 _ _).trans (teq (by decide : (0 : Int32) = (0 : Int32))).1) (by decide) (by decide) k) ?_
          refine own_to (T' := T68) (mkF m 347 #[iv p0, iv p1, iv p2, iv 0, iv 1, iv 0, iv b0, iv b1, iv b2, iv b3, iv c0, iv c1, iv c2, iv c3, rv b50, rv b58, rv b66, iv 0, .unset] [(.int (0 : Int32))]) (fun _ k => XS.iconst X68.here hx rfl (hb hby at_346) k) ?_
          refine own_to (T' := T68) (mkF m 349 #[iv p0, iv p1, iv p2, iv 0, iv 1, iv 0, iv b0, iv b1, iv b2, iv b3, iv c0, iv c1, iv c2, iv c3, rv b50, rv b58, rv b66, iv 0, iv 0] []) (fun _ k => XS.istore X68.here hx rfl (hb hby at_347) rfl (l' := #[iv p0, iv p1, iv p2, iv 0, iv 1, iv 0, iv b0, iv b1, iv b2, iv b3, iv c0, iv c1, iv c2, iv c3, rv b50, rv b58, rv b66, iv 0, iv 0]) rfl k) ?_
          refine own_to (T' := T68) (mkF m 351 #[iv p0, iv p1, iv p2, iv 0, iv 1, iv 0, iv b0, iv b1, iv b2, iv b3, iv c0, iv c1, iv c2, iv c3, rv b50, rv b58, rv b66, iv 0, iv 0] [(.ref b66)]) (fun _ k => XS.aload X68.here hx rfl (hb hby at_349) rfl rfl k) ?_
          refine own_to (T' := T68) (mkF m 353 #[iv p0, iv p1, iv p2, iv 0, iv 1, iv 0, iv b0, iv b1, iv b2, iv b3, iv c0, iv c1, iv c2, iv c3, rv b50, rv b58, rv b66, iv 0, iv 0] [(.ref b58), (.ref b66)]) (fun _ k => XS.aload X68.here hx rfl (hb hby at_351) rfl rfl k) ?_
          obtain ⟨cq69, kq69, q69a, q69b, q69c⟩ := isOf hZ rfl EC
          obtain ⟨_, _, ⟨T69, L69, k69, n69⟩, -, X69, ⟨Lc69, hQ69, l69, y69, z69⟩, st69⟩ := X68.virtualBack hx (y := (⟨"com/example/saldera/saldera/coupon/Cashier", "mayCollect", "(Ljava/lang/String;)Z"⟩ : MethodName)) (z := (⟨"com/example/saldera/saldera/coupon/Cashier", "mayCollect", "(Ljava/lang/String;)Z"⟩ : MethodName)) hown (mvT hZ (hw _ (List.mem_of_getElem? (i := 46) rfl))) (mvT hZ (hw _ (List.mem_of_getElem? (i := 47) rfl))) (notFace_of_selects (args := #[]) (mvT hZ (hw _ (List.mem_of_getElem? (i := 49) rfl)))) (mvT hZ (hw _ (List.mem_of_getElem? (i := 49) rfl))) (mvT hZ (hw _ (List.mem_of_getElem? (i := 48) rfl))) (by decide) (backOf (W := 0) (own_rmMB l Z a0 hw [] G1 b66 b58 t_co kb_co ([c0, c1, c2, c3] : List Int32) b50 t_br kb_br ([b0, b1, b2, b3] : List Int32) T68.heap n0 (Nat.le_trans Z0 KP.1) OL FX FB EC S_co S_br O2 P5) hZ (hw _ (List.mem_of_getElem? (i := 50) rfl)) (hw _ (List.mem_of_getElem? (i := 32) rfl)) (by decide) (by decide)) q69a q69c (g := (mkF m 353 #[iv p0, iv p1, iv p2, iv 0, iv 1, iv 0, iv b0, iv b1, iv b2, iv b3, iv c0, iv c1, iv c2, iv c3, rv b50, rv b58, rv b66, iv 0, iv 0] [(.ref b58), (.ref b66)])) rfl (by rw [hml]; rfl) (Steps.refl _) (argsL := [(.ref b58)]) (rest := []) (lenOf own_pd1 rfl) rfl (by show 2 * 0 + _ ≤ _; exact Nat.le_of_eq rfl) (hb hby at_353) (fun _ _ => ⟨rfl, rfl, (by decide : 9 + 0 ≤ _), (by decide : 35 + 0 ≤ _)⟩)
          dsimp only [Pt.U, Pt.locs, Pt.cells, Pt.slots] at X69 l69 y69 z69 st69 hQ69
          subst l69 y69 z69
          obtain ⟨r69, rfl, h169, h069, N69q, e69⟩ := hQ69
          have N69 := Fr.app N68 N69q
          refine own_via (mkF m 356 #[iv p0, iv p1, iv p2, iv 0, iv 1, iv 0, iv b0, iv b1, iv b2, iv b3, iv c0, iv c1, iv c2, iv c3, rv b50, rv b58, rv b66, iv 0, iv 0] [(.int r69)]) st69 ?_
          have hr69 : r69 = (0 : Int32) := h069 (fun q => hq0 (List.cons.inj q).1)
          subst hr69
          refine own_to (T' := T69) (mkF m 358 #[iv p0, iv p1, iv p2, iv 0, iv 1, iv 0, iv b0, iv b1, iv b2, iv b3, iv c0, iv c1, iv c2, iv c3, rv b50, rv b58, rv b66, iv 0, iv 0] [(.int (0 : Int32)), (.int (0 : Int32))]) (fun _ k => XS.iload X69.here hx rfl (hb hby at_356) rfl k) ?_
          refine own_to (T' := T69) (mkF m 361 #[iv p0, iv p1, iv p2, iv 0, iv 1, iv 0, iv b0, iv b1, iv b2, iv b3, iv c0, iv c1, iv c2, iv c3, rv b50, rv b58, rv b66, iv 0, iv 0] []) (fun _ k => XS.icmpNo X69.here hx rfl (hb hby at_358) rfl (teq (by decide : (0 : Int32) = (0 : Int32))).2 k) ?_
          refine own_to (T' := T69) (mkF m 362 #[iv p0, iv p1, iv p2, iv 0, iv 1, iv 0, iv b0, iv b1, iv b2, iv b3, iv c0, iv c1, iv c2, iv c3, rv b50, rv b58, rv b66, iv 0, iv 0] [(.int (1 : Int32))]) (fun _ k => XS.iconst X69.here hx rfl (hb hby at_361) k) ?_
          refine own_to (T' := T69) (mkF m 366 #[iv p0, iv p1, iv p2, iv 0, iv 1, iv 0, iv b0, iv b1, iv b2, iv b3, iv c0, iv c1, iv c2, iv c3, rv b50, rv b58, rv b66, iv 0, iv 0] [(.int (1 : Int32))]) (fun _ k => XS.goto X69.here hx rfl (pc0 := 362) (pc' := 366) rfl (hb hby at_362) (by decide) (by decide) k) ?_
          exact own_retNW (s := s) (vm₁ := T67.vm) X69 hS (by rw [e69]; exact hk1) hx (t := .boolean) Bd.returns (by simp) hlk (hb hby at_366) (by decide) (by decide) (by rw [e69]; exact ⟨rfl, N69⟩)
        · subst q
          refine own_to (T' := T68) (mkF m 334 #[iv p0, iv p1, iv p2, iv 1, iv 1, iv 0, iv b0, iv b1, iv b2, iv b3, iv c0, iv c1, iv c2, iv c3, rv b50, rv b58, rv b66, iv 0, .unset] [(.int (1 : Int32))]) (fun _ k => XS.iloadN X68.here hx rfl (hb hby at_333) rfl k) ?_
          refine own_to (T' := T68) (mkF m 342 #[iv p0, iv p1, iv p2, iv 1, iv 1, iv 0, iv b0, iv b1, iv b2, iv b3, iv c0, iv c1, iv c2, iv c3, rv b50, rv b58, rv b66, iv 0, .unset] []) (fun _ k => XS.ifYes X68.here hx rfl (pc0 := 334) (pc' := 342) rfl (hb hby at_334) rfl ((if0 _ _).trans (feq (by decide : ¬ ((1 : Int32) = (0 : Int32)))).2) (by decide) (by decide) k) ?_
          refine own_to (T' := T68) (mkF m 343 #[iv p0, iv p1, iv p2, iv 1, iv 1, iv 0, iv b0, iv b1, iv b2, iv b3, iv c0, iv c1, iv c2, iv c3, rv b50, rv b58, rv b66, iv 0, .unset] [(.int (1 : Int32))]) (fun _ k => XS.iconst X68.here hx rfl (hb hby at_342) k) ?_
          refine own_to (T' := T68) (mkF m 347 #[iv p0, iv p1, iv p2, iv 1, iv 1, iv 0, iv b0, iv b1, iv b2, iv b3, iv c0, iv c1, iv c2, iv c3, rv b50, rv b58, rv b66, iv 0, .unset] [(.int (1 : Int32))]) (fun _ k => XS.goto X68.here hx rfl (pc0 := 343) (pc' := 347) rfl (hb hby at_343) (by decide) (by decide) k) ?_
          refine own_to (T' := T68) (mkF m 349 #[iv p0, iv p1, iv p2, iv 1, iv 1, iv 0, iv b0, iv b1, iv b2, iv b3, iv c0, iv c1, iv c2, iv c3, rv b50, rv b58, rv b66, iv 0, iv 1] []) (fun _ k => XS.istore X68.here hx rfl (hb hby at_347) rfl (l' := #[iv p0, iv p1, iv p2, iv 1, iv 1, iv 0, iv b0, iv b1, iv b2, iv b3, iv c0, iv c1, iv c2, iv c3, rv b50, rv b58, rv b66, iv 0, iv 1]) rfl k) ?_
          refine own_to (T' := T68) (mkF m 351 #[iv p0, iv p1, iv p2, iv 1, iv 1, iv 0, iv b0, iv b1, iv b2, iv b3, iv c0, iv c1, iv c2, iv c3, rv b50, rv b58, rv b66, iv 0, iv 1] [(.ref b66)]) (fun _ k => XS.aload X68.here hx rfl (hb hby at_349) rfl rfl k) ?_
          refine own_to (T' := T68) (mkF m 353 #[iv p0, iv p1, iv p2, iv 1, iv 1, iv 0, iv b0, iv b1, iv b2, iv b3, iv c0, iv c1, iv c2, iv c3, rv b50, rv b58, rv b66, iv 0, iv 1] [(.ref b58), (.ref b66)]) (fun _ k => XS.aload X68.here hx rfl (hb hby at_351) rfl rfl k) ?_
          obtain ⟨cq70, kq70, q70a, q70b, q70c⟩ := isOf hZ rfl EC
          obtain ⟨_, _, ⟨T70, L70, k70, n70⟩, -, X70, ⟨Lc70, hQ70, l70, y70, z70⟩, st70⟩ := X68.virtualBack hx (y := (⟨"com/example/saldera/saldera/coupon/Cashier", "mayCollect", "(Ljava/lang/String;)Z"⟩ : MethodName)) (z := (⟨"com/example/saldera/saldera/coupon/Cashier", "mayCollect", "(Ljava/lang/String;)Z"⟩ : MethodName)) hown (mvT hZ (hw _ (List.mem_of_getElem? (i := 46) rfl))) (mvT hZ (hw _ (List.mem_of_getElem? (i := 47) rfl))) (notFace_of_selects (args := #[]) (mvT hZ (hw _ (List.mem_of_getElem? (i := 49) rfl)))) (mvT hZ (hw _ (List.mem_of_getElem? (i := 49) rfl))) (mvT hZ (hw _ (List.mem_of_getElem? (i := 48) rfl))) (by decide) (backOf (W := 0) (own_rmMX l Z a0 hw [] b66 b58 T68.heap n0 (Nat.le_trans Z0 KP.1) OL FX) hZ (hw _ (List.mem_of_getElem? (i := 50) rfl)) (hw _ (List.mem_of_getElem? (i := 32) rfl)) (by decide) (by decide)) q70a q70c (g := (mkF m 353 #[iv p0, iv p1, iv p2, iv 1, iv 1, iv 0, iv b0, iv b1, iv b2, iv b3, iv c0, iv c1, iv c2, iv c3, rv b50, rv b58, rv b66, iv 0, iv 1] [(.ref b58), (.ref b66)])) rfl (by rw [hml]; rfl) (Steps.refl _) (argsL := [(.ref b58)]) (rest := []) (lenOf own_pd1 rfl) rfl (by show 2 * 0 + _ ≤ _; exact Nat.le_of_eq rfl) (hb hby at_353) (fun _ _ => ⟨rfl, rfl, (by decide : 9 + 0 ≤ _), (by decide : 35 + 0 ≤ _)⟩)
          dsimp only [Pt.U, Pt.locs, Pt.cells, Pt.slots] at X70 l70 y70 z70 st70 hQ70
          subst l70 y70 z70
          obtain ⟨rfl, N70q, e70⟩ := hQ70
          have N70 := Fr.app N68 N70q
          refine own_via (mkF m 356 #[iv p0, iv p1, iv p2, iv 1, iv 1, iv 0, iv b0, iv b1, iv b2, iv b3, iv c0, iv c1, iv c2, iv c3, rv b50, rv b58, rv b66, iv 0, iv 1] [(.int (1 : Int32))]) st70 ?_
          refine own_to (T' := T70) (mkF m 358 #[iv p0, iv p1, iv p2, iv 1, iv 1, iv 0, iv b0, iv b1, iv b2, iv b3, iv c0, iv c1, iv c2, iv c3, rv b50, rv b58, rv b66, iv 0, iv 1] [(.int (1 : Int32)), (.int (1 : Int32))]) (fun _ k => XS.iload X70.here hx rfl (hb hby at_356) rfl k) ?_
          refine own_to (T' := T70) (mkF m 361 #[iv p0, iv p1, iv p2, iv 1, iv 1, iv 0, iv b0, iv b1, iv b2, iv b3, iv c0, iv c1, iv c2, iv c3, rv b50, rv b58, rv b66, iv 0, iv 1] []) (fun _ k => XS.icmpNo X70.here hx rfl (hb hby at_358) rfl (teq (by decide : (1 : Int32) = (1 : Int32))).2 k) ?_
          refine own_to (T' := T70) (mkF m 362 #[iv p0, iv p1, iv p2, iv 1, iv 1, iv 0, iv b0, iv b1, iv b2, iv b3, iv c0, iv c1, iv c2, iv c3, rv b50, rv b58, rv b66, iv 0, iv 1] [(.int (1 : Int32))]) (fun _ k => XS.iconst X70.here hx rfl (hb hby at_361) k) ?_
          refine own_to (T' := T70) (mkF m 366 #[iv p0, iv p1, iv p2, iv 1, iv 1, iv 0, iv b0, iv b1, iv b2, iv b3, iv c0, iv c1, iv c2, iv c3, rv b50, rv b58, rv b66, iv 0, iv 1] [(.int (1 : Int32))]) (fun _ k => XS.goto X70.here hx rfl (pc0 := 362) (pc' := 366) rfl (hb hby at_362) (by decide) (by decide) k) ?_
          exact own_retNW (s := s) (vm₁ := T67.vm) X70 hS (by rw [e70]; exact hk1) hx (t := .boolean) Bd.returns (by simp) hlk (hb hby at_366) (by decide) (by decide) (by rw [e70]; exact ⟨rfl, N70⟩)
    · subst q
      refine own_to (T' := T57) (mkF m 211 #[iv p0, iv p1, iv p2, iv d3, iv 1, iv 1, iv b0, iv b1, iv b2, iv b3, iv c0, iv c1, iv c2, iv c3, rv b50, .unset, .unset, .unset, .unset] [(.int (1 : Int32))]) (fun _ k => XS.iload X57.here hx rfl (hb hby at_209) rfl k) ?_
      refine own_to (T' := T57) (mkF m 214 #[iv p0, iv p1, iv p2, iv d3, iv 1, iv 1, iv b0, iv b1, iv b2, iv b3, iv c0, iv c1, iv c2, iv c3, rv b50, .unset, .unset, .unset, .unset] []) (fun _ k => XS.ifNo X57.here hx rfl (hb hby at_211) rfl ((if0 _ _).trans (feq (by decide : ¬ ((1 : Int32) = (0 : Int32)))).1) k) ?_
      obtain ⟨T79, h79, X79, e79, E79, A79, D79, -, st79⟩ := newO X57 hx hZ hown (hw _ (List.mem_of_getElem? (i := 0) rfl)) (hw _ (List.mem_of_getElem? (i := 1) rfl)) (hw _ (List.mem_of_getElem? (i := 2) rfl)) rfl (g := (mkF m 214 #[iv p0, iv p1, iv p2, iv d3, iv 1, iv 1, iv b0, iv b1, iv b2, iv b3, iv c0, iv c1, iv c2, iv c3, rv b50, .unset, .unset, .unset, .unset] [])) rfl (hb hby at_214) (by decide) (by decide)
      obtain ⟨b79, g79⟩ : ∃ z, z = T57.heap.size := ⟨_, rfl⟩
      rw [← g79] at A79 D79 st79
      have sz_b79 : h0.size ≤ b79 := Nat.le_trans KP.1 (Nat.le_of_eq g79.symm)
      have ge_b79 : n0 ≤ b79 := Nat.le_trans Z0 sz_b79
      have ne_b51_b79 : b51 ≠ b79 := Nat.ne_of_lt (Nat.lt_of_lt_of_le V_b51.lt (Nat.le_of_eq g79.symm))
      have ne_b50_b79 : b50 ≠ b79 := Nat.ne_of_lt (Nat.lt_of_lt_of_le S_br.lt (Nat.le_of_eq g79.symm))
      have ne_t_br_b79 : t_br ≠ b79 := Nat.ne_of_lt (Nat.lt_of_lt_of_le S_br.ltT (Nat.le_of_eq g79.symm))
      have OL := OL.ext E79
      have KP := KP.ext E79
      have hk1 := Nat.le_trans hk1 E79.1
      have V_b51 := V_b51.ext E79
      have S_br := S_br.ext E79
      have E_b79 : Exa Z h79 b79 "java/lang/String" := A79
      have F_coder_b79 : Fld Z h79 b79 "java/lang/String" "coder" "B" (.int (0 : Int32)) := D79 (Or.inr (hw _ (List.mem_of_getElem? (i := 27) rfl))) (ty := .byte) (by decide)
      have F_value_b79 : Fld Z h79 b79 "java/lang/String" "value" "[B" .null := D79 (Or.inr (hw _ (List.mem_of_getElem? (i := 29) rfl))) (ty := (.array .byte)) (by decide)
      refine own_to (mkF m 217 #[iv p0, iv p1, iv p2, iv d3, iv 1, iv 1, iv b0, iv b1, iv b2, iv b3, iv c0, iv c1, iv c2, iv c3, rv b50, .unset, .unset, .unset, .unset] [(.ref b79)]) st79 ?_
      refine own_to (T' := T79) (mkF m 218 #[iv p0, iv p1, iv p2, iv d3, iv 1, iv 1, iv b0, iv b1, iv b2, iv b3, iv c0, iv c1, iv c2, iv c3, rv b50, .unset, .unset, .unset, .unset] [(.ref b79), (.ref b79)]) (fun _ k => XS.dup X79.here hx rfl (hb hby at_217) rfl rfl k) ?_
      refine own_to (T' := T79) (mkF m 219 #[iv p0, iv p1, iv p2, iv d3, iv 1, iv 1, iv b0, iv b1, iv b2, iv b3, iv c0, iv c1, iv c2, iv c3, rv b50, .unset, .unset, .unset, .unset] [(.int (3 : Int32)), (.ref b79), (.ref b79)]) (fun _ k => XS.iconst X79.here hx rfl (hb hby at_218) k) ?_
      obtain ⟨T80, h80, k80, X80, e80, E80, A80, B80, st80⟩ := newPE X79 hx hZ (hw _ (List.mem_of_getElem? (i := 3) rfl)) e79 (g := (mkF m 219 #[iv p0, iv p1, iv p2, iv d3, iv 1, iv 1, iv b0, iv b1, iv b2, iv b3, iv c0, iv c1, iv c2, iv c3, rv b50, .unset, .unset, .unset, .unset] [(.int (3 : Int32)), (.ref b79), (.ref b79)])) rfl (hb hby at_219) rfl (by decide) (cap := 3) (by decide) (by decide) (by decide) (by decide) (ad := "[C") (by decide)
      obtain ⟨b80, g80⟩ : ∃ z, z = h79.size := ⟨_, rfl⟩
      rw [← g80] at A80 B80 st80
      have sz_b80 : h0.size ≤ b80 := Nat.le_trans KP.1 (Nat.le_of_eq g80.symm)
      have ge_b80 : n0 ≤ b80 := Nat.le_trans Z0 sz_b80
      have ne_b51_b80 : b51 ≠ b80 := Nat.ne_of_lt (Nat.lt_of_lt_of_le V_b51.lt (Nat.le_of_eq g80.symm))
      have ne_b50_b80 : b50 ≠ b80 := Nat.ne_of_lt (Nat.lt_of_lt_of_le S_br.lt (Nat.le_of_eq g80.symm))
      have ne_t_br_b80 : t_br ≠ b80 := Nat.ne_of_lt (Nat.lt_of_lt_of_le S_br.ltT (Nat.le_of_eq g80.symm))
      have ne_b79_b80 : b79 ≠ b80 := Nat.ne_of_lt (Nat.lt_of_lt_of_le E_b79.lt (Nat.le_of_eq g80.symm))
      have OL := OL.ext E80
      have KP := KP.ext E80
      have hk1 := Nat.le_trans hk1 E80.1
      have V_b51 := V_b51.ext E80
      have S_br := S_br.ext E80
      have E_b79 := E_b79.ext E80
      have F_coder_b79 := F_coder_b79.ext E80
      have F_value_b79 := F_value_b79.ext E80
      have V_b80 : Arv Z h80 b80 k80 .char (3 : Int32) [(.int (0 : Int32)), (.int (0 : Int32)), (.int (0 : Int32))] (.int (0 : Int32)) := (Arv.new A80 (by decide)).pad (pad_rep [] (.int (0 : Int32)) 3)
      refine own_to (mkF m 221 #[iv p0, iv p1, iv p2, iv d3, iv 1, iv 1, iv b0, iv b1, iv b2, iv b3, iv c0, iv c1, iv c2, iv c3, rv b50, .unset, .unset, .unset, .unset] [(.ref b80), (.ref b79), (.ref b79)]) st80 ?_
      refine own_to (T' := T80) (mkF m 222 #[iv p0, iv p1, iv p2, iv d3, iv 1, iv 1, iv b0, iv b1, iv b2, iv b3, iv c0, iv c1, iv c2, iv c3, rv b50, .unset, .unset, .unset, .unset] [(.ref b80), (.ref b80), (.ref b79), (.ref b79)]) (fun _ k => XS.dup X80.here hx rfl (hb hby at_221) rfl rfl k) ?_
      refine own_to (T' := T80) (mkF m 223 #[iv p0, iv p1, iv p2, iv d3, iv 1, iv 1, iv b0, iv b1, iv b2, iv b3, iv c0, iv c1, iv c2, iv c3, rv b50, .unset, .unset, .unset, .unset] [(.int (0 : Int32)), (.ref b80), (.ref b80), (.ref b79), (.ref b79)]) (fun _ k => XS.iconst X80.here hx rfl (hb hby at_222) k) ?_
      refine own_to (T' := T80) (mkF m 225 #[iv p0, iv p1, iv p2, iv d3, iv 1, iv 1, iv b0, iv b1, iv b2, iv b3, iv c0, iv c1, iv c2, iv c3, rv b50, .unset, .unset, .unset, .unset] [(.int c0), (.int (0 : Int32)), (.ref b80), (.ref b80), (.ref b79), (.ref b79)]) (fun _ k => XS.iload X80.here hx rfl (hb hby at_223) rfl k) ?_
      obtain ⟨cl81, Ar81, q81, S81, M81, H81, G81⟩ := id V_b80
      obtain ⟨T81, h81, X81, e81, W81, st81⟩ := stC X80 hx hZ e80 Ar81 (j := (0 : Int32)) (inb_of S81 ⟨by decide, by decide⟩) (g := (mkF m 225 #[iv p0, iv p1, iv p2, iv d3, iv 1, iv 1, iv b0, iv b1, iv b2, iv b3, iv c0, iv c1, iv c2, iv c3, rv b50, .unset, .unset, .unset, .unset] [(.int c0), (.int (0 : Int32)), (.ref b80), (.ref b80), (.ref b79), (.ref b79)])) rfl rfl (hb hby at_225)
      refine own_to (mkF m 226 #[iv p0, iv p1, iv p2, iv d3, iv 1, iv 1, iv b0, iv b1, iv b2, iv b3, iv c0, iv c1, iv c2, iv c3, rv b50, .unset, .unset, .unset, .unset] [(.ref b80), (.ref b79), (.ref b79)]) st81 ?_
      have N81 := Fr.snoc X81 N57 ge_b80
      have tmp81 : Arv Z h81 b80 k80 .char (3 : Int32) [(.int (nar .char c0)), (.int (0 : Int32)), (.int (0 : Int32))] (.int (0 : Int32)) := Arv.set Ar81 q81 S81 M81 H81 G81 (fits_nar_char _) W81 0 rfl (Nat.le_of_ble_eq_true rfl)
      rw [own_nar8 c8_c0] at tmp81
      have OL := OL.wr W81 ge_b80
      have KP := KP.wr W81 (Or.inr sz_b80)
      have hk1 := Nat.le_trans hk1 (Keep.of_wr W81).1
      have V_b51 := V_b51.other W81 ne_b51_b80
      have S_br := S_br.wr W81 ne_b50_b80 ne_t_br_b80
      have E_b79 := E_b79.wr W81
      have F_coder_b79 := F_coder_b79.other W81 (Or.inl ne_b79_b80)
      have F_value_b79 := F_value_b79.other W81 (Or.inl ne_b79_b80)
      have V_b80 := tmp81
      refine own_to (T' := T81) (mkF m 227 #[iv p0, iv p1, iv p2, iv d3, iv 1, iv 1, iv b0, iv b1, iv b2, iv b3, iv c0, iv c1, iv c2, iv c3, rv b50, .unset, .unset, .unset, .unset] [(.ref b80), (.ref b80), (.ref b79), (.ref b79)]) (fun _ k => XS.dup X81.here hx rfl (hb hby at_226) rfl rfl k) ?_
      refine own_to (T' := T81) (mkF m 228 #[iv p0, iv p1, iv p2, iv d3, iv 1, iv 1, iv b0, iv b1, iv b2, iv b3, iv c0, iv c1, iv c2, iv c3, rv b50, .unset, .unset, .unset, .unset] [(.int (1 : Int32)), (.ref b80), (.ref b80), (.ref b79), (.ref b79)]) (fun _ k => XS.iconst X81.here hx rfl (hb hby at_227) k) ?_
      refine own_to (T' := T81) (mkF m 230 #[iv p0, iv p1, iv p2, iv d3, iv 1, iv 1, iv b0, iv b1, iv b2, iv b3, iv c0, iv c1, iv c2, iv c3, rv b50, .unset, .unset, .unset, .unset] [(.int c1), (.int (1 : Int32)), (.ref b80), (.ref b80), (.ref b79), (.ref b79)]) (fun _ k => XS.iload X81.here hx rfl (hb hby at_228) rfl k) ?_
      obtain ⟨cl82, Ar82, q82, S82, M82, H82, G82⟩ := id V_b80
      obtain ⟨T82, h82, X82, e82, W82, st82⟩ := stC X81 hx hZ e81 Ar82 (j := (1 : Int32)) (inb_of S82 ⟨by decide, by decide⟩) (g := (mkF m 230 #[iv p0, iv p1, iv p2, iv d3, iv 1, iv 1, iv b0, iv b1, iv b2, iv b3, iv c0, iv c1, iv c2, iv c3, rv b50, .unset, .unset, .unset, .unset] [(.int c1), (.int (1 : Int32)), (.ref b80), (.ref b80), (.ref b79), (.ref b79)])) rfl rfl (hb hby at_230)
      refine own_to (mkF m 231 #[iv p0, iv p1, iv p2, iv d3, iv 1, iv 1, iv b0, iv b1, iv b2, iv b3, iv c0, iv c1, iv c2, iv c3, rv b50, .unset, .unset, .unset, .unset] [(.ref b80), (.ref b79), (.ref b79)]) st82 ?_
      have N82 := Fr.snoc X82 N81 ge_b80
      have tmp82 : Arv Z h82 b80 k80 .char (3 : Int32) [(.int c0), (.int (nar .char c1)), (.int (0 : Int32))] (.int (0 : Int32)) := Arv.set Ar82 q82 S82 M82 H82 G82 (fits_nar_char _) W82 1 rfl (Nat.le_of_ble_eq_true rfl)
      rw [own_nar8 c8_c1] at tmp82
      have OL := OL.wr W82 ge_b80
      have KP := KP.wr W82 (Or.inr sz_b80)
      have hk1 := Nat.le_trans hk1 (Keep.of_wr W82).1
      have V_b51 := V_b51.other W82 ne_b51_b80
      have S_br := S_br.wr W82 ne_b50_b80 ne_t_br_b80
      have E_b79 := E_b79.wr W82
      have F_coder_b79 := F_coder_b79.other W82 (Or.inl ne_b79_b80)
      have F_value_b79 := F_value_b79.other W82 (Or.inl ne_b79_b80)
      have V_b80 := tmp82
      refine own_to (T' := T82) (mkF m 232 #[iv p0, iv p1, iv p2, iv d3, iv 1, iv 1, iv b0, iv b1, iv b2, iv b3, iv c0, iv c1, iv c2, iv c3, rv b50, .unset, .unset, .unset, .unset] [(.ref b80), (.ref b80), (.ref b79), (.ref b79)]) (fun _ k => XS.dup X82.here hx rfl (hb hby at_231) rfl rfl k) ?_
      refine own_to (T' := T82) (mkF m 233 #[iv p0, iv p1, iv p2, iv d3, iv 1, iv 1, iv b0, iv b1, iv b2, iv b3, iv c0, iv c1, iv c2, iv c3, rv b50, .unset, .unset, .unset, .unset] [(.int (2 : Int32)), (.ref b80), (.ref b80), (.ref b79), (.ref b79)]) (fun _ k => XS.iconst X82.here hx rfl (hb hby at_232) k) ?_
      refine own_to (T' := T82) (mkF m 235 #[iv p0, iv p1, iv p2, iv d3, iv 1, iv 1, iv b0, iv b1, iv b2, iv b3, iv c0, iv c1, iv c2, iv c3, rv b50, .unset, .unset, .unset, .unset] [(.int c2), (.int (2 : Int32)), (.ref b80), (.ref b80), (.ref b79), (.ref b79)]) (fun _ k => XS.iload X82.here hx rfl (hb hby at_233) rfl k) ?_
      obtain ⟨cl83, Ar83, q83, S83, M83, H83, G83⟩ := id V_b80
      obtain ⟨T83, h83, X83, e83, W83, st83⟩ := stC X82 hx hZ e82 Ar83 (j := (2 : Int32)) (inb_of S83 ⟨by decide, by decide⟩) (g := (mkF m 235 #[iv p0, iv p1, iv p2, iv d3, iv 1, iv 1, iv b0, iv b1, iv b2, iv b3, iv c0, iv c1, iv c2, iv c3, rv b50, .unset, .unset, .unset, .unset] [(.int c2), (.int (2 : Int32)), (.ref b80), (.ref b80), (.ref b79), (.ref b79)])) rfl rfl (hb hby at_235)
      refine own_to (mkF m 236 #[iv p0, iv p1, iv p2, iv d3, iv 1, iv 1, iv b0, iv b1, iv b2, iv b3, iv c0, iv c1, iv c2, iv c3, rv b50, .unset, .unset, .unset, .unset] [(.ref b80), (.ref b79), (.ref b79)]) st83 ?_
      have N83 := Fr.snoc X83 N82 ge_b80
      have tmp83 : Arv Z h83 b80 k80 .char (3 : Int32) [(.int c0), (.int c1), (.int (nar .char c2))] (.int (0 : Int32)) := Arv.set Ar83 q83 S83 M83 H83 G83 (fits_nar_char _) W83 2 rfl (Nat.le_of_ble_eq_true rfl)
      rw [own_nar8 c8_c2] at tmp83
      have OL := OL.wr W83 ge_b80
      have KP := KP.wr W83 (Or.inr sz_b80)
      have hk1 := Nat.le_trans hk1 (Keep.of_wr W83).1
      have V_b51 := V_b51.other W83 ne_b51_b80
      have S_br := S_br.wr W83 ne_b50_b80 ne_t_br_b80
      have E_b79 := E_b79.wr W83
      have F_coder_b79 := F_coder_b79.other W83 (Or.inl ne_b79_b80)
      have F_value_b79 := F_value_b79.other W83 (Or.inl ne_b79_b80)
      have V_b80 := tmp83
      have hp84 : ∀ c ∈ ([c0, c1, c2] : List Int32), ¬ c < 0 ∧ ¬ (255 : Int32) < c := (own_allS c8_c0 (own_allS c8_c1 (own_allS c8_c2 own_all0)))
      have KP0 := KP
      have lt0_b51 := V_b51.lt
      have lt0_b50 := S_br.lt
      have lt0_t_br := S_br.ltT
      have lt0_b79 := E_b79.lt
      have lt0_b80 := V_b80.lt
      obtain ⟨_, _, ⟨T85, L85, k85, n85⟩, -, X85, ⟨Lc85, hQ85, l85, y85, z85⟩, st85⟩ := X83.specialBack hx (y := (⟨"java/lang/String", "<init>", "([C)V"⟩ : MethodName)) rfl hown (mvT hZ (hw _ (List.mem_of_getElem? (i := 4) rfl))) (mvT hZ (hw _ (List.mem_of_getElem? (i := 5) rfl))) (mvT hZ (hw _ (List.mem_of_getElem? (i := 6) rfl))) (by decide) (StrChars.Road.backV (W := 1) hZ hwsV (kI := 4) (hw _ (List.mem_of_getElem? (i := 1) rfl)) (cs := ([c0, c1, c2] : List Int32)) (bs := (([c0, c1, c2] : List Int32)).map (fun c => c.toInt8.toInt32)) (n := 3) ge_b79 (Nat.le_trans Z0 KP.1) E_b79 F_value_b79 F_coder_b79 V_b80 (O2.ext OL.2) P5 rfl rfl (by decide) (by decide) hp84 rfl (by decide) (by decide)) (g := (mkF m 236 #[iv p0, iv p1, iv p2, iv d3, iv 1, iv 1, iv b0, iv b1, iv b2, iv b3, iv c0, iv c1, iv c2, iv c3, rv b50, .unset, .unset, .unset, .unset] [(.ref b80), (.ref b79), (.ref b79)])) rfl (by rw [hml]; rfl) (Steps.refl _) (a := b79) (argsL := [(.ref b80)]) (rest := [(.ref b79)]) (lenOf own_pd2 rfl) rfl (by show 2 * 0 + _ ≤ _; exact Nat.le_of_eq rfl) (hb hby at_236) (fun _ _ => ⟨rfl, e83, (by decide : 5 + 1 ≤ _), (by decide : 19 + 3 ≤ _)⟩)
      dsimp only [Pt.U, Pt.locs, Pt.cells, Pt.slots] at X85 l85 y85 z85 st85 hQ85
      subst l85 y85 z85
      obtain ⟨rfl, N85q, K85, Ex85, Cx85, t_co, kb_co, ge_t_co, sz0_t_co, ne_t_co_b79, Vx85, Kx85⟩ := hQ85
      have N85 := Fr.app N83 N85q
      have OL := OL.keep K85 (allS ge_b79 all0)
      have KP := KP.trans K85 (allS (Or.inr sz_b79) all0)
      have hk1 := Nat.le_trans hk1 K85.1
      have V_b51 := V_b51.keep K85 (ninS ne_b51_b79 nin0)
      have S_br := S_br.keep K85 (ninS ne_b50_b79 nin0) (ninS ne_t_br_b79 nin0)
      have E_b79 := E_b79.keep K85
      have V_b80 := V_b80.keep K85 (ninS (Ne.symm ne_b79_b80) nin0)
      refine own_via (mkF m 239 #[iv p0, iv p1, iv p2, iv d3, iv 1, iv 1, iv b0, iv b1, iv b2, iv b3, iv c0, iv c1, iv c2, iv c3, rv b50, .unset, .unset, .unset, .unset] [(.ref b79)]) st85 ?_
      have sz_t_co : h0.size ≤ t_co := Nat.le_trans KP0.1 sz0_t_co
      have ne_b51_t_co : b51 ≠ t_co := Nat.ne_of_lt (Nat.lt_of_lt_of_le lt0_b51 sz0_t_co)
      have ne_b50_t_co : b50 ≠ t_co := Nat.ne_of_lt (Nat.lt_of_lt_of_le lt0_b50 sz0_t_co)
      have ne_t_br_t_co : t_br ≠ t_co := Nat.ne_of_lt (Nat.lt_of_lt_of_le lt0_t_br sz0_t_co)
      have ne_b80_t_co : b80 ≠ t_co := Nat.ne_of_lt (Nat.lt_of_lt_of_le lt0_b80 sz0_t_co)
      have S_co : own_Str Z T85.heap b79 t_co kb_co ([c0, c1, c2] : List Int32) := ⟨Ex85, Vx85, Cx85, Kx85, hp84, Nat.le_of_ble_eq_true rfl⟩
      refine own_to (T' := T85) (mkF m 272 #[iv p0, iv p1, iv p2, iv d3, iv 1, iv 1, iv b0, iv b1, iv b2, iv b3, iv c0, iv c1, iv c2, iv c3, rv b50, .unset, .unset, .unset, .unset] [(.ref b79)]) (fun _ k => XS.goto X85.here hx rfl (pc0 := 239) (pc' := 272) rfl (hb hby at_239) (by decide) (by decide) k) ?_
      refine own_to (T' := T85) (mkF m 274 #[iv p0, iv p1, iv p2, iv d3, iv 1, iv 1, iv b0, iv b1, iv b2, iv b3, iv c0, iv c1, iv c2, iv c3, rv b50, rv b79, .unset, .unset, .unset] []) (fun _ k => XS.astore X85.here hx rfl (hb hby at_272) rfl rfl (l' := #[iv p0, iv p1, iv p2, iv d3, iv 1, iv 1, iv b0, iv b1, iv b2, iv b3, iv c0, iv c1, iv c2, iv c3, rv b50, rv b79, .unset, .unset, .unset]) rfl k) ?_
      obtain ⟨T86, h86, X86, e86, E86, A86, D86, -, st86⟩ := newO X85 hx hZ hown (hw _ (List.mem_of_getElem? (i := 30) rfl)) (hw _ (List.mem_of_getElem? (i := 31) rfl)) (hw _ (List.mem_of_getElem? (i := 32) rfl)) rfl (g := (mkF m 274 #[iv p0, iv p1, iv p2, iv d3, iv 1, iv 1, iv b0, iv b1, iv b2, iv b3, iv c0, iv c1, iv c2, iv c3, rv b50, rv b79, .unset, .unset, .unset] [])) rfl (hb hby at_274) (by decide) (by decide)
      obtain ⟨b86, g86⟩ : ∃ z, z = T85.heap.size := ⟨_, rfl⟩
      rw [← g86] at A86 D86 st86
      have sz_b86 : h0.size ≤ b86 := Nat.le_trans KP.1 (Nat.le_of_eq g86.symm)
      have ge_b86 : n0 ≤ b86 := Nat.le_trans Z0 sz_b86
      have ne_b51_b86 : b51 ≠ b86 := Nat.ne_of_lt (Nat.lt_of_lt_of_le V_b51.lt (Nat.le_of_eq g86.symm))
      have ne_b50_b86 : b50 ≠ b86 := Nat.ne_of_lt (Nat.lt_of_lt_of_le S_br.lt (Nat.le_of_eq g86.symm))
      have ne_t_br_b86 : t_br ≠ b86 := Nat.ne_of_lt (Nat.lt_of_lt_of_le S_br.ltT (Nat.le_of_eq g86.symm))
      have ne_b80_b86 : b80 ≠ b86 := Nat.ne_of_lt (Nat.lt_of_lt_of_le V_b80.lt (Nat.le_of_eq g86.symm))
      have ne_b79_b86 : b79 ≠ b86 := Nat.ne_of_lt (Nat.lt_of_lt_of_le S_co.lt (Nat.le_of_eq g86.symm))
      have ne_t_co_b86 : t_co ≠ b86 := Nat.ne_of_lt (Nat.lt_of_lt_of_le S_co.ltT (Nat.le_of_eq g86.symm))
      have OL := OL.ext E86
      have KP := KP.ext E86
      have hk1 := Nat.le_trans hk1 E86.1
      have V_b51 := V_b51.ext E86
      have S_br := S_br.ext E86
      have V_b80 := V_b80.ext E86
      have S_co := S_co.ext E86
      have E_b86 : Exa Z h86 b86 "com/example/saldera/saldera/coupon/Cashier" := A86
      have F_username_b86 : Fld Z h86 b86 "com/example/saldera/saldera/coupon/Cashier" "username" "Ljava/lang/String;" .null := D86 (Or.inr (hw _ (List.mem_of_getElem? (i := 41) rfl))) (ty := (.object "java/lang/String")) (by decide)
      have F_branch_b86 : Fld Z h86 b86 "com/example/saldera/saldera/coupon/Cashier" "branch" "Ljava/lang/String;" .null := D86 (Or.inr (hw _ (List.mem_of_getElem? (i := 43) rfl))) (ty := (.object "java/lang/String")) (by decide)
      have F_crossBranch_b86 : Fld Z h86 b86 "com/example/saldera/saldera/coupon/Cashier" "crossBranch" "Z" (.int (0 : Int32)) := D86 (Or.inr (hw _ (List.mem_of_getElem? (i := 45) rfl))) (ty := .boolean) (by decide)
      refine own_to (mkF m 277 #[iv p0, iv p1, iv p2, iv d3, iv 1, iv 1, iv b0, iv b1, iv b2, iv b3, iv c0, iv c1, iv c2, iv c3, rv b50, rv b79, .unset, .unset, .unset] [(.ref b86)]) st86 ?_
      refine own_to (T' := T86) (mkF m 278 #[iv p0, iv p1, iv p2, iv d3, iv 1, iv 1, iv b0, iv b1, iv b2, iv b3, iv c0, iv c1, iv c2, iv c3, rv b50, rv b79, .unset, .unset, .unset] [(.ref b86), (.ref b86)]) (fun _ k => XS.dup X86.here hx rfl (hb hby at_277) rfl rfl k) ?_
      obtain ⟨aU, T87, h87, k1, X87, e87, E87, hS, hk2, hZ, hown, st87⟩ := ldcS (s := s) (vm0 := s.vm) X86 hx hZ hown (hw _ (List.mem_of_getElem? (i := 33) rfl)) hwsS e86 hS hk1 (g := (mkF m 278 #[iv p0, iv p1, iv p2, iv d3, iv 1, iv 1, iv b0, iv b1, iv b2, iv b3, iv c0, iv c1, iv c2, iv c3, rv b50, rv b79, .unset, .unset, .unset] [(.ref b86), (.ref b86)])) rfl (hb hby at_278) (n := 4) (by decide) (by decide) (by decide) (by decide)
      have OL := OL.ext E87
      have KP := KP.ext E87
      have V_b51 := V_b51.ext E87
      have S_br := S_br.ext E87
      have V_b80 := V_b80.ext E87
      have S_co := S_co.ext E87
      have E_b86 := E_b86.ext E87
      have F_username_b86 := F_username_b86.ext E87
      have F_branch_b86 := F_branch_b86.ext E87
      have F_crossBranch_b86 := F_crossBranch_b86.ext E87
      have hk1 := hk2
      refine own_to (mkF m 280 #[iv p0, iv p1, iv p2, iv d3, iv 1, iv 1, iv b0, iv b1, iv b2, iv b3, iv c0, iv c1, iv c2, iv c3, rv b50, rv b79, .unset, .unset, .unset] [(.ref aU), (.ref b86), (.ref b86)]) st87 ?_
      refine own_to (T' := T87) (mkF m 282 #[iv p0, iv p1, iv p2, iv d3, iv 1, iv 1, iv b0, iv b1, iv b2, iv b3, iv c0, iv c1, iv c2, iv c3, rv b50, rv b79, .unset, .unset, .unset] [(.ref b50), (.ref aU), (.ref b86), (.ref b86)]) (fun _ k => XS.aload X87.here hx rfl (hb hby at_280) rfl rfl k) ?_
      refine own_to (T' := T87) (mkF m 283 #[iv p0, iv p1, iv p2, iv d3, iv 1, iv 1, iv b0, iv b1, iv b2, iv b3, iv c0, iv c1, iv c2, iv c3, rv b50, rv b79, .unset, .unset, .unset] [(.int d3), (.ref b50), (.ref aU), (.ref b86), (.ref b86)]) (fun _ k => XS.iloadN X87.here hx rfl (hb hby at_282) rfl k) ?_
      obtain ⟨_, _, ⟨T88, L88, k88, n88⟩, -, X88, ⟨Lc88, hQ88, l88, y88, z88⟩, st88⟩ := X87.specialBack hx (y := (⟨"com/example/saldera/saldera/coupon/Cashier", "<init>", "(Ljava/lang/String;Ljava/lang/String;Z)V"⟩ : MethodName)) rfl hown (mvT hZ (hw _ (List.mem_of_getElem? (i := 36) rfl))) (mvT hZ (hw _ (List.mem_of_getElem? (i := 37) rfl))) (mvT hZ (hw _ (List.mem_of_getElem? (i := 38) rfl))) (by decide) (backOf (W := 1) (own_rmCB l Z a0 hw [] b86 aU b50 d3 h87 n0 (Nat.le_trans Z0 KP.1) OL E_b86 ge_b86 F_username_b86 F_branch_b86 F_crossBranch_b86) hZ (hw _ (List.mem_of_getElem? (i := 38) rfl)) (hw _ (List.mem_of_getElem? (i := 32) rfl)) (by decide) (by decide)) (g := (mkF m 283 #[iv p0, iv p1, iv p2, iv d3, iv 1, iv 1, iv b0, iv b1, iv b2, iv b3, iv c0, iv c1, iv c2, iv c3, rv b50, rv b79, .unset, .unset, .unset] [(.int d3), (.ref b50), (.ref aU), (.ref b86), (.ref b86)])) rfl (by rw [hml]; rfl) (Steps.refl _) (a := b86) (argsL := [(.ref aU), (.ref b50), (.int d3)]) (rest := [(.ref b86)]) (lenOf own_pd3 rfl) rfl (by show 2 * 0 + _ ≤ _; exact Nat.le_of_eq rfl) (hb hby at_283) (fun _ _ => ⟨rfl, e87, (by decide : 9 + 0 ≤ _), (by decide : 33 + 0 ≤ _)⟩)
      dsimp only [Pt.U, Pt.locs, Pt.cells, Pt.slots] at X88 l88 y88 z88 st88 hQ88
      subst l88 y88 z88
      obtain ⟨rfl, N88q, K88, Ea88, Fb88, Fx88⟩ := hQ88
      have N88 := Fr.app N85 N88q
      have OL := OL.keep K88 (allS ge_b86 all0)
      have KP := KP.trans K88 (allS (Or.inr sz_b86) all0)
      have hk1 := Nat.le_trans hk1 K88.1
      have V_b51 := V_b51.keep K88 (ninS ne_b51_b86 nin0)
      have S_br := S_br.keep K88 (ninS ne_b50_b86 nin0) (ninS ne_t_br_b86 nin0)
      have V_b80 := V_b80.keep K88 (ninS ne_b80_b86 nin0)
      have S_co := S_co.keep K88 (ninS ne_b79_b86 nin0) (ninS ne_t_co_b86 nin0)
      have E_b86 := E_b86.keep K88
      refine own_via (mkF m 286 #[iv p0, iv p1, iv p2, iv d3, iv 1, iv 1, iv b0, iv b1, iv b2, iv b3, iv c0, iv c1, iv c2, iv c3, rv b50, rv b79, .unset, .unset, .unset] [(.ref b86)]) st88 ?_
      have EC : Exa Z T88.heap b86 "com/example/saldera/saldera/coupon/Cashier" := Ea88
      have FB : Fld Z T88.heap b86 "com/example/saldera/saldera/coupon/Cashier" "branch" "Ljava/lang/String;" (.ref b50) := Fb88
      have FX : Fld Z T88.heap b86 "com/example/saldera/saldera/coupon/Cashier" "crossBranch" "Z" (.int (nar .boolean d3)) := Fx88
      refine own_to (T' := T88) (mkF m 288 #[iv p0, iv p1, iv p2, iv d3, iv 1, iv 1, iv b0, iv b1, iv b2, iv b3, iv c0, iv c1, iv c2, iv c3, rv b50, rv b79, rv b86, .unset, .unset] []) (fun _ k => XS.astore X88.here hx rfl (hb hby at_286) rfl rfl (l' := #[iv p0, iv p1, iv p2, iv d3, iv 1, iv 1, iv b0, iv b1, iv b2, iv b3, iv c0, iv c1, iv c2, iv c3, rv b50, rv b79, rv b86, .unset, .unset]) rfl k) ?_
      refine own_to (T' := T88) (mkF m 290 #[iv p0, iv p1, iv p2, iv d3, iv 1, iv 1, iv b0, iv b1, iv b2, iv b3, iv c0, iv c1, iv c2, iv c3, rv b50, rv b79, rv b86, .unset, .unset] [(.int (1 : Int32))]) (fun _ k => XS.iload X88.here hx rfl (hb hby at_288) rfl k) ?_
      refine own_to (T' := T88) (mkF m 293 #[iv p0, iv p1, iv p2, iv d3, iv 1, iv 1, iv b0, iv b1, iv b2, iv b3, iv c0, iv c1, iv c2, iv c3, rv b50, rv b79, rv b86, .unset, .unset] []) (fun _ k => XS.ifNo X88.here hx rfl (hb hby at_290) rfl ((if0 _ _).trans (feq (by decide : ¬ ((1 : Int32) = (0 : Int32)))).1) k) ?_
      refine own_to (T' := T88) (mkF m 295 #[iv p0, iv p1, iv p2, iv d3, iv 1, iv 1, iv b0, iv b1, iv b2, iv b3, iv c0, iv c1, iv c2, iv c3, rv b50, rv b79, rv b86, .unset, .unset] [(.int (1 : Int32))]) (fun _ k => XS.iload X88.here hx rfl (hb hby at_293) rfl k) ?_
      refine own_to (T' := T88) (mkF m 330 #[iv p0, iv p1, iv p2, iv d3, iv 1, iv 1, iv b0, iv b1, iv b2, iv b3, iv c0, iv c1, iv c2, iv c3, rv b50, rv b79, rv b86, .unset, .unset] []) (fun _ k => XS.ifYes X88.here hx rfl (pc0 := 295) (pc' := 330) rfl (hb hby at_295) rfl ((if0 _ _).trans (feq (by decide : ¬ ((1 : Int32) = (0 : Int32)))).2) (by decide) (by decide) k) ?_
      refine own_to (T' := T88) (mkF m 331 #[iv p0, iv p1, iv p2, iv d3, iv 1, iv 1, iv b0, iv b1, iv b2, iv b3, iv c0, iv c1, iv c2, iv c3, rv b50, rv b79, rv b86, .unset, .unset] [(.int (0 : Int32))]) (fun _ k => XS.iconst X88.here hx rfl (hb hby at_330) k) ?_
      refine own_to (T' := T88) (mkF m 333 #[iv p0, iv p1, iv p2, iv d3, iv 1, iv 1, iv b0, iv b1, iv b2, iv b3, iv c0, iv c1, iv c2, iv c3, rv b50, rv b79, rv b86, iv 0, .unset] []) (fun _ k => XS.istore X88.here hx rfl (hb hby at_331) rfl (l' := #[iv p0, iv p1, iv p2, iv d3, iv 1, iv 1, iv b0, iv b1, iv b2, iv b3, iv c0, iv c1, iv c2, iv c3, rv b50, rv b79, rv b86, iv 0, .unset]) rfl k) ?_
      rcases own_01 hd3t hd3f with q | q
      · subst q
        refine own_to (T' := T88) (mkF m 334 #[iv p0, iv p1, iv p2, iv 0, iv 1, iv 1, iv b0, iv b1, iv b2, iv b3, iv c0, iv c1, iv c2, iv c3, rv b50, rv b79, rv b86, iv 0, .unset] [(.int (0 : Int32))]) (fun _ k => XS.iloadN X88.here hx rfl (hb hby at_333) rfl k) ?_
        refine own_to (T' := T88) (mkF m 337 #[iv p0, iv p1, iv p2, iv 0, iv 1, iv 1, iv b0, iv b1, iv b2, iv b3, iv c0, iv c1, iv c2, iv c3, rv b50, rv b79, rv b86, iv 0, .unset] []) (fun _ k => XS.ifNo X88.here hx rfl (hb hby at_334) rfl ((if0 _ _).trans (teq (by decide : (0 : Int32) = (0 : Int32))).2) k) ?_
        refine own_to (T' := T88) (mkF m 339 #[iv p0, iv p1, iv p2, iv 0, iv 1, iv 1, iv b0, iv b1, iv b2, iv b3, iv c0, iv c1, iv c2, iv c3, rv b50, rv b79, rv b86, iv 0, .unset] [(.int (0 : Int32))]) (fun _ k => XS.iload X88.here hx rfl (hb hby at_337) rfl k) ?_
        refine own_to (T' := T88) (mkF m 346 #[iv p0, iv p1, iv p2, iv 0, iv 1, iv 1, iv b0, iv b1, iv b2, iv b3, iv c0, iv c1, iv c2, iv c3, rv b50, rv b79, rv b86, iv 0, .unset] []) (fun _ k => XS.ifYes X88.here hx rfl (pc0 := 339) (pc' := 346) rfl (hb hby at_339) rfl ((if0 _ _).trans (teq (by decide : (0 : Int32) = (0 : Int32))).1) (by decide) (by decide) k) ?_
        refine own_to (T' := T88) (mkF m 347 #[iv p0, iv p1, iv p2, iv 0, iv 1, iv 1, iv b0, iv b1, iv b2, iv b3, iv c0, iv c1, iv c2, iv c3, rv b50, rv b79, rv b86, iv 0, .unset] [(.int (0 : Int32))]) (fun _ k => XS.iconst X88.here hx rfl (hb hby at_346) k) ?_
        refine own_to (T' := T88) (mkF m 349 #[iv p0, iv p1, iv p2, iv 0, iv 1, iv 1, iv b0, iv b1, iv b2, iv b3, iv c0, iv c1, iv c2, iv c3, rv b50, rv b79, rv b86, iv 0, iv 0] []) (fun _ k => XS.istore X88.here hx rfl (hb hby at_347) rfl (l' := #[iv p0, iv p1, iv p2, iv 0, iv 1, iv 1, iv b0, iv b1, iv b2, iv b3, iv c0, iv c1, iv c2, iv c3, rv b50, rv b79, rv b86, iv 0, iv 0]) rfl k) ?_
        refine own_to (T' := T88) (mkF m 351 #[iv p0, iv p1, iv p2, iv 0, iv 1, iv 1, iv b0, iv b1, iv b2, iv b3, iv c0, iv c1, iv c2, iv c3, rv b50, rv b79, rv b86, iv 0, iv 0] [(.ref b86)]) (fun _ k => XS.aload X88.here hx rfl (hb hby at_349) rfl rfl k) ?_
        refine own_to (T' := T88) (mkF m 353 #[iv p0, iv p1, iv p2, iv 0, iv 1, iv 1, iv b0, iv b1, iv b2, iv b3, iv c0, iv c1, iv c2, iv c3, rv b50, rv b79, rv b86, iv 0, iv 0] [(.ref b79), (.ref b86)]) (fun _ k => XS.aload X88.here hx rfl (hb hby at_351) rfl rfl k) ?_
        obtain ⟨cq89, kq89, q89a, q89b, q89c⟩ := isOf hZ rfl EC
        obtain ⟨_, _, ⟨T89, L89, k89, n89⟩, -, X89, ⟨Lc89, hQ89, l89, y89, z89⟩, st89⟩ := X88.virtualBack hx (y := (⟨"com/example/saldera/saldera/coupon/Cashier", "mayCollect", "(Ljava/lang/String;)Z"⟩ : MethodName)) (z := (⟨"com/example/saldera/saldera/coupon/Cashier", "mayCollect", "(Ljava/lang/String;)Z"⟩ : MethodName)) hown (mvT hZ (hw _ (List.mem_of_getElem? (i := 46) rfl))) (mvT hZ (hw _ (List.mem_of_getElem? (i := 47) rfl))) (notFace_of_selects (args := #[]) (mvT hZ (hw _ (List.mem_of_getElem? (i := 49) rfl)))) (mvT hZ (hw _ (List.mem_of_getElem? (i := 49) rfl))) (mvT hZ (hw _ (List.mem_of_getElem? (i := 48) rfl))) (by decide) (backOf (W := 0) (own_rmMB l Z a0 hw [] G1 b86 b79 t_co kb_co ([c0, c1, c2] : List Int32) b50 t_br kb_br ([b0, b1, b2, b3] : List Int32) T88.heap n0 (Nat.le_trans Z0 KP.1) OL FX FB EC S_co S_br O2 P5) hZ (hw _ (List.mem_of_getElem? (i := 50) rfl)) (hw _ (List.mem_of_getElem? (i := 32) rfl)) (by decide) (by decide)) q89a q89c (g := (mkF m 353 #[iv p0, iv p1, iv p2, iv 0, iv 1, iv 1, iv b0, iv b1, iv b2, iv b3, iv c0, iv c1, iv c2, iv c3, rv b50, rv b79, rv b86, iv 0, iv 0] [(.ref b79), (.ref b86)])) rfl (by rw [hml]; rfl) (Steps.refl _) (argsL := [(.ref b79)]) (rest := []) (lenOf own_pd1 rfl) rfl (by show 2 * 0 + _ ≤ _; exact Nat.le_of_eq rfl) (hb hby at_353) (fun _ _ => ⟨rfl, rfl, (by decide : 9 + 0 ≤ _), (by decide : 33 + 0 ≤ _)⟩)
        dsimp only [Pt.U, Pt.locs, Pt.cells, Pt.slots] at X89 l89 y89 z89 st89 hQ89
        subst l89 y89 z89
        obtain ⟨r89, rfl, h189, h089, N89q, e89⟩ := hQ89
        have N89 := Fr.app N88 N89q
        refine own_via (mkF m 356 #[iv p0, iv p1, iv p2, iv 0, iv 1, iv 1, iv b0, iv b1, iv b2, iv b3, iv c0, iv c1, iv c2, iv c3, rv b50, rv b79, rv b86, iv 0, iv 0] [(.int r89)]) st89 ?_
        have hr89 : r89 = (0 : Int32) := h089 (by simp)
        subst hr89
        refine own_to (T' := T89) (mkF m 358 #[iv p0, iv p1, iv p2, iv 0, iv 1, iv 1, iv b0, iv b1, iv b2, iv b3, iv c0, iv c1, iv c2, iv c3, rv b50, rv b79, rv b86, iv 0, iv 0] [(.int (0 : Int32)), (.int (0 : Int32))]) (fun _ k => XS.iload X89.here hx rfl (hb hby at_356) rfl k) ?_
        refine own_to (T' := T89) (mkF m 361 #[iv p0, iv p1, iv p2, iv 0, iv 1, iv 1, iv b0, iv b1, iv b2, iv b3, iv c0, iv c1, iv c2, iv c3, rv b50, rv b79, rv b86, iv 0, iv 0] []) (fun _ k => XS.icmpNo X89.here hx rfl (hb hby at_358) rfl (teq (by decide : (0 : Int32) = (0 : Int32))).2 k) ?_
        refine own_to (T' := T89) (mkF m 362 #[iv p0, iv p1, iv p2, iv 0, iv 1, iv 1, iv b0, iv b1, iv b2, iv b3, iv c0, iv c1, iv c2, iv c3, rv b50, rv b79, rv b86, iv 0, iv 0] [(.int (1 : Int32))]) (fun _ k => XS.iconst X89.here hx rfl (hb hby at_361) k) ?_
        refine own_to (T' := T89) (mkF m 366 #[iv p0, iv p1, iv p2, iv 0, iv 1, iv 1, iv b0, iv b1, iv b2, iv b3, iv c0, iv c1, iv c2, iv c3, rv b50, rv b79, rv b86, iv 0, iv 0] [(.int (1 : Int32))]) (fun _ k => XS.goto X89.here hx rfl (pc0 := 362) (pc' := 366) rfl (hb hby at_362) (by decide) (by decide) k) ?_
        exact own_retNW (s := s) (vm₁ := T87.vm) X89 hS (by rw [e89]; exact hk1) hx (t := .boolean) Bd.returns (by simp) hlk (hb hby at_366) (by decide) (by decide) (by rw [e89]; exact ⟨rfl, N89⟩)
      · subst q
        refine own_to (T' := T88) (mkF m 334 #[iv p0, iv p1, iv p2, iv 1, iv 1, iv 1, iv b0, iv b1, iv b2, iv b3, iv c0, iv c1, iv c2, iv c3, rv b50, rv b79, rv b86, iv 0, .unset] [(.int (1 : Int32))]) (fun _ k => XS.iloadN X88.here hx rfl (hb hby at_333) rfl k) ?_
        refine own_to (T' := T88) (mkF m 342 #[iv p0, iv p1, iv p2, iv 1, iv 1, iv 1, iv b0, iv b1, iv b2, iv b3, iv c0, iv c1, iv c2, iv c3, rv b50, rv b79, rv b86, iv 0, .unset] []) (fun _ k => XS.ifYes X88.here hx rfl (pc0 := 334) (pc' := 342) rfl (hb hby at_334) rfl ((if0 _ _).trans (feq (by decide : ¬ ((1 : Int32) = (0 : Int32)))).2) (by decide) (by decide) k) ?_
        refine own_to (T' := T88) (mkF m 343 #[iv p0, iv p1, iv p2, iv 1, iv 1, iv 1, iv b0, iv b1, iv b2, iv b3, iv c0, iv c1, iv c2, iv c3, rv b50, rv b79, rv b86, iv 0, .unset] [(.int (1 : Int32))]) (fun _ k => XS.iconst X88.here hx rfl (hb hby at_342) k) ?_
        refine own_to (T' := T88) (mkF m 347 #[iv p0, iv p1, iv p2, iv 1, iv 1, iv 1, iv b0, iv b1, iv b2, iv b3, iv c0, iv c1, iv c2, iv c3, rv b50, rv b79, rv b86, iv 0, .unset] [(.int (1 : Int32))]) (fun _ k => XS.goto X88.here hx rfl (pc0 := 343) (pc' := 347) rfl (hb hby at_343) (by decide) (by decide) k) ?_
        refine own_to (T' := T88) (mkF m 349 #[iv p0, iv p1, iv p2, iv 1, iv 1, iv 1, iv b0, iv b1, iv b2, iv b3, iv c0, iv c1, iv c2, iv c3, rv b50, rv b79, rv b86, iv 0, iv 1] []) (fun _ k => XS.istore X88.here hx rfl (hb hby at_347) rfl (l' := #[iv p0, iv p1, iv p2, iv 1, iv 1, iv 1, iv b0, iv b1, iv b2, iv b3, iv c0, iv c1, iv c2, iv c3, rv b50, rv b79, rv b86, iv 0, iv 1]) rfl k) ?_
        refine own_to (T' := T88) (mkF m 351 #[iv p0, iv p1, iv p2, iv 1, iv 1, iv 1, iv b0, iv b1, iv b2, iv b3, iv c0, iv c1, iv c2, iv c3, rv b50, rv b79, rv b86, iv 0, iv 1] [(.ref b86)]) (fun _ k => XS.aload X88.here hx rfl (hb hby at_349) rfl rfl k) ?_
        refine own_to (T' := T88) (mkF m 353 #[iv p0, iv p1, iv p2, iv 1, iv 1, iv 1, iv b0, iv b1, iv b2, iv b3, iv c0, iv c1, iv c2, iv c3, rv b50, rv b79, rv b86, iv 0, iv 1] [(.ref b79), (.ref b86)]) (fun _ k => XS.aload X88.here hx rfl (hb hby at_351) rfl rfl k) ?_
        obtain ⟨cq90, kq90, q90a, q90b, q90c⟩ := isOf hZ rfl EC
        obtain ⟨_, _, ⟨T90, L90, k90, n90⟩, -, X90, ⟨Lc90, hQ90, l90, y90, z90⟩, st90⟩ := X88.virtualBack hx (y := (⟨"com/example/saldera/saldera/coupon/Cashier", "mayCollect", "(Ljava/lang/String;)Z"⟩ : MethodName)) (z := (⟨"com/example/saldera/saldera/coupon/Cashier", "mayCollect", "(Ljava/lang/String;)Z"⟩ : MethodName)) hown (mvT hZ (hw _ (List.mem_of_getElem? (i := 46) rfl))) (mvT hZ (hw _ (List.mem_of_getElem? (i := 47) rfl))) (notFace_of_selects (args := #[]) (mvT hZ (hw _ (List.mem_of_getElem? (i := 49) rfl)))) (mvT hZ (hw _ (List.mem_of_getElem? (i := 49) rfl))) (mvT hZ (hw _ (List.mem_of_getElem? (i := 48) rfl))) (by decide) (backOf (W := 0) (own_rmMX l Z a0 hw [] b86 b79 T88.heap n0 (Nat.le_trans Z0 KP.1) OL FX) hZ (hw _ (List.mem_of_getElem? (i := 50) rfl)) (hw _ (List.mem_of_getElem? (i := 32) rfl)) (by decide) (by decide)) q90a q90c (g := (mkF m 353 #[iv p0, iv p1, iv p2, iv 1, iv 1, iv 1, iv b0, iv b1, iv b2, iv b3, iv c0, iv c1, iv c2, iv c3, rv b50, rv b79, rv b86, iv 0, iv 1] [(.ref b79), (.ref b86)])) rfl (by rw [hml]; rfl) (Steps.refl _) (argsL := [(.ref b79)]) (rest := []) (lenOf own_pd1 rfl) rfl (by show 2 * 0 + _ ≤ _; exact Nat.le_of_eq rfl) (hb hby at_353) (fun _ _ => ⟨rfl, rfl, (by decide : 9 + 0 ≤ _), (by decide : 33 + 0 ≤ _)⟩)
        dsimp only [Pt.U, Pt.locs, Pt.cells, Pt.slots] at X90 l90 y90 z90 st90 hQ90
        subst l90 y90 z90
        obtain ⟨rfl, N90q, e90⟩ := hQ90
        have N90 := Fr.app N88 N90q
        refine own_via (mkF m 356 #[iv p0, iv p1, iv p2, iv 1, iv 1, iv 1, iv b0, iv b1, iv b2, iv b3, iv c0, iv c1, iv c2, iv c3, rv b50, rv b79, rv b86, iv 0, iv 1] [(.int (1 : Int32))]) st90 ?_
        refine own_to (T' := T90) (mkF m 358 #[iv p0, iv p1, iv p2, iv 1, iv 1, iv 1, iv b0, iv b1, iv b2, iv b3, iv c0, iv c1, iv c2, iv c3, rv b50, rv b79, rv b86, iv 0, iv 1] [(.int (1 : Int32)), (.int (1 : Int32))]) (fun _ k => XS.iload X90.here hx rfl (hb hby at_356) rfl k) ?_
        refine own_to (T' := T90) (mkF m 361 #[iv p0, iv p1, iv p2, iv 1, iv 1, iv 1, iv b0, iv b1, iv b2, iv b3, iv c0, iv c1, iv c2, iv c3, rv b50, rv b79, rv b86, iv 0, iv 1] []) (fun _ k => XS.icmpNo X90.here hx rfl (hb hby at_358) rfl (teq (by decide : (1 : Int32) = (1 : Int32))).2 k) ?_
        refine own_to (T' := T90) (mkF m 362 #[iv p0, iv p1, iv p2, iv 1, iv 1, iv 1, iv b0, iv b1, iv b2, iv b3, iv c0, iv c1, iv c2, iv c3, rv b50, rv b79, rv b86, iv 0, iv 1] [(.int (1 : Int32))]) (fun _ k => XS.iconst X90.here hx rfl (hb hby at_361) k) ?_
        refine own_to (T' := T90) (mkF m 366 #[iv p0, iv p1, iv p2, iv 1, iv 1, iv 1, iv b0, iv b1, iv b2, iv b3, iv c0, iv c1, iv c2, iv c3, rv b50, rv b79, rv b86, iv 0, iv 1] [(.int (1 : Int32))]) (fun _ k => XS.goto X90.here hx rfl (pc0 := 362) (pc' := 366) rfl (hb hby at_362) (by decide) (by decide) k) ?_
        exact own_retNW (s := s) (vm₁ := T87.vm) X90 hS (by rw [e90]; exact hk1) hx (t := .boolean) Bd.returns (by simp) hlk (hb hby at_366) (by decide) (by decide) (by rw [e90]; exact ⟨rfl, N90⟩)
set_option maxRecDepth 65536 in
set_option maxHeartbeats 40000000 in
theorem own_comes {Post : Tables → Env → Array Value → State → Outcome → State → Prop} (hpost : ∀ tb e args s v u, (limb_1_1.after args s (.returned v) u = true ∧ limb_1_2.after args s (.returned v) u = true ∧ True) → ReturnedEndW s (.returned v) u (Jvm.fieldLocs frame_1_writes args s ++ Jvm.arrayLocs frame_1_arrays args s ++ Jvm.staticLocs frame_1_statics s) 24 1152 → Post tb e args s (.returned v) u) :
    ArmFor flags0 classFile x code maxLocals ret World_1 tables_1 room_1 Calls_1 rest_1 Pre_1 Post := by
  intro l hfl _ _ p e ha hc hk s m args below hf hA hF happ hP
  obtain ⟨hcalls, hrest, hpre⟩ := hP
  obtain ⟨-, -, -, hnamed, -, -, -, hat⟩ := (Spec.applies_iff hf).mp happ
  obtain ⟨hg, hn⟩ := and_e (Cond.before_iff.mp (show (Jvm.Cond.and given_1 narrow_1).before args s = true from hpre))
  obtain ⟨hg0, hgr0⟩ := and_e hg
  obtain ⟨hg1, hgr1⟩ := and_e hgr0
  obtain ⟨hg2, hgr2⟩ := and_e hgr1
  obtain ⟨w0, w1, w2, rfl⟩ : ∃ w0 w1 w2 : Value, args = #[w0, w1, w2] := by
    have hs : args.size = 3 := by simpa [Cond.value, given_1] using hg0
    obtain ⟨L⟩ := args
    match L, hs with
    | [w0, w1, w2], _ => exact ⟨w0, w1, w2, rfl⟩
  have hw := fun d (hd : d ∈ tables_1) => atoms_spec (ws := Jvm.Cond.code x code maxLocals ret :: tables_1) hat d (List.mem_cons_of_mem _ hd)
  have hfit : Fit s := fun {y c} hc i hi => by
    obtain ⟨ha, rfl⟩ := Array.getElem?_eq_some_iff.mp hc
    have q := List.all_eq_true.mp ((Array.all_eq_true_iff_forall_mem.mp hF) _ (Array.getElem_mem ha)) i (List.mem_range.mpr hi)
    simpa [Array.getElem?_eq_getElem hi] using q
  obtain ⟨i0, ei0⟩ := is_v hg1
  obtain rfl : w0 = (.int i0) := Option.some.inj ei0
  obtain ⟨i1, ei1⟩ := is_v hg2
  obtain rfl : w1 = (.int i1) := Option.some.inj ei1
  obtain ⟨i2, ei2⟩ := is_v hgr2
  obtain rfl : w2 = (.int i2) := Option.some.inj ei2
  obtain ⟨hsets, hown0⟩ := atoms_of _ (rest_1_c_eq ▸ (show rest_1_c.before _ s = true from hrest))
  have n5 := not_v (Cond.before_iff.mp (hsets _ (List.mem_of_getElem? (i := 2) rfl)))
  obtain ⟨G1, eG1⟩ := is_v (Cond.before_iff.mp (hsets _ (List.mem_of_getElem? (i := 1) rfl)))
  have O2 : Sta s s.heap "java/lang/String" "COMPACT_STRINGS" "Z" (.int G1) := Sta.start eG1 (Or.inl (hsets _ (List.mem_of_getElem? (i := 0) rfl)))
  have P5 : ¬ (G1 = (0 : Int32)) := gotF (Cond.eq_ints eG1 (Term.int_eval (0))) n5
  obtain ⟨n, o, h1, h2, h3, _, L, rfl, ⟨rfl, N⟩, hq⟩ := own_rm0 l s _ hw tables_1 i0 i1 i2 G1 s.heap s.heap.size (Nat.le_refl _) (Old.start s) O2 P5 p e ha hc hk s m _ below hf ((Spec.applies_iff_loose hf).mp happ).1 ⟨rfl, State.Warmed39.refl s, rfl⟩ trivial
  refine ⟨n, _, h1, h2, h3, hpost _ _ _ _ _ _ ⟨Cond.after_iff.mpr rfl, Cond.after_iff.mpr (eq_i res_at (Term.int_eval (1)) rfl), trivial⟩ ⟨hq.1, hq.2.1, hq.2.2.1, (hq.2.2.2.sift fun y hy => Or.inr (N y hy)).mono (by decide) (by decide)⟩⟩
theorem main_1_1 : Claimed_1_1 := own_comes fun _ _ _ _ _ _ h hF => ⟨h.1, hF⟩
theorem main_1_2 : Claimed_1_2 := own_comes fun _ _ _ _ _ _ h hF => ⟨h.2.1, hF⟩
end Jvm.Pilot.@@N@@
namespace Jvm.Pilot.@@N@@
open Jvm Jvm.ClassFile Sem Op Lib Jvm.Free Jvm.Stand Jvm.Pilot.@@N@@.Jvm.D
/-! MADE BY PROGRAM (witnessworld.py) out of the Statement's table words and the real class files: 20 classes; the members and pool entries that the words name. The judged class is class 1, her method 1. -/
namespace start1
open Jvm.ClassFile
def u (s : String) : CpInfo := .utf8 (stringToUtf16 s)
/-- a pool by its gaps: so many unusable entries, then the entry; so many at the end -/
def gap : Nat → List CpInfo → List CpInfo
  | 0, r => r
  | n + 1, r => .unusable :: gap n r
def poolList (es : List (Nat × CpInfo)) (last : Nat) : List CpInfo := es.foldr (fun e r => gap e.1 (e.2 :: r)) (gap last [])
def pool (es : List (Nat × CpInfo)) (last : Nat) : Array CpInfo := ⟨poolList es last⟩
def fileOf (pool : Array CpInfo) (this : Nat) (attrs : Array Attribute := #[]) (ms : Array MethodInfo := #[]) (fl : Nat := 33) (sup : Nat := 0) (ifs : Array Nat := #[]) (fds : Array FieldInfo := #[]) : ClassFile where
  minorVersion := 0
  majorVersion := 65
  constantPool := pool
  accessFlags := fl
  thisClass := this
  superClass := sup
  interfaces := ifs
  fields := fds
  methods := ms
  attributes := attrs
def plain (name : String) (sup : Option ClassId) : Class where
  name := name
  kind := .ordinary
  loader := none
  accessFlags := 33
  super := sup
  interfaces := #[]
  cf := none
  fields := #[]
  methods := #[]
  instanceTypes := #[]
  staticTypes := #[]
  resolved := #[]
  callSites := []
  init := .initialized
  statics := none
  mirror := none

def pool0 : Array CpInfo := pool [(5, u "<init>"), (0, u "()V"), (1, .class_ 10), (1, u "java/lang/Object")] 113

def k0c0 : Code := { maxStack := 0, maxLocals := 1, code := object_method_1_code, exceptionTable := #[], attributes := #[] }
def k0m0 : Method := { name := "<init>", desc := "()V", sig := { parameters := [], returnType := none }, accessFlags := 1, code := some k0c0 }
/-- java/lang/Object -/
def k0 : Class := { plain "java/lang/Object" none with
  accessFlags := 33
  interfaces := #[]
  cf := some (fileOf pool0 8 #[] #[{ accessFlags := 1, nameIndex := 5, descriptorIndex := 6, attributes := #[] }] 33 0 #[] #[])
  fields := #[]
  methods := #[k0m0]
  instanceTypes := #[]
  staticTypes := #[]
  resolved := Array.replicate 124 none
  statics := none }

def pool1 : Array CpInfo := pool [(2, .class_ 4), (1, u "java/lang/Object"), (0, u "<init>"), (0, u "()V"), (0, .class_ 8), (0, u "java/lang/String"), (0, .methodref 7 10), (0, .nameAndType 5 11), (0, u "([C)V"), (0, .class_ 13), (0, u "com/example/saldera/saldera/coupon/Cashier"), (0, .string 15), (0, u "u"), (0, .methodref 12 17), (0, .nameAndType 5 18), (0, u "(Ljava/lang/String;Ljava/lang/String;Z)V"), (0, .methodref 12 20), (0, .nameAndType 21 22), (0, u "mayCollect"), (0, u "(Ljava/lang/String;)Z"), (0, .class_ 24), (0, u "com/example/saldera/saldera/coupon/CashierMayCollectPinLaw"), (2, u "law"), (0, u "(III)Z")] 3

def k1m0 : Method := { name := "<init>", desc := "()V", sig := { parameters := [], returnType := none }, accessFlags := 1, code := none }
def k1c1 : Code := { maxStack := 6, maxLocals := 19, code := code, exceptionTable := #[], attributes := #[] }
def k1m1 : Method := { name := "law", desc := "(III)Z", sig := { parameters := [.int, .int, .int], returnType := some .boolean }, accessFlags := 9, code := some k1c1 }
/-- com/example/saldera/saldera/coupon/CashierMayCollectPinLaw -/
def k1 : Class := { plain "com/example/saldera/saldera/coupon/CashierMayCollectPinLaw" (some 0) with
  accessFlags := 49
  interfaces := #[]
  cf := some (fileOf pool1 23 #[] #[{ accessFlags := 1, nameIndex := 5, descriptorIndex := 6, attributes := #[] }, { accessFlags := 9, nameIndex := 27, descriptorIndex := 28, attributes := #[] }] 49 2 #[] #[])
  fields := #[]
  methods := #[k1m0, k1m1]
  instanceTypes := #[]
  staticTypes := #[]
  resolved := Array.replicate 32 none
  statics := none }

def pool2 : Array CpInfo := pool [(1, .class_ 2), (0, u "java/io/Serializable"), (0, .class_ 4), (0, u "java/lang/Object")] 2

/-- java/io/Serializable -/
def k2 : Class := { plain "java/io/Serializable" (some 0) with
  accessFlags := 1537
  interfaces := #[]
  cf := some (fileOf pool2 1 #[] #[] 1537 3 #[] #[])
  fields := #[]
  methods := #[]
  instanceTypes := #[]
  staticTypes := #[]
  resolved := Array.replicate 7 none
  statics := none }

def pool3 : Array CpInfo := pool [(1, .class_ 2), (0, u "java/lang/Comparable"), (0, .class_ 4), (0, u "java/lang/Object")] 7

/-- java/lang/Comparable -/
def k3 : Class := { plain "java/lang/Comparable" (some 0) with
  accessFlags := 1537
  interfaces := #[]
  cf := some (fileOf pool3 1 #[] #[] 1537 3 #[] #[])
  fields := #[]
  methods := #[]
  instanceTypes := #[]
  staticTypes := #[]
  resolved := Array.replicate 12 none
  statics := none }

def pool4 : Array CpInfo := pool [(2, .class_ 4), (1, u "java/lang/CharSequence"), (42, .class_ 48), (0, u "java/lang/CharSequence$1CodePointIterator"), (10, .class_ 60), (0, u "java/lang/CharSequence$1CharIterator"), (5, .class_ 67), (0, u "java/lang/Object")] 63

/-- java/lang/CharSequence -/
def k4 : Class := { plain "java/lang/CharSequence" (some 0) with
  accessFlags := 1537
  interfaces := #[]
  cf := some (fileOf pool4 2 #[.nestMembers #[47, 59]] #[] 1537 66 #[] #[])
  fields := #[]
  methods := #[]
  instanceTypes := #[]
  staticTypes := #[]
  resolved := Array.replicate 131 none
  statics := none }

def pool5 : Array CpInfo := pool [(1, .class_ 2), (0, u "java/lang/constant/Constable"), (0, .class_ 4), (0, u "java/lang/Object")] 6

/-- java/lang/constant/Constable -/
def k5 : Class := { plain "java/lang/constant/Constable" (some 0) with
  accessFlags := 1537
  interfaces := #[]
  cf := some (fileOf pool5 1 #[] #[] 1537 3 #[] #[])
  fields := #[]
  methods := #[]
  instanceTypes := #[]
  staticTypes := #[]
  resolved := Array.replicate 11 none
  statics := none }

def pool6 : Array CpInfo := pool [(1, .class_ 2), (0, u "java/lang/constant/ConstantDesc"), (0, .class_ 4), (0, u "java/lang/Object")] 32

/-- java/lang/constant/ConstantDesc -/
def k6 : Class := { plain "java/lang/constant/ConstantDesc" (some 0) with
  accessFlags := 1537
  interfaces := #[]
  cf := some (fileOf pool6 1 #[] #[] 1537 3 #[] #[])
  fields := #[]
  methods := #[]
  instanceTypes := #[]
  staticTypes := #[]
  resolved := Array.replicate 37 none
  statics := none }

def pool7 : Array CpInfo := pool [(1, .methodref 2 3), (0, .class_ 4), (0, .nameAndType 5 6), (0, u "java/lang/Object"), (0, u "<init>"), (0, u "()V"), (2, .fieldref 10 11), (0, .class_ 12), (0, .nameAndType 13 14), (0, u "java/lang/String"), (0, u "value"), (0, u "[B"), (0, .fieldref 10 16), (0, .nameAndType 17 18), (0, u "coder"), (0, u "B"), (2, u "hash"), (0, u "I"), (2, u "hashIsZero"), (0, u "Z"), (0, .methodref 10 28), (0, .nameAndType 5 29), (0, u "([CIILjava/lang/Void;)V"), (8, .fieldref 10 39), (0, .nameAndType 40 26), (0, u "COMPACT_STRINGS"), (1, .class_ 44), (1, u "java/lang/StringUTF16"), (0, u "compress"), (1, .methodref 42 48), (0, .nameAndType 49 50), (0, u "coderFromArrayLen"), (0, u "([BI)B"), (56, .class_ 109), (1, u "java/lang/StringLatin1"), (67, .methodref 42 178), (0, .nameAndType 45 179), (0, u "([CII)[B"), (361, .methodref 107 542), (0, .nameAndType 543 544), (0, u "equals"), (0, u "([B[B)Z"), (28, u "(Ljava/lang/Object;)Z"), (1, .class_ 576), (0, u "java/lang/CharSequence"), (22, u "CASE_INSENSITIVE_ORDER"), (0, u "Ljava/util/Comparator;"), (409, u "([C)V"), (90, u "serialPersistentFields"), (0, u "[Ljava/io/ObjectStreamField;"), (0, .class_ 1104), (0, u "java/lang/String$CaseInsensitiveComparator"), (1, .class_ 1107), (0, u "java/io/Serializable"), (0, .class_ 1109), (0, u "java/lang/Comparable"), (0, .class_ 1111), (0, u "java/lang/constant/Constable"), (0, .class_ 1113), (0, u "java/lang/constant/ConstantDesc"), (2, u "serialVersionUID"), (0, u "J"), (3, u "REPL"), (0, u "C"), (2, u "LATIN1"), (1, u "UTF16")] 323

def k7m0 : Method := { name := "<init>", desc := "()V", sig := { parameters := [], returnType := none }, accessFlags := 1, code := none }
def k7c1 : Code := { maxStack := 5, maxLocals := 2, code := jdk_42_method_3_code, exceptionTable := #[], attributes := #[] }
def k7m1 : Method := { name := "<init>", desc := "([C)V", sig := { parameters := [(.array .char)], returnType := none }, accessFlags := 1, code := some k7c1 }
def k7c2 : Code := { maxStack := 2, maxLocals := 3, code := jdk_42_method_66_code, exceptionTable := #[], attributes := #[] }
def k7m2 : Method := { name := "equals", desc := "(Ljava/lang/Object;)Z", sig := { parameters := [(.object "java/lang/Object")], returnType := some .boolean }, accessFlags := 1, code := some k7c2 }
def k7c3 : Code := { maxStack := 4, maxLocals := 6, code := jdk_42_method_149_code, exceptionTable := #[], attributes := #[] }
def k7m3 : Method := { name := "<init>", desc := "([CIILjava/lang/Void;)V", sig := { parameters := [(.array .char), .int, .int, (.object "java/lang/Void")], returnType := none }, accessFlags := 2, code := some k7c3 }
/-- java/lang/String -/
def k7 : Class := { plain "java/lang/String" (some 0) with
  accessFlags := 49
  interfaces := #[2, 3, 4, 5, 6]
  cf := some (fileOf pool7 10 #[.nestMembers #[1103]] #[{ accessFlags := 1, nameIndex := 5, descriptorIndex := 6, attributes := #[] }, { accessFlags := 1, nameIndex := 5, descriptorIndex := 1010, attributes := #[] }, { accessFlags := 1, nameIndex := 543, descriptorIndex := 573, attributes := #[] }, { accessFlags := 2, nameIndex := 5, descriptorIndex := 29, attributes := #[] }] 49 2 #[1106, 1108, 575, 1110, 1112] #[{ accessFlags := 18, nameIndex := 13, descriptorIndex := 14, attributes := #[] }, { accessFlags := 18, nameIndex := 17, descriptorIndex := 18, attributes := #[] }, { accessFlags := 2, nameIndex := 21, descriptorIndex := 22, attributes := #[] }, { accessFlags := 2, nameIndex := 25, descriptorIndex := 26, attributes := #[] }, { accessFlags := 26, nameIndex := 1116, descriptorIndex := 1117, attributes := #[] }, { accessFlags := 24, nameIndex := 40, descriptorIndex := 26, attributes := #[] }, { accessFlags := 26, nameIndex := 1101, descriptorIndex := 1102, attributes := #[] }, { accessFlags := 26, nameIndex := 1121, descriptorIndex := 1122, attributes := #[] }, { accessFlags := 25, nameIndex := 599, descriptorIndex := 600, attributes := #[] }, { accessFlags := 24, nameIndex := 1125, descriptorIndex := 18, attributes := #[] }, { accessFlags := 24, nameIndex := 1127, descriptorIndex := 18, attributes := #[] }])
  fields := #[{ name := "value", type := (.array .byte), accessFlags := 18, slot := 0, constantValue := 0 }, { name := "coder", type := .byte, accessFlags := 18, slot := 1, constantValue := 0 }, { name := "hash", type := .int, accessFlags := 2, slot := 2, constantValue := 0 }, { name := "hashIsZero", type := .boolean, accessFlags := 2, slot := 3, constantValue := 0 }, { name := "serialVersionUID", type := .long, accessFlags := 26, slot := 0, constantValue := 0 }, { name := "COMPACT_STRINGS", type := .boolean, accessFlags := 24, slot := 1, constantValue := 0 }, { name := "serialPersistentFields", type := (.array (.object "java/io/ObjectStreamField")), accessFlags := 26, slot := 2, constantValue := 0 }, { name := "REPL", type := .char, accessFlags := 26, slot := 3, constantValue := 0 }, { name := "CASE_INSENSITIVE_ORDER", type := (.object "java/util/Comparator"), accessFlags := 25, slot := 4, constantValue := 0 }, { name := "LATIN1", type := .byte, accessFlags := 24, slot := 5, constantValue := 0 }, { name := "UTF16", type := .byte, accessFlags := 24, slot := 6, constantValue := 0 }]
  methods := #[k7m0, k7m1, k7m2, k7m3]
  instanceTypes := #[(.array .byte), .byte, .int, .boolean]
  staticTypes := #[.long, .boolean, (.array (.object "java/io/ObjectStreamField")), .char, (.object "java/util/Comparator"), .byte, .byte]
  resolved := Array.replicate 1451 none
  statics := some 0 }

def pool8 : Array CpInfo := pool [(6, .class_ 8), (1, u "java/lang/Object"), (0, u "<init>"), (0, u "()V"), (1, .class_ 14), (1, u "java/lang/StringUTF16"), (31, u "$assertionsDisabled"), (0, u "Z"), (13, u "HI_BYTE_SHIFT"), (0, u "I"), (2, u "LO_BYTE_SHIFT"), (49, .methodref 12 116), (0, .nameAndType 117 118), (0, u "compress"), (0, u "([CI[BII)I"), (3, u "([CII)[B"), (138, u "coderFromArrayLen"), (0, u "([BI)B"), (106, .class_ 371), (1, u "java/lang/StringUTF16$LinesSpliterator"), (58, u "MAX_LENGTH"), (196, .class_ 628), (0, u "java/lang/StringUTF16$CodePointsSpliterator"), (0, .class_ 630), (0, u "java/lang/StringUTF16$CharsSpliterator")] 4

def k8m0 : Method := { name := "<init>", desc := "()V", sig := { parameters := [], returnType := none }, accessFlags := 0, code := none }
def k8c1 : Code := { maxStack := 2, maxLocals := 2, code := jdk_52_method_15_code, exceptionTable := #[], attributes := #[] }
def k8m1 : Method := { name := "coderFromArrayLen", desc := "([BI)B", sig := { parameters := [(.array .byte), .int], returnType := some .byte }, accessFlags := 8, code := some k8c1 }
def k8c2 : Code := { maxStack := 5, maxLocals := 6, code := jdk_52_method_16_code, exceptionTable := #[], attributes := #[] }
def k8m2 : Method := { name := "compress", desc := "([CII)[B", sig := { parameters := [(.array .char), .int, .int], returnType := some (.array .byte) }, accessFlags := 9, code := some k8c2 }
def k8c3 : Code := { maxStack := 3, maxLocals := 7, code := jdk_52_method_21_code, exceptionTable := #[], attributes := #[] }
def k8m3 : Method := { name := "compress", desc := "([CI[BII)I", sig := { parameters := [(.array .char), .int, (.array .byte), .int, .int], returnType := some .int }, accessFlags := 9, code := some k8c3 }
/-- java/lang/StringUTF16 -/
def k8 : Class := { plain "java/lang/StringUTF16" (some 0) with
  accessFlags := 48
  interfaces := #[]
  cf := some (fileOf pool8 12 #[.nestMembers #[627, 629, 369]] #[{ accessFlags := 0, nameIndex := 9, descriptorIndex := 10, attributes := #[] }, { accessFlags := 8, nameIndex := 261, descriptorIndex := 262, attributes := #[] }, { accessFlags := 9, nameIndex := 117, descriptorIndex := 122, attributes := #[] }, { accessFlags := 9, nameIndex := 117, descriptorIndex := 118, attributes := #[] }] 48 6 #[] #[{ accessFlags := 26, nameIndex := 61, descriptorIndex := 62, attributes := #[] }, { accessFlags := 26, nameIndex := 65, descriptorIndex := 62, attributes := #[] }, { accessFlags := 24, nameIndex := 430, descriptorIndex := 62, attributes := #[] }, { accessFlags := 4120, nameIndex := 46, descriptorIndex := 47, attributes := #[] }])
  fields := #[{ name := "HI_BYTE_SHIFT", type := .int, accessFlags := 26, slot := 0, constantValue := 0 }, { name := "LO_BYTE_SHIFT", type := .int, accessFlags := 26, slot := 1, constantValue := 0 }, { name := "MAX_LENGTH", type := .int, accessFlags := 24, slot := 2, constantValue := 0 }, { name := "$assertionsDisabled", type := .boolean, accessFlags := 4120, slot := 3, constantValue := 0 }]
  methods := #[k8m0, k8m1, k8m2, k8m3]
  instanceTypes := #[]
  staticTypes := #[.int, .int, .int, .boolean]
  resolved := Array.replicate 635 none
  statics := none }

def pool9 : Array CpInfo := pool [(1, .methodref 2 3), (0, .class_ 4), (0, .nameAndType 5 6), (0, u "java/lang/Object"), (0, u "<init>"), (0, u "()V"), (0, .fieldref 8 9), (0, .class_ 10), (0, .nameAndType 11 12), (0, u "com/example/saldera/saldera/coupon/Cashier"), (0, u "username"), (0, u "Ljava/lang/String;"), (0, .fieldref 8 14), (0, .nameAndType 15 12), (0, u "branch"), (0, .fieldref 8 17), (0, .nameAndType 18 19), (0, u "crossBranch"), (0, u "Z"), (0, .methodref 21 22), (0, .class_ 23), (0, .nameAndType 24 25), (0, u "java/lang/String"), (0, u "equals"), (0, u "(Ljava/lang/Object;)Z"), (0, .methodref 8 27), (0, .nameAndType 28 29), (0, u "isOtherBranch"), (0, u "(Ljava/lang/String;)Z"), (0, u "(Ljava/lang/String;Ljava/lang/String;Z)V"), (6, u "mayCollect")] 2

def k9c0 : Code := { maxStack := 2, maxLocals := 4, code := prog_14_method_1_code, exceptionTable := #[], attributes := #[] }
def k9m0 : Method := { name := "<init>", desc := "(Ljava/lang/String;Ljava/lang/String;Z)V", sig := { parameters := [(.object "java/lang/String"), (.object "java/lang/String"), .boolean], returnType := none }, accessFlags := 1, code := some k9c0 }
def k9c1 : Code := { maxStack := 2, maxLocals := 2, code := prog_14_method_4_code, exceptionTable := #[], attributes := #[] }
def k9m1 : Method := { name := "isOtherBranch", desc := "(Ljava/lang/String;)Z", sig := { parameters := [(.object "java/lang/String")], returnType := some .boolean }, accessFlags := 1, code := some k9c1 }
def k9c2 : Code := { maxStack := 2, maxLocals := 2, code := prog_14_method_5_code, exceptionTable := #[], attributes := #[] }
def k9m2 : Method := { name := "mayCollect", desc := "(Ljava/lang/String;)Z", sig := { parameters := [(.object "java/lang/String")], returnType := some .boolean }, accessFlags := 1, code := some k9c2 }
/-- com/example/saldera/saldera/coupon/Cashier -/
def k9 : Class := { plain "com/example/saldera/saldera/coupon/Cashier" (some 0) with
  accessFlags := 49
  interfaces := #[]
  cf := some (fileOf pool9 8 #[] #[{ accessFlags := 1, nameIndex := 5, descriptorIndex := 30, attributes := #[] }, { accessFlags := 1, nameIndex := 28, descriptorIndex := 29, attributes := #[] }, { accessFlags := 1, nameIndex := 37, descriptorIndex := 29, attributes := #[] }] 49 2 #[] #[{ accessFlags := 18, nameIndex := 11, descriptorIndex := 12, attributes := #[] }, { accessFlags := 18, nameIndex := 15, descriptorIndex := 12, attributes := #[] }, { accessFlags := 18, nameIndex := 18, descriptorIndex := 19, attributes := #[] }])
  fields := #[{ name := "username", type := (.object "java/lang/String"), accessFlags := 18, slot := 0, constantValue := 0 }, { name := "branch", type := (.object "java/lang/String"), accessFlags := 18, slot := 1, constantValue := 0 }, { name := "crossBranch", type := .boolean, accessFlags := 18, slot := 2, constantValue := 0 }]
  methods := #[k9m0, k9m1, k9m2]
  instanceTypes := #[(.object "java/lang/String"), (.object "java/lang/String"), .boolean]
  staticTypes := #[]
  resolved := Array.replicate 40 none
  statics := none }

def pool10 : Array CpInfo := pool [(4, .class_ 6), (1, u "java/lang/Object"), (0, u "<init>"), (0, u "()V"), (5, .class_ 16), (1, u "java/lang/StringLatin1"), (104, u "$assertionsDisabled"), (0, u "Z"), (98, .class_ 223), (1, u "java/lang/StringLatin1$LinesSpliterator"), (57, u "equals"), (0, u "([B[B)Z"), (107, .class_ 391), (0, u "java/lang/StringLatin1$CharsSpliterator")] 3

def k10m0 : Method := { name := "<init>", desc := "()V", sig := { parameters := [], returnType := none }, accessFlags := 0, code := none }
def k10c1 : Code := { maxStack := 3, maxLocals := 3, code := jdk_43_method_13_code, exceptionTable := #[], attributes := #[] }
def k10m1 : Method := { name := "equals", desc := "([B[B)Z", sig := { parameters := [(.array .byte), (.array .byte)], returnType := some .boolean }, accessFlags := 9, code := some k10c1 }
/-- java/lang/StringLatin1 -/
def k10 : Class := { plain "java/lang/StringLatin1" (some 0) with
  accessFlags := 48
  interfaces := #[]
  cf := some (fileOf pool10 14 #[.nestMembers #[390, 221]] #[{ accessFlags := 0, nameIndex := 7, descriptorIndex := 8, attributes := #[] }, { accessFlags := 9, nameIndex := 281, descriptorIndex := 282, attributes := #[] }] 48 4 #[] #[{ accessFlags := 4120, nameIndex := 121, descriptorIndex := 122, attributes := #[] }])
  fields := #[{ name := "$assertionsDisabled", type := .boolean, accessFlags := 4120, slot := 0, constantValue := 0 }]
  methods := #[k10m0, k10m1]
  instanceTypes := #[]
  staticTypes := #[.boolean]
  resolved := Array.replicate 395 none
  statics := none }

def pool11 : Array CpInfo := pool [(2, .class_ 4), (1, u "java/lang/Object"), (0, u "<init>"), (0, u "()V"), (17, .class_ 26), (1, u "jdk/internal/util/Preconditions"), (28, .class_ 56), (0, u "jdk/internal/util/Preconditions$4"), (57, .class_ 115), (0, u "jdk/internal/util/Preconditions$1"), (7, u "SIOOBE_FORMATTER"), (0, u "Ljava/util/function/BiFunction;"), (0, .class_ 126), (0, u "jdk/internal/util/Preconditions$2"), (3, u "AIOOBE_FORMATTER"), (0, .class_ 132), (0, u "jdk/internal/util/Preconditions$3"), (3, u "IOOBE_FORMATTER")] 57

def k11m0 : Method := { name := "<init>", desc := "()V", sig := { parameters := [], returnType := none }, accessFlags := 1, code := none }
/-- jdk/internal/util/Preconditions -/
def k11 : Class := { plain "jdk/internal/util/Preconditions" (some 0) with
  accessFlags := 33
  interfaces := #[]
  cf := some (fileOf pool11 24 #[.nestMembers #[55, 131, 125, 114]] #[{ accessFlags := 1, nameIndex := 5, descriptorIndex := 6, attributes := #[] }] 33 2 #[] #[{ accessFlags := 25, nameIndex := 123, descriptorIndex := 124, attributes := #[] }, { accessFlags := 25, nameIndex := 130, descriptorIndex := 124, attributes := #[] }, { accessFlags := 25, nameIndex := 136, descriptorIndex := 124, attributes := #[] }])
  fields := #[{ name := "SIOOBE_FORMATTER", type := (.object "java/util/function/BiFunction"), accessFlags := 25, slot := 0, constantValue := 0 }, { name := "AIOOBE_FORMATTER", type := (.object "java/util/function/BiFunction"), accessFlags := 25, slot := 1, constantValue := 0 }, { name := "IOOBE_FORMATTER", type := (.object "java/util/function/BiFunction"), accessFlags := 25, slot := 2, constantValue := 0 }]
  methods := #[k11m0]
  instanceTypes := #[]
  staticTypes := #[(.object "java/util/function/BiFunction"), (.object "java/util/function/BiFunction"), (.object "java/util/function/BiFunction")]
  resolved := Array.replicate 194 none
  statics := some 1 }

def pool12 : Array CpInfo := pool [(9, u "<init>"), (6, .class_ 18), (1, u "java/lang/Object"), (0, u "()V"), (1, .class_ 23), (1, u "jdk/internal/util/ArraysSupport"), (0, u "LOG2_ARRAY_LONG_INDEX_SCALE"), (0, u "I"), (2, u "U"), (0, u "Ljdk/internal/misc/Unsafe;"), (8, u "BIG_ENDIAN"), (0, u "Z"), (8, u "LOG2_BYTE_BIT_SIZE"), (4, u "LOG2_ARRAY_INT_INDEX_SCALE"), (54, u "JLA"), (0, u "Ljdk/internal/access/JavaLangAccess;"), (11, u "LOG2_ARRAY_BOOLEAN_INDEX_SCALE"), (9, u "LOG2_ARRAY_BYTE_INDEX_SCALE"), (5, u "LOG2_ARRAY_CHAR_INDEX_SCALE"), (5, u "LOG2_ARRAY_SHORT_INDEX_SCALE"), (18, u "LOG2_ARRAY_FLOAT_INDEX_SCALE"), (24, u "LOG2_ARRAY_DOUBLE_INDEX_SCALE"), (89, u "T_BOOLEAN"), (2, u "T_CHAR"), (1, u "T_FLOAT"), (1, u "T_DOUBLE"), (1, u "T_BYTE"), (1, u "T_SHORT"), (1, u "T_INT"), (1, u "T_LONG"), (1, u "SOFT_MAX_ARRAY_LENGTH")] 83

def k12m0 : Method := { name := "<init>", desc := "()V", sig := { parameters := [], returnType := none }, accessFlags := 2, code := none }
/-- jdk/internal/util/ArraysSupport -/
def k12 : Class := { plain "jdk/internal/util/ArraysSupport" (some 0) with
  accessFlags := 33
  interfaces := #[]
  cf := some (fileOf pool12 21 #[] #[{ accessFlags := 2, nameIndex := 9, descriptorIndex := 19, attributes := #[] }] 33 16 #[] #[{ accessFlags := 24, nameIndex := 28, descriptorIndex := 29, attributes := #[] }, { accessFlags := 26, nameIndex := 38, descriptorIndex := 39, attributes := #[] }, { accessFlags := 25, nameIndex := 121, descriptorIndex := 25, attributes := #[] }, { accessFlags := 25, nameIndex := 131, descriptorIndex := 25, attributes := #[] }, { accessFlags := 25, nameIndex := 137, descriptorIndex := 25, attributes := #[] }, { accessFlags := 25, nameIndex := 143, descriptorIndex := 25, attributes := #[] }, { accessFlags := 25, nameIndex := 53, descriptorIndex := 25, attributes := #[] }, { accessFlags := 25, nameIndex := 24, descriptorIndex := 25, attributes := #[] }, { accessFlags := 25, nameIndex := 162, descriptorIndex := 25, attributes := #[] }, { accessFlags := 25, nameIndex := 187, descriptorIndex := 25, attributes := #[] }, { accessFlags := 26, nameIndex := 48, descriptorIndex := 25, attributes := #[] }, { accessFlags := 25, nameIndex := 277, descriptorIndex := 25, attributes := #[] }, { accessFlags := 25, nameIndex := 280, descriptorIndex := 25, attributes := #[] }, { accessFlags := 25, nameIndex := 282, descriptorIndex := 25, attributes := #[] }, { accessFlags := 25, nameIndex := 284, descriptorIndex := 25, attributes := #[] }, { accessFlags := 25, nameIndex := 286, descriptorIndex := 25, attributes := #[] }, { accessFlags := 25, nameIndex := 288, descriptorIndex := 25, attributes := #[] }, { accessFlags := 25, nameIndex := 290, descriptorIndex := 25, attributes := #[] }, { accessFlags := 25, nameIndex := 292, descriptorIndex := 25, attributes := #[] }, { accessFlags := 26, nameIndex := 108, descriptorIndex := 109, attributes := #[] }, { accessFlags := 25, nameIndex := 294, descriptorIndex := 25, attributes := #[] }])
  fields := #[{ name := "U", type := (.object "jdk/internal/misc/Unsafe"), accessFlags := 24, slot := 0, constantValue := 0 }, { name := "BIG_ENDIAN", type := .boolean, accessFlags := 26, slot := 1, constantValue := 0 }, { name := "LOG2_ARRAY_BOOLEAN_INDEX_SCALE", type := .int, accessFlags := 25, slot := 2, constantValue := 0 }, { name := "LOG2_ARRAY_BYTE_INDEX_SCALE", type := .int, accessFlags := 25, slot := 3, constantValue := 0 }, { name := "LOG2_ARRAY_CHAR_INDEX_SCALE", type := .int, accessFlags := 25, slot := 4, constantValue := 0 }, { name := "LOG2_ARRAY_SHORT_INDEX_SCALE", type := .int, accessFlags := 25, slot := 5, constantValue := 0 }, { name := "LOG2_ARRAY_INT_INDEX_SCALE", type := .int, accessFlags := 25, slot := 6, constantValue := 0 }, { name := "LOG2_ARRAY_LONG_INDEX_SCALE", type := .int, accessFlags := 25, slot := 7, constantValue := 0 }, { name := "LOG2_ARRAY_FLOAT_INDEX_SCALE", type := .int, accessFlags := 25, slot := 8, constantValue := 0 }, { name := "LOG2_ARRAY_DOUBLE_INDEX_SCALE", type := .int, accessFlags := 25, slot := 9, constantValue := 0 }, { name := "LOG2_BYTE_BIT_SIZE", type := .int, accessFlags := 26, slot := 10, constantValue := 0 }, { name := "T_BOOLEAN", type := .int, accessFlags := 25, slot := 11, constantValue := 0 }, { name := "T_CHAR", type := .int, accessFlags := 25, slot := 12, constantValue := 0 }, { name := "T_FLOAT", type := .int, accessFlags := 25, slot := 13, constantValue := 0 }, { name := "T_DOUBLE", type := .int, accessFlags := 25, slot := 14, constantValue := 0 }, { name := "T_BYTE", type := .int, accessFlags := 25, slot := 15, constantValue := 0 }, { name := "T_SHORT", type := .int, accessFlags := 25, slot := 16, constantValue := 0 }, { name := "T_INT", type := .int, accessFlags := 25, slot := 17, constantValue := 0 }, { name := "T_LONG", type := .int, accessFlags := 25, slot := 18, constantValue := 0 }, { name := "JLA", type := (.object "jdk/internal/access/JavaLangAccess"), accessFlags := 26, slot := 19, constantValue := 0 }, { name := "SOFT_MAX_ARRAY_LENGTH", type := .int, accessFlags := 25, slot := 20, constantValue := 0 }]
  methods := #[k12m0]
  instanceTypes := #[]
  staticTypes := #[(.object "jdk/internal/misc/Unsafe"), .boolean, .int, .int, .int, .int, .int, .int, .int, .int, .int, .int, .int, .int, .int, .int, .int, .int, .int, (.object "jdk/internal/access/JavaLangAccess"), .int]
  resolved := Array.replicate 378 none
  statics := none }

def pool13 : Array CpInfo := pool [(1, u "java/lang/Cloneable"), (0, .class_ 1), (0, u "java/lang/Object"), (0, .class_ 3)] 3

/-- java/lang/Cloneable -/
def k13 : Class := { plain "java/lang/Cloneable" (some 0) with
  accessFlags := 1537
  interfaces := #[]
  cf := some (fileOf pool13 2 #[] #[] 1537 4 #[] #[])
  fields := #[]
  methods := #[]
  instanceTypes := #[]
  staticTypes := #[]
  resolved := Array.replicate 8 none
  statics := none }

/-- the primitive byte -/
def k14 : Class := { plain "byte" none with kind := .primitive 'B', accessFlags := 0x411 }
/-- [B -/
def k15 : Class := { plain "[B" (some 0) with kind := .array 14 .byte, interfaces := #[13, 2], accessFlags := 1041 }

/-- the primitive char -/
def k16 : Class := { plain "char" none with kind := .primitive 'C', accessFlags := 0x411 }
/-- [C -/
def k17 : Class := { plain "[C" (some 0) with kind := .array 16 .char, interfaces := #[13, 2], accessFlags := 1041 }

/-- the primitive int -/
def k18 : Class := { plain "int" none with kind := .primitive 'I', accessFlags := 0x411 }
/-- [I -/
def k19 : Class := { plain "[I" (some 0) with kind := .array 18 .int, interfaces := #[13, 2], accessFlags := 1041 }

def heap : Heap := #[{ cls := 7, slots := #[.long 0, .int 1, .null, .int 0, .null, .int 0, .int 0], vm := .statics 7 },
  { cls := 11, slots := #[.null, .null, .null], vm := .statics 11 }]
def classes : Array Class := #[k0, k1, k2, k3, k4, k5, k6, k7, k8, k9, k10, k11, k12, k13, k14, k15, k16, k17, k18, k19]
def interned : List (Array UInt16 × Addr) := []
def slotsUsed : Nat := 10
def theMethod : MethodId := ⟨1, 1⟩
def args0 : Array Value := #[.int 5, .int 3, .int 2]
def aboutOver (below : List Frame) : State where
  vm := { classes := classes, interned := interned.toArray }
  heap := heap
  slotsUsed := slotsUsed
  threads := #[{ frames := .invoking theMethod args0 :: below }]
def below0 : List Frame := [.native { method := ⟨0, 0⟩, args := #[] }]
def about1 : State := aboutOver below0
def p0 : Program := .bare "" "" ""
def e0 : Env := launch0.env 0 0 0
theorem w_frames : about1.frames = Frame.invoking theMethod args0 :: below0 := rfl
set_option maxRecDepth 65536 in
theorem w_args : argsFit about1.vm theMethod args0 = true := by decide +kernel
set_option maxRecDepth 65536 in
theorem w_heap : heapFits about1 = true := by decide +kernel
set_option maxRecDepth 65536 in
theorem w_runnable : about1.curStatus? = some .runnable := by decide +kernel
set_option maxRecDepth 65536 in
theorem w_alone : about1.alone = true := by decide +kernel
set_option maxRecDepth 65536 in
theorem w_named : about1.methodNamed? x = some theMethod := by decide +kernel
set_option maxRecDepth 65536 in
theorem w_hears : about1.hears theMethod below0 = true := by decide +kernel
set_option maxRecDepth 65536 in
theorem w_ripe : about1.ripe theMethod args0 below0 = true := by decide +kernel
theorem w_running : about1.status = .running := rfl
set_option maxRecDepth 65536 in
theorem w_room : about1.hasRoom e0.platform room_1 = true :=
  launch0.hasRoom_least _ room_1 (by decide +kernel) (by decide +kernel) (by decide +kernel) (by decide +kernel) (by decide +kernel) (by decide +kernel)
theorem allAtoms_all (ts : List Jvm.Cond) (a : Array Jvm.Value) (st : Jvm.State) : (allAtoms ts).before a st = ts.all (fun c => c.before a st) := by
  induction ts with
  | nil => rfl
  | cons c t ih =>
    show (Jvm.Cond.and c (allAtoms t)).before a st = _
    rw [Jvm.Cond.before_and, ih, List.all_cons]
def words1 : List Jvm.Cond := Jvm.Cond.code x code maxLocals ret :: tables_1
/-- a 'code' word, met by the world's own term for the bytes: nothing is compared byte by byte -/
theorem code_word {y : MethodName} {bytes : ByteArray} {mx : Nat} {rt : Option FieldType} {a : Array Value} {s : State} {m : MethodId} {meth : Method} {c : Code} (h1 : s.methodNamed? y = some m) (h2 : s.vm.method? m = some meth) (h3 : meth.code = some c) (h4 : c.code = bytes)
    (h5 : (c.maxLocals == mx && c.exceptionTable.isEmpty && decide (c.maxStack ≤ mostOperands) && decide (meth.sig.returnType = rt) && !meth.locks && decide (parseMethodDescriptor y.desc = some meth.sig)) = true) : (Jvm.Cond.code y bytes mx rt).before a s = true := by
  simp only [Bool.and_eq_true, beq_iff_eq, Bool.not_eq_true', decide_eq_true_eq] at h5
  obtain ⟨⟨⟨⟨⟨g1, g2⟩, g3⟩, g4⟩, g5⟩, g6⟩ := h5
  simp [Cond.before, Cond.holds, Cond.value, h1, h2, h3, h4, g1, g2, g3, g4, g5, g6]
def isCode : Jvm.Cond → Bool
  | .code _ _ _ _ => true
  | _ => false
theorem all_split {L : List Jvm.Cond} {P : Jvm.Cond → Bool} (h1 : L.all (fun c => isCode c || P c) = true) (h2 : ∀ c ∈ L.filter isCode, P c = true) : L.all P = true := by
  refine List.all_eq_true.mpr fun c hc => ?_
  have h := List.all_eq_true.mp h1 c hc
  rcases Bool.eq_false_or_eq_true (isCode c) with hi | hi
  · exact h2 c (List.mem_filter.mpr ⟨hc, hi⟩)
  · simpa [hi] using h
set_option maxRecDepth 65536 in
theorem w_c0 : (Jvm.Cond.code x code maxLocals ret).before args0 about1 = true := code_word (m := ⟨1, 1⟩) (meth := k1m1) (c := k1c1) (by decide +kernel) rfl rfl rfl (by decide +kernel)
set_option maxRecDepth 65536 in
theorem w_c1 : (Jvm.Cond.code ({ cls := "java/lang/String", name := "<init>", desc := "([C)V" } : Jvm.MethodName) jdk_42_method_3_code (2 : Nat) (Option.none : Option Jvm.ClassFile.FieldType)).before args0 about1 = true := code_word (m := ⟨7, 1⟩) (meth := k7m1) (c := k7c1) (by decide +kernel) rfl rfl rfl (by decide +kernel)
set_option maxRecDepth 65536 in
theorem w_c2 : (Jvm.Cond.code ({ cls := "java/lang/String", name := "<init>", desc := "([CIILjava/lang/Void;)V" } : Jvm.MethodName) jdk_42_method_149_code (6 : Nat) (Option.none : Option Jvm.ClassFile.FieldType)).before args0 about1 = true := code_word (m := ⟨7, 3⟩) (meth := k7m3) (c := k7c3) (by decide +kernel) rfl rfl rfl (by decide +kernel)
set_option maxRecDepth 65536 in
theorem w_c3 : (Jvm.Cond.code ({ cls := "java/lang/Object", name := "<init>", desc := "()V" } : Jvm.MethodName) object_method_1_code (1 : Nat) (Option.none : Option Jvm.ClassFile.FieldType)).before args0 about1 = true := code_word (m := ⟨0, 0⟩) (meth := k0m0) (c := k0c0) (by decide +kernel) rfl rfl rfl (by decide +kernel)
set_option maxRecDepth 65536 in
theorem w_c4 : (Jvm.Cond.code ({ cls := "java/lang/StringUTF16", name := "compress", desc := "([CII)[B" } : Jvm.MethodName) jdk_52_method_16_code (6 : Nat) (Option.some (Jvm.ClassFile.FieldType.array Jvm.ClassFile.FieldType.byte))).before args0 about1 = true := code_word (m := ⟨8, 2⟩) (meth := k8m2) (c := k8c2) (by decide +kernel) rfl rfl rfl (by decide +kernel)
set_option maxRecDepth 65536 in
theorem w_c5 : (Jvm.Cond.code ({ cls := "java/lang/StringUTF16", name := "compress", desc := "([CI[BII)I" } : Jvm.MethodName) jdk_52_method_21_code (7 : Nat) (Option.some Jvm.ClassFile.FieldType.int)).before args0 about1 = true := code_word (m := ⟨8, 3⟩) (meth := k8m3) (c := k8c3) (by decide +kernel) rfl rfl rfl (by decide +kernel)
set_option maxRecDepth 65536 in
theorem w_c6 : (Jvm.Cond.code ({ cls := "java/lang/StringUTF16", name := "coderFromArrayLen", desc := "([BI)B" } : Jvm.MethodName) jdk_52_method_15_code (2 : Nat) (Option.some Jvm.ClassFile.FieldType.byte)).before args0 about1 = true := code_word (m := ⟨8, 1⟩) (meth := k8m1) (c := k8c1) (by decide +kernel) rfl rfl rfl (by decide +kernel)
set_option maxRecDepth 65536 in
theorem w_c7 : (Jvm.Cond.code ({ cls := "com/example/saldera/saldera/coupon/Cashier", name := "<init>", desc := "(Ljava/lang/String;Ljava/lang/String;Z)V" } : Jvm.MethodName) prog_14_method_1_code (4 : Nat) (Option.none : Option Jvm.ClassFile.FieldType)).before args0 about1 = true := code_word (m := ⟨9, 0⟩) (meth := k9m0) (c := k9c0) (by decide +kernel) rfl rfl rfl (by decide +kernel)
set_option maxRecDepth 65536 in
theorem w_c8 : (Jvm.Cond.code ({ cls := "com/example/saldera/saldera/coupon/Cashier", name := "mayCollect", desc := "(Ljava/lang/String;)Z" } : Jvm.MethodName) prog_14_method_5_code (2 : Nat) (Option.some Jvm.ClassFile.FieldType.boolean)).before args0 about1 = true := code_word (m := ⟨9, 2⟩) (meth := k9m2) (c := k9c2) (by decide +kernel) rfl rfl rfl (by decide +kernel)
set_option maxRecDepth 65536 in
theorem w_c9 : (Jvm.Cond.code ({ cls := "com/example/saldera/saldera/coupon/Cashier", name := "isOtherBranch", desc := "(Ljava/lang/String;)Z" } : Jvm.MethodName) prog_14_method_4_code (2 : Nat) (Option.some Jvm.ClassFile.FieldType.boolean)).before args0 about1 = true := code_word (m := ⟨9, 1⟩) (meth := k9m1) (c := k9c1) (by decide +kernel) rfl rfl rfl (by decide +kernel)
set_option maxRecDepth 65536 in
theorem w_c10 : (Jvm.Cond.code ({ cls := "java/lang/String", name := "equals", desc := "(Ljava/lang/Object;)Z" } : Jvm.MethodName) jdk_42_method_66_code (3 : Nat) (Option.some Jvm.ClassFile.FieldType.boolean)).before args0 about1 = true := code_word (m := ⟨7, 2⟩) (meth := k7m2) (c := k7c2) (by decide +kernel) rfl rfl rfl (by decide +kernel)
set_option maxRecDepth 65536 in
theorem w_c11 : (Jvm.Cond.code ({ cls := "java/lang/StringLatin1", name := "equals", desc := "([B[B)Z" } : Jvm.MethodName) jdk_43_method_13_code (3 : Nat) (Option.some Jvm.ClassFile.FieldType.boolean)).before args0 about1 = true := code_word (m := ⟨10, 1⟩) (meth := k10m1) (c := k10c1) (by decide +kernel) rfl rfl rfl (by decide +kernel)
def codes1 : List Jvm.Cond := [Jvm.Cond.code x code maxLocals ret, Jvm.Cond.code ({ cls := "java/lang/String", name := "<init>", desc := "([C)V" } : Jvm.MethodName) jdk_42_method_3_code (2 : Nat) (Option.none : Option Jvm.ClassFile.FieldType), Jvm.Cond.code ({ cls := "java/lang/String", name := "<init>", desc := "([CIILjava/lang/Void;)V" } : Jvm.MethodName) jdk_42_method_149_code (6 : Nat) (Option.none : Option Jvm.ClassFile.FieldType), Jvm.Cond.code ({ cls := "java/lang/Object", name := "<init>", desc := "()V" } : Jvm.MethodName) object_method_1_code (1 : Nat) (Option.none : Option Jvm.ClassFile.FieldType), Jvm.Cond.code ({ cls := "java/lang/StringUTF16", name := "compress", desc := "([CII)[B" } : Jvm.MethodName) jdk_52_method_16_code (6 : Nat) (Option.some (Jvm.ClassFile.FieldType.array Jvm.ClassFile.FieldType.byte)), Jvm.Cond.code ({ cls := "java/lang/StringUTF16", name := "compress", desc := "([CI[BII)I" } : Jvm.MethodName) jdk_52_method_21_code (7 : Nat) (Option.some Jvm.ClassFile.FieldType.int), Jvm.Cond.code ({ cls := "java/lang/StringUTF16", name := "coderFromArrayLen", desc := "([BI)B" } : Jvm.MethodName) jdk_52_method_15_code (2 : Nat) (Option.some Jvm.ClassFile.FieldType.byte), Jvm.Cond.code ({ cls := "com/example/saldera/saldera/coupon/Cashier", name := "<init>", desc := "(Ljava/lang/String;Ljava/lang/String;Z)V" } : Jvm.MethodName) prog_14_method_1_code (4 : Nat) (Option.none : Option Jvm.ClassFile.FieldType), Jvm.Cond.code ({ cls := "com/example/saldera/saldera/coupon/Cashier", name := "mayCollect", desc := "(Ljava/lang/String;)Z" } : Jvm.MethodName) prog_14_method_5_code (2 : Nat) (Option.some Jvm.ClassFile.FieldType.boolean), Jvm.Cond.code ({ cls := "com/example/saldera/saldera/coupon/Cashier", name := "isOtherBranch", desc := "(Ljava/lang/String;)Z" } : Jvm.MethodName) prog_14_method_4_code (2 : Nat) (Option.some Jvm.ClassFile.FieldType.boolean), Jvm.Cond.code ({ cls := "java/lang/String", name := "equals", desc := "(Ljava/lang/Object;)Z" } : Jvm.MethodName) jdk_42_method_66_code (3 : Nat) (Option.some Jvm.ClassFile.FieldType.boolean), Jvm.Cond.code ({ cls := "java/lang/StringLatin1", name := "equals", desc := "([B[B)Z" } : Jvm.MethodName) jdk_43_method_13_code (3 : Nat) (Option.some Jvm.ClassFile.FieldType.boolean)]
set_option maxRecDepth 65536 in
theorem codes_eq : words1.filter isCode = codes1 := rfl
theorem w_codes : ∀ c ∈ words1.filter isCode, c.before args0 about1 = true := by
  rw [codes_eq]
  intro c hc
  simp only [codes1, List.mem_cons, List.not_mem_nil, or_false] at hc
  rcases hc with rfl | rfl | rfl | rfl | rfl | rfl | rfl | rfl | rfl | rfl | rfl | rfl
  · exact w_c0
  · exact w_c1
  · exact w_c2
  · exact w_c3
  · exact w_c4
  · exact w_c5
  · exact w_c6
  · exact w_c7
  · exact w_c8
  · exact w_c9
  · exact w_c10
  · exact w_c11
set_option maxRecDepth 65536 in
theorem w_t1 : (words1.take 24).all (fun c => isCode c || c.before args0 about1) = true := by decide +kernel
set_option maxRecDepth 65536 in
theorem w_t2 : ((words1.drop 24).take 24).all (fun c => isCode c || c.before args0 about1) = true := by decide +kernel
set_option maxRecDepth 65536 in
theorem w_t3 : ((words1.drop 24).drop 24).all (fun c => isCode c || c.before args0 about1) = true := by decide +kernel
theorem w_tables : (allAtoms (Jvm.Cond.code x code maxLocals ret :: tables_1)).before args0 about1 = true := by
  rw [allAtoms_all]
  show words1.all (fun c => c.before args0 about1) = true
  refine all_split ?_ w_codes
  rw [← List.take_append_drop 24 words1, List.all_append, w_t1, ← List.take_append_drop 24 (words1.drop 24), List.all_append, w_t2, w_t3]
  rfl
set_option maxRecDepth 65536 in
theorem w_rest : rest_1_c.before args0 about1 = true := by decide +kernel
set_option maxRecDepth 65536 in
theorem w_case : (Jvm.Cond.and given_1 narrow_1).before args0 about1 = true := by decide +kernel
theorem w_applies : (headSpec (Jvm.Cond.code x code maxLocals ret :: tables_1) room_1).applies x e0.platform about1 = true :=
  (Spec.applies_iff w_frames).mpr ⟨w_running, w_runnable, w_alone, w_named, w_hears, w_ripe, w_room, w_tables⟩
theorem atStart : AtStart classFile x code maxLocals ret World_1 tables_1 room_1 Calls_1 rest_1 Pre_1 launch0 p0 e0 about1 theMethod args0 below0 :=
  ⟨lists_1, trivial, launch0.admits_env _ _ _, launch0.least_env, fairChoices_fair.cas, fairChoices_fair.clock, w_frames, w_args, w_heap, w_applies, trivial, w_rest, w_case⟩
end start1
theorem witness_1 : WitnessClaimed_1 := ⟨start1.p0, start1.e0, start1.about1, start1.theMethod, start1.args0, start1.below0, start1.atStart⟩
end Jvm.Pilot.@@N@@
