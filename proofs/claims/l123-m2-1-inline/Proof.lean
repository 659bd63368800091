import JvmDerived
import JvmDerived.Pilot.@@N@@Statement
import JvmDerived.Pilot.@@N@@Code
set_option linter.unusedVariables false
set_option linter.unusedSimpArgs false
namespace Jvm.Pilot.@@N@@
namespace StrChars
open Jvm Sem ClassFile Op Lib Jvm.Stand Jvm.Free.XT Jvm.Free.ALB Jvm.Free.JM Jvm.Free
open Jvm.Lib.Cold (StaticIs)
def Ch (a : Addr) (A : Cell) (U : State) : Prop := Arr .char a A U ∧ Typed .char A
theorem Ch.mv {a : Addr} {A : Cell} {U U' : State} (h : Ch a A U) (hal : U.vm.Alike U'.vm) (hh : U'.heap = U.heap) : Ch a A U' := ⟨h.1.mv hal hh, h.2⟩
theorem Ch.keep {a : Addr} {A : Cell} {U U' : State} (h : Ch a A U) (hal : U.vm.Alike U'.vm) (hk : U'.heap[a]? = some A) : Ch a A U' := ⟨h.1.keep hal hk, h.2⟩
def cv (A : Cell) (i : Nat) : Int32 := match A.slots[i]? with | some (.int x) => x | _ => 0
theorem Ch.get {a : Addr} {A : Cell} {U : State} (h : Ch a A U) {i : Nat} (hi : i < A.slots.size) : A.slots[i]? = some (.int (cv A i)) := by
  have e := Array.getElem?_eq_getElem hi
  have f := h.2 i _ e
  unfold cv; rw [e]
  generalize A.slots[i] = v at f
  cases v <;> simp [fits] at f ⊢
def lo8 (x : Int32) : Int32 := x.toInt8.toInt32
theorem fits_lo8 (y : Int32) : fits .byte (.int (lo8 y)) = true := by
  have h1 := y.toInt8.le_toInt
  have h2 := y.toInt8.toInt_lt
  simp only [lo8, fits, Bool.and_eq_true, decide_eq_true_eq, Int32.le_iff_toInt_le, Int8.toInt_toInt32, show (-128 : Int32).toInt = -128 from by decide, show (127 : Int32).toInt = 127 from by decide]
  omega
def Laid (A A' : Cell) (lo hi : Nat) (f : Nat → Value) : Prop := A'.cls = A.cls ∧ A'.vm = A.vm ∧ A'.slots.size = A.slots.size ∧ ∀ i, A'.slots[i]? = if lo ≤ i ∧ i < hi then some (f i) else A.slots[i]?
theorem Laid.zero (A : Cell) (lo : Nat) (f : Nat → Value) : Laid A A lo (lo + 0) f := ⟨rfl, rfl, rfl, fun i => by rw [if_neg (by omega)]⟩
theorem Laid.step {A Ak : Cell} {lo k : Nat} {f : Nat → Value} {v : Value} (h : Laid A Ak lo k f) (hlo : lo ≤ k) (hk : k < Ak.slots.size) (hv : v = f k) : Laid A (Ak.setSlot k v) lo (k + 1) f := by
  refine ⟨h.1, h.2.1, by simpa [Cell.setSlot] using h.2.2.1, fun i => ?_⟩
  by_cases e : k = i
  · subst e; rw [Cell.slots_setSlot_self v hk, if_pos (by omega), hv]
  · rw [Cell.slots_setSlot_ne v e, h.2.2.2 i]
    by_cases q : lo ≤ i ∧ i < k
    · rw [if_pos q, if_pos (by omega)]
    · rw [if_neg q, if_neg (by omega)]
def U16 : String := "java/lang/StringUTF16"
namespace Cmp5
def yN : MethodName := ⟨"java/lang/StringUTF16", "compress", "([CI[BII)I"⟩
abbrev yB : ByteArray := jdk_52_method_21_code
theorem d0 : decode yB 0 = .ok (.iconst 0, 1) := by decide +kernel
theorem d1 : decode yB 1 = .ok (.istore 5, 2) := by decide +kernel
theorem d3 : decode yB 3 = .ok (.iload 5, 2) := by decide +kernel
theorem d5 : decode yB 5 = .ok (.iload 4, 2) := by decide +kernel
theorem d7 : decode yB 7 = .ok (.if_icmp (.ge) 37, 3) := by decide +kernel
theorem d10 : decode yB 10 = .ok (.aload_n 0, 1) := by decide +kernel
theorem d11 : decode yB 11 = .ok (.iload_n 1, 1) := by decide +kernel
theorem d12 : decode yB 12 = .ok (.caload, 1) := by decide +kernel
theorem d13 : decode yB 13 = .ok (.istore 6, 2) := by decide +kernel
theorem d15 : decode yB 15 = .ok (.iload 6, 2) := by decide +kernel
theorem d17 : decode yB 17 = .ok (.sipush 255, 3) := by decide +kernel
theorem d20 : decode yB 20 = .ok (.if_icmp (.le) 6, 3) := by decide +kernel
theorem d26 : decode yB 26 = .ok (.aload_n 2, 1) := by decide +kernel
theorem d27 : decode yB 27 = .ok (.iload_n 3, 1) := by decide +kernel
theorem d28 : decode yB 28 = .ok (.iload 6, 2) := by decide +kernel
theorem d30 : decode yB 30 = .ok (.i2b, 1) := by decide +kernel
theorem d31 : decode yB 31 = .ok (.bastore, 1) := by decide +kernel
theorem d32 : decode yB 32 = .ok (.iinc 1 1, 3) := by decide +kernel
theorem d35 : decode yB 35 = .ok (.iinc 3 1, 3) := by decide +kernel
theorem d38 : decode yB 38 = .ok (.iinc 5 1, 3) := by decide +kernel
theorem d41 : decode yB 41 = .ok (.goto (-38), 3) := by decide +kernel
theorem d44 : decode yB 44 = .ok (.iload 4, 2) := by decide +kernel
theorem d46 : decode yB 46 = .ok (.ireturn, 1) := by decide +kernel
def site : List Cond := []
def tab : Cond := tabOf yN yB 7 (some .int) site
def P (b : Addr) (A : Cell) (d : Addr) (B : Cell) (o q len : Nat) (args : Array Value) (s : State) : Prop := args = #[.ref b, .int (Int32.ofNat o), .ref d, .int (Int32.ofNat q), .int (Int32.ofNat len)] ∧ Ch b A s ∧ Arr .byte d B s ∧ b ≠ d ∧ o + len ≤ A.slots.size ∧ q + len ≤ B.slots.size ∧ ∀ i, i < len → ¬ 255 < cv A (o + i)
def E (b : Addr) (A : Cell) (d : Addr) (B : Cell) (o q len : Nat) (r : Option Value) (s u : State) : Prop := r = some (.int (Int32.ofNat len)) ∧ ∃ B', Put d B' s u ∧ Laid B B' q (q + len) (fun j => Value.int (lo8 (cv A (o + (j - q)))))
theorem law (l : Launch) (b : Addr) (A : Cell) (d : Addr) (B : Cell) (o q len : Nat) : Law l yN 5 5 0 0 yB 7 (some .int) site (P b A d B o q len) (E b A d B o q len) (copyLocs d q len) 0 0 := by
  refine Law.of_walk (plainFor_of_name (by decide +kernel)) (by decide +kernel) (by decide +kernel) (by decide) (fun _ _ h => by rw [h.1]; rfl) (fun _ U U' hal hh h => ⟨h.1, h.2.1.mv hal hh, h.2.2.1.mv hal hh, h.2.2.2⟩) (fun r U U' V V' h1 hal h2 h => ⟨h.1, h.2.elim fun B' q => ⟨B', q.1.mv h1 h2, q.2⟩⟩) ?_
  intro p e s m args below meth c s₁ X0 hexec hbytes hml hret hlk hnm hown hh0 W hP
  obtain ⟨rfl, hA, hB, hne, l1, l2, hp⟩ := hP
  have c1 : Steps p.tables e below (s₁.setTop (entryFrame m #[.ref b, .int (Int32.ofNat o), .ref d, .int (Int32.ofNat q), .int (Int32.ofNat len)] 7)) (s₁.setTop (mkF m 0 #[.val (.ref b), .val (.int (Int32.ofNat o)), .val (.ref d), .val (.int (Int32.ofNat q)), .val (.int (Int32.ofNat len)), .unset, .unset] [])) := entry rfl
  have hA0 := hA.1.mv X0.warmed.alike hh0
  have hB0 := hB.mv X0.warmed.alike hh0
  have a31 := hA.1.2.2.2
  have c2 : Steps p.tables e below (s₁.setTop (entryFrame m #[.ref b, .int (Int32.ofNat o), .ref d, .int (Int32.ofNat q), .int (Int32.ofNat len)] 7)) (s₁.setTop (mkF m 3 #[.val (.ref b), .val (.int (Int32.ofNat o)), .val (.ref d), .val (.int (Int32.ofNat q)), .val (.int (Int32.ofNat len)), .val (.int 0), .unset] [])) := c1.trans (by
    refine iconstV X0.here hexec rfl 0 (hb hbytes d0) (by decide) ?_
    refine XS.istore X0.here hexec rfl (hb hbytes d1) rfl rfl ?_
    exact Steps.refl _)
  have loop : ∀ (r i : Nat), i + r = len → ∀ (z : Slot), (z = .unset ∨ ∃ w, z = .val w ∧ w.category = 1) → ∀ (Tl : State) (Bk : Cell), Stand p l e { frames := 0, locals := 0, cells := 0, slots := 0 } s m #[.ref b, .int (Int32.ofNat o), .ref d, .int (Int32.ofNat q), .int (Int32.ofNat len)] below meth c Tl ([] ++ copyLocs d q i) 0 0 → Put d Bk s₁ Tl → Laid B Bk q (q + i) (fun j => Value.int (lo8 (cv A (o + (j - q))))) →
      Steps p.tables e below (s₁.setTop (entryFrame m #[.ref b, .int (Int32.ofNat o), .ref d, .int (Int32.ofNat q), .int (Int32.ofNat len)] 7)) (Tl.setTop (mkF m 3 #[.val (.ref b), .val (.int (Int32.ofNat (o + i))), .val (.ref d), .val (.int (Int32.ofNat (q + i))), .val (.int (Int32.ofNat len)), .val (.int (Int32.ofNat i)), z] [])) → ∃ (T' : State) (B' : Cell) (z' : Slot), Stand p l e { frames := 0, locals := 0, cells := 0, slots := 0 } s m #[.ref b, .int (Int32.ofNat o), .ref d, .int (Int32.ofNat q), .int (Int32.ofNat len)] below meth c T' ([] ++ copyLocs d q len) 0 0 ∧ Put d B' s₁ T' ∧ Laid B B' q (q + len) (fun j => Value.int (lo8 (cv A (o + (j - q))))) ∧
      Steps p.tables e below (s₁.setTop (entryFrame m #[.ref b, .int (Int32.ofNat o), .ref d, .int (Int32.ofNat q), .int (Int32.ofNat len)] 7)) (T'.setTop (mkF m 3 #[.val (.ref b), .val (.int (Int32.ofNat (o + len))), .val (.ref d), .val (.int (Int32.ofNat (q + len))), .val (.int (Int32.ofNat len)), .val (.int (Int32.ofNat len)), z'] [])) := by
    intro r
    induction r with
    | zero =>
      intro i hi z hz Tl Bk Xl pl fl cl
      have hil : i = len := by omega
      rw [hil] at Xl fl cl
      exact ⟨Tl, Bk, z, Xl, pl, fl, cl⟩
    | succ r ih =>
      intro i hi z hz Tl Bk Xl pl fl cl
      have all := X0.warmed.alike.symm.trans Xl.warmed.alike
      have hAl := hA0.keep all (pl.other hne hA0.1)
      have hBk := hB0.like all pl.1 fl.1 fl.2.1 fl.2.2.1
      have hlt : q + i < Bk.slots.size := by rw [fl.2.2.1]; omega
      have c3 : Steps p.tables e below (s₁.setTop (entryFrame m #[.ref b, .int (Int32.ofNat o), .ref d, .int (Int32.ofNat q), .int (Int32.ofNat len)] 7)) (Tl.setTop (mkF m 12 #[.val (.ref b), .val (.int (Int32.ofNat (o + i))), .val (.ref d), .val (.int (Int32.ofNat (q + i))), .val (.int (Int32.ofNat len)), .val (.int (Int32.ofNat i)), z] [.int (Int32.ofNat (o + i)), .ref b])) := cl.trans (by
        refine XS.iload Xl.here hexec rfl (hb hbytes d3) rfl ?_
        refine XS.iload Xl.here hexec rfl (hb hbytes d5) rfl ?_
        refine XS.icmpNo Xl.here hexec rfl (hb hbytes d7) rfl (ii_ge_f (lt32 (by omega) (by omega))) ?_
        refine XS.aloadN Xl.here hexec rfl (hb hbytes d10) rfl rfl ?_
        refine XS.iloadN Xl.here hexec rfl (hb hbytes d11) rfl ?_
        exact Steps.refl _)
      have c4 : Steps p.tables e below (s₁.setTop (entryFrame m #[.ref b, .int (Int32.ofNat o), .ref d, .int (Int32.ofNat q), .int (Int32.ofNat len)] 7)) (Tl.setTop (mkF m 13 #[.val (.ref b), .val (.int (Int32.ofNat (o + i))), .val (.ref d), .val (.int (Int32.ofNat (q + i))), .val (.int (Int32.ofNat len)), .val (.int (Int32.ofNat i)), z] [.int (cv A (o + i))])) := c3.trans (by
        refine Xl.aget hexec hAl rfl (hA.get (i := o + i) (by omega)) rfl rfl (hb hbytes d12) ?_
        exact Steps.refl _)
      have c5 : Steps p.tables e below (s₁.setTop (entryFrame m #[.ref b, .int (Int32.ofNat o), .ref d, .int (Int32.ofNat q), .int (Int32.ofNat len)] 7)) (Tl.setTop (mkF m 15 #[.val (.ref b), .val (.int (Int32.ofNat (o + i))), .val (.ref d), .val (.int (Int32.ofNat (q + i))), .val (.int (Int32.ofNat len)), .val (.int (Int32.ofNat i)), .val (.int (cv A (o + i)))] [])) := c4.trans (by
        refine XS.istoreS Xl.here hexec rfl (hb hbytes d13) rfl rfl hz ?_
        exact Steps.refl _)
      have c6 : Steps p.tables e below (s₁.setTop (entryFrame m #[.ref b, .int (Int32.ofNat o), .ref d, .int (Int32.ofNat q), .int (Int32.ofNat len)] 7)) (Tl.setTop (mkF m 31 #[.val (.ref b), .val (.int (Int32.ofNat (o + i))), .val (.ref d), .val (.int (Int32.ofNat (q + i))), .val (.int (Int32.ofNat len)), .val (.int (Int32.ofNat i)), .val (.int (cv A (o + i)))] [.int (lo8 (cv A (o + i))), .int (Int32.ofNat (q + i)), .ref d])) := c5.trans (by
        refine XS.iload Xl.here hexec rfl (hb hbytes d15) rfl ?_
        refine sipushV Xl.here hexec rfl 255 (hb hbytes d17) (by decide) ?_
        refine XS.icmpYes Xl.here hexec rfl (pc0 := 20) rfl (hb hbytes d20) rfl (ii_le_t (hp i (by omega))) (by decide) rfl ?_
        refine XS.aloadN Xl.here hexec rfl (hb hbytes d26) rfl rfl ?_
        refine XS.iloadN Xl.here hexec rfl (hb hbytes d27) rfl ?_
        refine XS.iload Xl.here hexec rfl (hb hbytes d28) rfl ?_
        refine i2b Xl.here hexec rfl (hb hbytes d30) rfl ?_
        exact Steps.refl _)
      obtain ⟨T7, X7, p7, st7⟩ := Xl.aput hexec hBk rfl hlt rfl (fits_lo8 (cv A (o + i))) (g := (mkF m 31 #[.val (.ref b), .val (.int (Int32.ofNat (o + i))), .val (.ref d), .val (.int (Int32.ofNat (q + i))), .val (.int (Int32.ofNat len)), .val (.int (Int32.ofNat i)), .val (.int (cv A (o + i)))] [.int (lo8 (cv A (o + i))), .int (Int32.ofNat (q + i)), .ref d])) rfl (rest := []) rfl (hb hbytes d31)
      have c8 : Steps p.tables e below (s₁.setTop (entryFrame m #[.ref b, .int (Int32.ofNat o), .ref d, .int (Int32.ofNat q), .int (Int32.ofNat len)] 7)) (T7.setTop (mkF m 32 #[.val (.ref b), .val (.int (Int32.ofNat (o + i))), .val (.ref d), .val (.int (Int32.ofNat (q + i))), .val (.int (Int32.ofNat len)), .val (.int (Int32.ofNat i)), .val (.int (cv A (o + i)))] [])) := c6.trans (st7 _ (Steps.refl _))
      have c9 : Steps p.tables e below (s₁.setTop (entryFrame m #[.ref b, .int (Int32.ofNat o), .ref d, .int (Int32.ofNat q), .int (Int32.ofNat len)] 7)) (T7.setTop (mkF m 3 #[.val (.ref b), .val (.int (Int32.ofNat (o + i) + 1)), .val (.ref d), .val (.int (Int32.ofNat (q + i) + 1)), .val (.int (Int32.ofNat len)), .val (.int (Int32.ofNat i + 1)), .val (.int (cv A (o + i)))] [])) := c8.trans (by
        refine iincV X7.here hexec rfl 1 (hb hbytes d32) (by decide) rfl rfl ?_
        refine iincV X7.here hexec rfl 1 (hb hbytes d35) (by decide) rfl rfl ?_
        refine iincV X7.here hexec rfl 1 (hb hbytes d38) (by decide) rfl rfl ?_
        refine XS.goto X7.here hexec rfl (pc0 := 41) rfl (hb hbytes d41) (by decide) rfl ?_
        exact Steps.refl _)
      have c10 : Steps p.tables e below (s₁.setTop (entryFrame m #[.ref b, .int (Int32.ofNat o), .ref d, .int (Int32.ofNat q), .int (Int32.ofNat len)] 7)) (T7.setTop (mkF m 3 #[.val (.ref b), .val (.int (Int32.ofNat (o + (i + 1)))), .val (.ref d), .val (.int (Int32.ofNat (q + (i + 1)))), .val (.int (Int32.ofNat len)), .val (.int (Int32.ofNat (i + 1))), .val (.int (cv A (o + i)))] [])) := by
        have := c9
        rw [succ32, succ32, succ32] at this
        exact this
      exact ih (i + 1) (by omega) _ (Or.inr ⟨_, rfl, rfl⟩) T7 _ (by rw [copyLocs_step, ← List.append_assoc]; exact X7) (pl.trans p7) (fl.step (by omega) hlt (by simp)) c10
  obtain ⟨T9, B9, z9, X9, p9, f9, g9⟩ := loop len 0 (by omega) .unset (Or.inl rfl) s₁ B (by simpa [copyLocs] using X0) ⟨hB0.1, fun _ _ => rfl, rfl⟩ (Laid.zero _ _ _) c2
  have c11 : Steps p.tables e below (s₁.setTop (entryFrame m #[.ref b, .int (Int32.ofNat o), .ref d, .int (Int32.ofNat q), .int (Int32.ofNat len)] 7)) (T9.setTop (mkF m 46 #[.val (.ref b), .val (.int (Int32.ofNat (o + len))), .val (.ref d), .val (.int (Int32.ofNat (q + len))), .val (.int (Int32.ofNat len)), .val (.int (Int32.ofNat len)), z9] [.int (Int32.ofNat len)])) := g9.trans (by
    refine XS.iload X9.here hexec rfl (hb hbytes d3) rfl ?_
    refine XS.iload X9.here hexec rfl (hb hbytes d5) rfl ?_
    refine XS.icmpYes X9.here hexec rfl (pc0 := 7) rfl (hb hbytes d7) rfl (ii_ge_t (nlt32 (by omega) (Nat.le_refl _))) (by decide) rfl ?_
    refine XS.iload X9.here hexec rfl (hb hbytes d44) rfl ?_
    exact Steps.refl _)
  exact ⟨T9, some (.int (Int32.ofNat len)), _, _, _, X9, by simp, rfl, rfl, (fun h => by cases h), ⟨rfl, B9, p9.from hh0, f9⟩, fun fs hl => c11.trans (X9.ireturnOut hexec hret rfl (Or.inl rfl) (hb hbytes d46) hl)⟩
end Cmp5
namespace Cmp3
def yN : MethodName := ⟨"java/lang/StringUTF16", "compress", "([CII)[B"⟩
abbrev yB : ByteArray := jdk_52_method_16_code
theorem d0 : decode yB 0 = .ok (.iload_n 2, 1) := by decide +kernel
theorem d1 : decode yB 1 = .ok (.newarray .byte, 2) := by decide +kernel
theorem d3 : decode yB 3 = .ok (.astore_n 3, 1) := by decide +kernel
theorem d4 : decode yB 4 = .ok (.aload_n 0, 1) := by decide +kernel
theorem d5 : decode yB 5 = .ok (.iload_n 1, 1) := by decide +kernel
theorem d6 : decode yB 6 = .ok (.aload_n 3, 1) := by decide +kernel
theorem d7 : decode yB 7 = .ok (.iconst 0, 1) := by decide +kernel
theorem d8 : decode yB 8 = .ok (.iload_n 2, 1) := by decide +kernel
theorem d9 : decode yB 9 = .ok (.invokestatic 115, 3) := by decide +kernel
theorem d12 : decode yB 12 = .ok (.istore 4, 2) := by decide +kernel
theorem d14 : decode yB 14 = .ok (.iload 4, 2) := by decide +kernel
theorem d16 : decode yB 16 = .ok (.iload_n 2, 1) := by decide +kernel
theorem d17 : decode yB 17 = .ok (.if_icmp (.eq) 40, 3) := by decide +kernel
theorem d57 : decode yB 57 = .ok (.aload_n 3, 1) := by decide +kernel
theorem d58 : decode yB 58 = .ok (.areturn, 1) := by decide +kernel
def site : List Cond := [.arrayClass .byte, Cmp5.tab] ++ staticW U16 115 Cmp5.yN
def tab : Cond := tabOf yN yB 6 (some (.array .byte)) site
def P (b : Addr) (A : Cell) (o len : Nat) (args : Array Value) (s : State) : Prop := args = #[.ref b, .int (Int32.ofNat o), .int (Int32.ofNat len)] ∧ Ch b A s ∧ o + len ≤ A.slots.size ∧ len ≤ 536870912 ∧ ∀ i, i < len → ¬ 255 < cv A (o + i)
def E (b : Addr) (A : Cell) (o len : Nat) (r : Option Value) (s u : State) : Prop := NewArr .byte "[B" len (fun j => .int (lo8 (cv A (o + j)))) r s u ∧ u.heap.size = s.heap.size + 1
theorem law (l : Launch) (b : Addr) (A : Cell) (o len : Nat) : Law l yN 3 3 1 18 yB 6 (some (.array .byte)) site (P b A o len) (E b A o len) [] 1 len := by
  refine Law.of_walk (plainFor_of_name (by decide +kernel)) (by decide +kernel) (by decide +kernel) (by decide) (fun _ _ h => by rw [h.1]; rfl) (fun _ U U' hal hh h => ⟨h.1, h.2.1.mv hal hh, h.2.2⟩) (fun r U U' V V' h1 hal h2 h => ⟨NewArr.mv r U U' V V' h1 hal h2 h.1, by rw [h1, h2]; exact h.2⟩) ?_
  intro p e s m args below meth c s₁ X0 hexec hbytes hml hret hlk hnm hown hh0 W hP
  obtain ⟨rfl, hA, l1, l2, hp⟩ := hP
  have a31 := hA.1.2.2.2
  have c1 : Steps p.tables e below (s₁.setTop (entryFrame m #[.ref b, .int (Int32.ofNat o), .int (Int32.ofNat len)] 6)) (s₁.setTop (mkF m 0 #[.val (.ref b), .val (.int (Int32.ofNat o)), .val (.int (Int32.ofNat len)), .unset, .unset, .unset] [])) := entry rfl
  have c2 : Steps p.tables e below (s₁.setTop (entryFrame m #[.ref b, .int (Int32.ofNat o), .int (Int32.ofNat len)] 6)) (s₁.setTop (mkF m 1 #[.val (.ref b), .val (.int (Int32.ofNat o)), .val (.int (Int32.ofNat len)), .unset, .unset, .unset] [.int (Int32.ofNat len)])) := c1.trans (by
    refine XS.iloadN X0.here hexec rfl (hb hbytes d0) rfl ?_
    exact Steps.refl _)
  obtain ⟨T3, B3, X3, ba3, bs3, bv3, bh3, bf3, st3⟩ := X0.anew hexec (atype := .byte) (wk W (.arrayClass .byte)) rfl (by show len * 1 ≤ _; omega) (by omega) (g := (mkF m 1 #[.val (.ref b), .val (.int (Int32.ofNat o)), .val (.int (Int32.ofNat len)), .unset, .unset, .unset] [.int (Int32.ofNat len)])) rfl (hb hbytes d1) (rest := []) rfl (Nat.le_refl _) (by show 0 + len ≤ len; omega)
  rw [hh0] at ba3 st3
  have kp3 : XT.Kept s T3 := (XT.Kept.of_eq hh0).push bh3
  have hA3 := hA.keep X3.warmed.alike (kp3 _ _ hA.1.1)
  have hne : b ≠ s.heap.size := hA.1.ne
  have c4 : Steps p.tables e below (s₁.setTop (entryFrame m #[.ref b, .int (Int32.ofNat o), .int (Int32.ofNat len)] 6)) (T3.setTop (mkF m 3 #[.val (.ref b), .val (.int (Int32.ofNat o)), .val (.int (Int32.ofNat len)), .unset, .unset, .unset] [.ref s.heap.size])) := c2.trans (st3 _ (Steps.refl _))
  have c5 : Steps p.tables e below (s₁.setTop (entryFrame m #[.ref b, .int (Int32.ofNat o), .int (Int32.ofNat len)] 6)) (T3.setTop (mkF m 9 #[.val (.ref b), .val (.int (Int32.ofNat o)), .val (.int (Int32.ofNat len)), .val (.ref s.heap.size), .unset, .unset] [.int (Int32.ofNat len), .int 0, .ref s.heap.size, .int (Int32.ofNat o), .ref b])) := c4.trans (by
    refine XS.astoreN X3.here hexec rfl (hb hbytes d3) rfl rfl rfl ?_
    refine XS.aloadN X3.here hexec rfl (hb hbytes d4) rfl rfl ?_
    refine XS.iloadN X3.here hexec rfl (hb hbytes d5) rfl ?_
    refine XS.aloadN X3.here hexec rfl (hb hbytes d6) rfl rfl ?_
    refine iconstV X3.here hexec rfl 0 (hb hbytes d7) (by decide) ?_
    refine XS.iloadN X3.here hexec rfl (hb hbytes d8) rfl ?_
    exact Steps.refl _)
  obtain ⟨v6, T6, X6, E6, g6⟩ := X3.callS hexec (Cmp5.law l b A s.heap.size B3 o 0 len) hown (wks W (staticW U16 115 Cmp5.yN)) (wk W Cmp5.tab) (W := 0) (Nat.le_of_ble_eq_true rfl) (Nat.le_of_ble_eq_true rfl) (Nat.le_refl _) (by show 0 + len + 0 ≤ len; omega) (g := (mkF m 9 #[.val (.ref b), .val (.int (Int32.ofNat o)), .val (.int (Int32.ofNat len)), .val (.ref s.heap.size), .unset, .unset] [.int (Int32.ofNat len), .int (Int32.ofNat 0), .ref s.heap.size, .int (Int32.ofNat o), .ref b])) rfl (by rw [hml]; rfl) c5 (argsL := [.ref b, .int (Int32.ofNat o), .ref s.heap.size, .int (Int32.ofNat 0), .int (Int32.ofNat len)]) (rest := []) rfl rfl (by show 2 * 0 + 0 ≤ _; decide) (hb hbytes d9) (⟨rfl, hA3, ba3, hne, l1, by rw [bs3]; simp, hp⟩)
  obtain ⟨rfl, B6, p6, f6⟩ := E6
  have c7 : Steps p.tables e below (s₁.setTop (entryFrame m #[.ref b, .int (Int32.ofNat o), .int (Int32.ofNat len)] 6)) (T6.setTop (mkF m 12 #[.val (.ref b), .val (.int (Int32.ofNat o)), .val (.int (Int32.ofNat len)), .val (.ref s.heap.size), .unset, .unset] [.int (Int32.ofNat len)])) := g6
  have c8 : Steps p.tables e below (s₁.setTop (entryFrame m #[.ref b, .int (Int32.ofNat o), .int (Int32.ofNat len)] 6)) (T6.setTop (mkF m 58 #[.val (.ref b), .val (.int (Int32.ofNat o)), .val (.int (Int32.ofNat len)), .val (.ref s.heap.size), .val (.int (Int32.ofNat len)), .unset] [.ref s.heap.size])) := c7.trans (by
    refine XS.istore X6.here hexec rfl (hb hbytes d12) rfl rfl ?_
    refine XS.iload X6.here hexec rfl (hb hbytes d14) rfl ?_
    refine XS.iloadN X6.here hexec rfl (hb hbytes d16) rfl ?_
    refine XS.icmpYes X6.here hexec rfl (pc0 := 17) rfl (hb hbytes d17) rfl (ii_eq_t rfl) (by decide) rfl ?_
    refine XS.aloadN X6.here hexec rfl (hb hbytes d57) rfl rfl ?_
    exact Steps.refl _)
  have X8 := X6.wide (L' := []) (cells' := 1) (slots' := len) (fun x hx hlt => by
    simp only [List.nil_append, copyLocs, List.mem_map, List.mem_range] at hx
    obtain ⟨i, -, rfl⟩ := hx
    exact absurd hlt (Nat.lt_irrefl _)) (Nat.le_refl _) (by omega)
  exact ⟨T6, some (.ref s.heap.size), _, _, _, X8, rfl, rfl, rfl, (fun h => by cases h), ⟨⟨rfl, B6, ba3.like (X3.warmed.alike.symm.trans X6.warmed.alike) p6.1 f6.1 f6.2.1 f6.2.2.1, f6.2.1.trans bv3, by rw [X6.warmed.alike.findClass, f6.1]; exact bf3, by rw [f6.2.2.1, bs3]; simp, fun j hj => by rw [f6.2.2.2 j, if_pos (by omega)]; rfl, kp3.put p6 (Nat.le_refl _)⟩, by rw [p6.2.2, bh3, hh0]; simp⟩, fun fs hl => c8.trans (X8.areturnOut hexec rfl hret rfl (hb hbytes d58) hl)⟩
end Cmp3
namespace CodL
def yN : MethodName := ⟨"java/lang/StringUTF16", "coderFromArrayLen", "([BI)B"⟩
abbrev yB : ByteArray := jdk_52_method_15_code
theorem d0 : decode yB 0 = .ok (.iload_n 1, 1) := by decide +kernel
theorem d1 : decode yB 1 = .ok (.aload_n 0, 1) := by decide +kernel
theorem d2 : decode yB 2 = .ok (.arraylength, 1) := by decide +kernel
theorem d3 : decode yB 3 = .ok (.isub, 1) := by decide +kernel
theorem d4 : decode yB 4 = .ok (.bipush 31, 2) := by decide +kernel
theorem d6 : decode yB 6 = .ok (.iushr, 1) := by decide +kernel
theorem d7 : decode yB 7 = .ok (.i2b, 1) := by decide +kernel
theorem d8 : decode yB 8 = .ok (.ireturn, 1) := by decide +kernel
def site : List Cond := []
def tab : Cond := tabOf yN yB 2 (some .byte) site
def P (d : Addr) (B : Cell) (args : Array Value) (s : State) : Prop := args = #[.ref d, .int (Int32.ofNat B.slots.size)] ∧ Arr .byte d B s
def E (r : Option Value) (s u : State) : Prop := XT.PureE (some (.int 0)) r s u
theorem law (l : Launch) (d : Addr) (B : Cell) : Law l yN 2 2 0 0 yB 2 (some .byte) site (P d B) E [] 0 0 := by
  refine Law.of_walk (plainFor_of_name (by decide +kernel)) (by decide +kernel) (by decide +kernel) (by decide) (fun _ _ h => by rw [h.1]; rfl) (fun _ U U' hal hh h => ⟨h.1, h.2.mv hal hh⟩) (fun r U U' V V' h1 hal h2 h => XT.PureE.mv r U U' V V' h1 hal h2 h) ?_
  intro p e s m args below meth c s₁ X0 hexec hbytes hml hret hlk hnm hown hh0 W hP
  obtain ⟨rfl, hB⟩ := hP
  have hB0 := hB.mv X0.warmed.alike hh0
  have c1 : Steps p.tables e below (s₁.setTop (entryFrame m #[.ref d, .int (Int32.ofNat B.slots.size)] 2)) (s₁.setTop (mkF m 0 #[.val (.ref d), .val (.int (Int32.ofNat B.slots.size))] [])) := entry rfl
  have c2 : Steps p.tables e below (s₁.setTop (entryFrame m #[.ref d, .int (Int32.ofNat B.slots.size)] 2)) (s₁.setTop (mkF m 2 #[.val (.ref d), .val (.int (Int32.ofNat B.slots.size))] [.ref d, .int (Int32.ofNat B.slots.size)])) := c1.trans (by
    refine XS.iloadN X0.here hexec rfl (hb hbytes d0) rfl ?_
    refine XS.aloadN X0.here hexec rfl (hb hbytes d1) rfl rfl ?_
    exact Steps.refl _)
  have c3 : Steps p.tables e below (s₁.setTop (entryFrame m #[.ref d, .int (Int32.ofNat B.slots.size)] 2)) (s₁.setTop (mkF m 8 #[.val (.ref d), .val (.int (Int32.ofNat B.slots.size))] [.int (lo8 (ushr (Int32.ofNat B.slots.size - Int32.ofNat B.slots.size) 31))])) := c2.trans (by
    refine X0.alen hexec hB0 rfl rfl (hb hbytes d2) ?_
    refine XS.isub X0.here hexec rfl (hb hbytes d3) rfl ?_
    refine bipushV X0.here hexec rfl 31 (hb hbytes d4) (by decide) ?_
    refine iushr X0.here hexec rfl (hb hbytes d6) rfl ?_
    refine i2b X0.here hexec rfl (hb hbytes d7) rfl ?_
    exact Steps.refl _)
  have e0 : lo8 (ushr (Int32.ofNat B.slots.size - Int32.ofNat B.slots.size) 31) = 0 := by rw [Int32.sub_self]; decide
  rw [e0] at c3
  exact ⟨s₁, some (.int 0), _, _, _, X0, rfl, rfl, rfl, (fun h => by cases h), ⟨rfl, hh0⟩, fun fs hl => c3.trans (X0.ireturnOut hexec hret rfl (Or.inr (Or.inr (Or.inl rfl))) (hb hbytes d8) hl)⟩
end CodL
def Got (a : Addr) (D : Cell) (fV fC : Field) (A : Cell) (o len : Nat) (r : Option Value) (s u : State) : Prop := r = none ∧ ∃ D' V : Cell, Blank "java/lang/String" a D' u ∧ Same D D' [fV.slot, fC.slot] ∧ D'.slots[fV.slot]? = some (.ref s.heap.size) ∧ D'.slots[fC.slot]? = some (.int 0) ∧ Arr .byte s.heap.size V u ∧ V.vm = .none ∧ u.vm.findClass "[B" = some V.cls ∧ V.slots.size = len ∧ (∀ j, j < len → V.slots[j]? = some (.int (lo8 (cv A (o + j))))) ∧ (∀ (y : Addr) (c : Cell), y ≠ a → s.heap[y]? = some c → u.heap[y]? = some c) ∧ u.heap.size = s.heap.size + 1
theorem Got.mv {a : Addr} {D A : Cell} {fV fC : Field} {o len : Nat} : ∀ r (U U' V V' : State), U'.heap = U.heap → V.vm.Alike V'.vm → V'.heap = V.heap → Got a D fV fC A o len r U V → Got a D fV fC A o len r U' V' :=
  fun r U U' V V' h1 hal h2 ⟨e0, D', X, a1, a2, a3, a4, a5, a6, a7, a8, a9, a10, a11⟩ => ⟨e0, D', X, a1.mv hal h2, a2, by rw [h1]; exact a3, a4, by rw [h1]; exact a5.mv hal h2, a6, by rw [hal.findClass]; exact a7, a8, a9, by rw [h1, h2]; exact a10, by rw [h1, h2]; exact a11⟩
namespace New4
def yN : MethodName := ⟨"java/lang/String", "<init>", "([CIILjava/lang/Void;)V"⟩
abbrev yB : ByteArray := jdk_42_method_149_code
theorem d0 : decode yB 0 = .ok (.aload_n 0, 1) := by decide +kernel
theorem d1 : decode yB 1 = .ok (.invokespecial 1, 3) := by decide +kernel
theorem d4 : decode yB 4 = .ok (.iload_n 3, 1) := by decide +kernel
theorem d5 : decode yB 5 = .ok (.ifCond (.ne) 22, 3) := by decide +kernel
theorem d27 : decode yB 27 = .ok (.getstatic 38, 3) := by decide +kernel
theorem d30 : decode yB 30 = .ok (.ifCond (.eq) 28, 3) := by decide +kernel
theorem d33 : decode yB 33 = .ok (.aload_n 1, 1) := by decide +kernel
theorem d34 : decode yB 34 = .ok (.iload_n 2, 1) := by decide +kernel
theorem d35 : decode yB 35 = .ok (.iload_n 3, 1) := by decide +kernel
theorem d36 : decode yB 36 = .ok (.invokestatic 177, 3) := by decide +kernel
theorem d39 : decode yB 39 = .ok (.astore 5, 2) := by decide +kernel
theorem d41 : decode yB 41 = .ok (.aload_n 0, 1) := by decide +kernel
theorem d42 : decode yB 42 = .ok (.aload 5, 2) := by decide +kernel
theorem d44 : decode yB 44 = .ok (.iload_n 3, 1) := by decide +kernel
theorem d45 : decode yB 45 = .ok (.invokestatic 47, 3) := by decide +kernel
theorem d48 : decode yB 48 = .ok (.putfield 15, 3) := by decide +kernel
theorem d51 : decode yB 51 = .ok (.aload_n 0, 1) := by decide +kernel
theorem d52 : decode yB 52 = .ok (.aload 5, 2) := by decide +kernel
theorem d54 : decode yB 54 = .ok (.putfield 9, 3) := by decide +kernel
theorem d57 : decode yB 57 = .ok (.return_, 1) := by decide +kernel
def site : List Cond := [.fieldLink "java/lang/String" 38 "java/lang/String" "COMPACT_STRINGS" "Z", Cmp3.tab, CodL.tab, .laysFinal "java/lang/String" "java/lang/String" "value" "[B", .fieldLink "java/lang/String" 9 "java/lang/String" "value" "[B", .laysFinal "java/lang/String" "java/lang/String" "coder" "B", .fieldLink "java/lang/String" 15 "java/lang/String" "coder" "B"] ++ objW "java/lang/String" 1 ++ staticW "java/lang/String" 177 Cmp3.yN ++ staticW "java/lang/String" 47 CodL.yN
def tab : Cond := tabOf yN yB 6 none site
def P (a : Addr) (D : Cell) (fV fC : Field) (b : Addr) (A : Cell) (z : Int32) (o len : Nat) (args : Array Value) (s : State) : Prop := args = #[.ref a, .ref b, .int (Int32.ofNat o), .int (Int32.ofNat len), .null] ∧ Blank "java/lang/String" a D s ∧ Found "java/lang/String" "value" "[B" fV s ∧ Found "java/lang/String" "coder" "B" fC s ∧ Ch b A s ∧ StaticIs s "java/lang/String" "COMPACT_STRINGS" "Z" (.int z) ∧ ¬ z = 0 ∧ 0 < len ∧ o + len ≤ A.slots.size ∧ len ≤ 536870912 ∧ ∀ i, i < len → ¬ 255 < cv A (o + i)
def E (a : Addr) (D : Cell) (fV fC : Field) (A : Cell) (o len : Nat) (r : Option Value) (s u : State) : Prop := Got a D fV fC A o len r s u
theorem law (l : Launch) (a : Addr) (D : Cell) (fV fC : Field) (b : Addr) (A : Cell) (z : Int32) (o len : Nat) : Law l yN 5 4 2 35 yB 6 none site (P a D fV fC b A z o len) (E a D fV fC A o len) [⟨a, fC.slot⟩, ⟨a, fV.slot⟩] 1 len := by
  refine Law.of_walk (plainFor_of_name (by decide +kernel)) (by decide +kernel) (by decide +kernel) (by decide) (fun _ _ h => by rw [h.1]; rfl) (fun _ U U' hal hh h => ⟨h.1, h.2.1.mv hal hh, h.2.2.1.al hal, h.2.2.2.1.al hal, h.2.2.2.2.1.mv hal hh, h.2.2.2.2.2.1.there hal hh, h.2.2.2.2.2.2⟩) (fun r U U' V V' h1 hal h2 h => Got.mv r U U' V V' h1 hal h2 h) ?_
  intro p e s m args below meth c s₁ X0 hexec hbytes hml hret hlk hnm hown hh0 W hP
  obtain ⟨rfl, hB, f1, f2, hA, s1, hz, l0, l1, l2, hp⟩ := hP
  have a31 := hA.1.2.2.2
  have c1 : Steps p.tables e below (s₁.setTop (entryFrame m #[.ref a, .ref b, .int (Int32.ofNat o), .int (Int32.ofNat len), .null] 6)) (s₁.setTop (mkF m 0 #[.val (.ref a), .val (.ref b), .val (.int (Int32.ofNat o)), .val (.int (Int32.ofNat len)), .val .null, .unset] [])) := entry rfl
  have c2 : Steps p.tables e below (s₁.setTop (entryFrame m #[.ref a, .ref b, .int (Int32.ofNat o), .int (Int32.ofNat len), .null] 6)) (s₁.setTop (mkF m 1 #[.val (.ref a), .val (.ref b), .val (.int (Int32.ofNat o)), .val (.int (Int32.ofNat len)), .val .null, .unset] [.ref a])) := c1.trans (by
    refine XS.aloadN X0.here hexec rfl (hb hbytes d0) rfl rfl ?_
    exact Steps.refl _)
  obtain ⟨T3, X3, q3, st3⟩ := X0.oinit hexec hown (wks W (objW "java/lang/String" 1)) (g := (mkF m 1 #[.val (.ref a), .val (.ref b), .val (.int (Int32.ofNat o)), .val (.int (Int32.ofNat len)), .val .null, .unset] [.ref a])) rfl (by rw [hml]; rfl) (rest := []) rfl (hb hbytes d1) (W := 0) (by show 2 * 0 + 0 ≤ _; decide) (Nat.le_of_ble_eq_true rfl) (Nat.le_of_ble_eq_true rfl)
  have hh3 := q3.trans hh0
  have c4 : Steps p.tables e below (s₁.setTop (entryFrame m #[.ref a, .ref b, .int (Int32.ofNat o), .int (Int32.ofNat len), .null] 6)) (T3.setTop (mkF m 27 #[.val (.ref a), .val (.ref b), .val (.int (Int32.ofNat o)), .val (.int (Int32.ofNat len)), .val .null, .unset] [])) := (c2.trans (st3 _ (Steps.refl _))).trans (by
    refine XS.iloadN X3.here hexec rfl (hb hbytes d4) rfl ?_
    refine XS.ifYes X3.here hexec rfl (pc0 := 5) rfl (hb hbytes d5) rfl (i0_ne_t (nz32 (by omega) l0)) (by decide) rfl ?_
    exact Steps.refl _)
  obtain ⟨T5, X5, q5, st5⟩ := X3.sget hexec hown (wk W (.fieldLink "java/lang/String" 38 "java/lang/String" "COMPACT_STRINGS" "Z")) s1 (fun _ _ h => by rw [hh3]; exact h) (g := (mkF m 27 #[.val (.ref a), .val (.ref b), .val (.int (Int32.ofNat o)), .val (.int (Int32.ofNat len)), .val .null, .unset] [])) rfl (hb hbytes d27)
  have hh5 := q5.trans hh3
  have c6 : Steps p.tables e below (s₁.setTop (entryFrame m #[.ref a, .ref b, .int (Int32.ofNat o), .int (Int32.ofNat len), .null] 6)) (T5.setTop (mkF m 30 #[.val (.ref a), .val (.ref b), .val (.int (Int32.ofNat o)), .val (.int (Int32.ofNat len)), .val .null, .unset] [.int z])) := c4.trans (st5 _ (Steps.refl _))
  have c7 : Steps p.tables e below (s₁.setTop (entryFrame m #[.ref a, .ref b, .int (Int32.ofNat o), .int (Int32.ofNat len), .null] 6)) (T5.setTop (mkF m 36 #[.val (.ref a), .val (.ref b), .val (.int (Int32.ofNat o)), .val (.int (Int32.ofNat len)), .val .null, .unset] [.int (Int32.ofNat len), .int (Int32.ofNat o), .ref b])) := c6.trans (by
    refine XS.ifNo X5.here hexec rfl (hb hbytes d30) rfl (i0_eq_f hz) ?_
    refine XS.aloadN X5.here hexec rfl (hb hbytes d33) rfl rfl ?_
    refine XS.iloadN X5.here hexec rfl (hb hbytes d34) rfl ?_
    refine XS.iloadN X5.here hexec rfl (hb hbytes d35) rfl ?_
    exact Steps.refl _)
  obtain ⟨v8, T8, X8, E8, g8⟩ := X5.callS hexec (Cmp3.law l b A o len) hown (wks W (staticW "java/lang/String" 177 Cmp3.yN)) (wk W Cmp3.tab) (W := 0) (Nat.le_of_ble_eq_true rfl) (Nat.le_of_ble_eq_true rfl) (Nat.le_refl _) (by show 0 + len ≤ len; omega) (g := (mkF m 36 #[.val (.ref a), .val (.ref b), .val (.int (Int32.ofNat o)), .val (.int (Int32.ofNat len)), .val .null, .unset] [.int (Int32.ofNat len), .int (Int32.ofNat o), .ref b])) rfl (by rw [hml]; rfl) c7 (argsL := [.ref b, .int (Int32.ofNat o), .int (Int32.ofNat len)]) (rest := []) rfl rfl (by show 2 * 0 + 0 ≤ _; decide) (hb hbytes d36) (⟨rfl, hA.mv X5.warmed.alike hh5, l1, l2, hp⟩)
  obtain ⟨e8, z8⟩ := E8
  obtain ⟨rfl, N, n1, n2, n3, n4, n5, n6⟩ := NewArr.mv _ T5 s _ _ hh5.symm (Vm.Alike.refl _) rfl e8
  rw [hh5] at z8
  have hB1 := hB.keep X8.warmed.alike (n6 _ _ hB.1)
  have hne : s.heap.size ≠ a := (Nat.ne_of_lt (Array.getElem?_eq_some_iff.mp hB.1).1).symm
  have c9 : Steps p.tables e below (s₁.setTop (entryFrame m #[.ref a, .ref b, .int (Int32.ofNat o), .int (Int32.ofNat len), .null] 6)) (T8.setTop (mkF m 39 #[.val (.ref a), .val (.ref b), .val (.int (Int32.ofNat o)), .val (.int (Int32.ofNat len)), .val .null, .unset] [.ref s.heap.size])) := g8
  have c10 : Steps p.tables e below (s₁.setTop (entryFrame m #[.ref a, .ref b, .int (Int32.ofNat o), .int (Int32.ofNat len), .null] 6)) (T8.setTop (mkF m 45 #[.val (.ref a), .val (.ref b), .val (.int (Int32.ofNat o)), .val (.int (Int32.ofNat len)), .val .null, .val (.ref s.heap.size)] [.int (Int32.ofNat N.slots.size), .ref s.heap.size, .ref a])) := by
    have hc : Steps p.tables e below (s₁.setTop (entryFrame m #[.ref a, .ref b, .int (Int32.ofNat o), .int (Int32.ofNat len), .null] 6)) (T8.setTop (mkF m 45 #[.val (.ref a), .val (.ref b), .val (.int (Int32.ofNat o)), .val (.int (Int32.ofNat len)), .val .null, .val (.ref s.heap.size)] [.int (Int32.ofNat len), .ref s.heap.size, .ref a])) := c9.trans (by
      refine XS.astore X8.here hexec rfl (hb hbytes d39) rfl rfl rfl ?_
      refine XS.aloadN X8.here hexec rfl (hb hbytes d41) rfl rfl ?_
      refine XS.aload X8.here hexec rfl (hb hbytes d42) rfl rfl ?_
      refine XS.iloadN X8.here hexec rfl (hb hbytes d44) rfl ?_
      exact Steps.refl _)
    rw [n4]; exact hc
  obtain ⟨v11, T11, X11, E11, g11⟩ := X8.callS hexec (CodL.law l s.heap.size N) hown (wks W (staticW "java/lang/String" 47 CodL.yN)) (wk W CodL.tab) (W := 1) (Nat.le_of_ble_eq_true rfl) (Nat.le_of_ble_eq_true rfl) (Nat.le_refl _) (by show 0 + len + 0 ≤ len; omega) (g := (mkF m 45 #[.val (.ref a), .val (.ref b), .val (.int (Int32.ofNat o)), .val (.int (Int32.ofNat len)), .val .null, .val (.ref s.heap.size)] [.int (Int32.ofNat N.slots.size), .ref s.heap.size, .ref a])) rfl (by rw [hml]; rfl) c10 (argsL := [.ref s.heap.size, .int (Int32.ofNat N.slots.size)]) (rest := [.ref a]) rfl rfl (by show 2 * 0 + (1 + 0) ≤ _; decide) (hb hbytes d45) (⟨rfl, n1⟩)
  obtain ⟨rfl, q11⟩ := E11
  have hB11 := hB1.mv (X8.warmed.alike.symm.trans X11.warmed.alike) q11
  have c12 : Steps p.tables e below (s₁.setTop (entryFrame m #[.ref a, .ref b, .int (Int32.ofNat o), .int (Int32.ofNat len), .null] 6)) (T11.setTop (mkF m 48 #[.val (.ref a), .val (.ref b), .val (.int (Int32.ofNat o)), .val (.int (Int32.ofNat len)), .val .null, .val (.ref s.heap.size)] [.int 0, .ref a])) := g11
  obtain ⟨T13, X13, p13, bl13, sl13, st13⟩ := X11.finit hexec hown (wk W (.fieldLink "java/lang/String" 15 "java/lang/String" "coder" "B")) (Or.inr ⟨_, (wk W (.laysFinal "java/lang/String" "java/lang/String" "coder" "B"))⟩) (Or.inl ⟨rfl, hnm⟩) f2 (Or.inl rfl) hB11 (t := .byte) (by decide +kernel) rfl (g := (mkF m 48 #[.val (.ref a), .val (.ref b), .val (.int (Int32.ofNat o)), .val (.int (Int32.ofNat len)), .val .null, .val (.ref s.heap.size)] [.int 0, .ref a])) rfl (rest := []) rfl (hb hbytes d48)
  have c14 : Steps p.tables e below (s₁.setTop (entryFrame m #[.ref a, .ref b, .int (Int32.ofNat o), .int (Int32.ofNat len), .null] 6)) (T13.setTop (mkF m 54 #[.val (.ref a), .val (.ref b), .val (.int (Int32.ofNat o)), .val (.int (Int32.ofNat len)), .val .null, .val (.ref s.heap.size)] [.ref s.heap.size, .ref a])) := (c12.trans (st13 _ (Steps.refl _))).trans (by
    refine XS.aloadN X13.here hexec rfl (hb hbytes d51) rfl rfl ?_
    refine XS.aload X13.here hexec rfl (hb hbytes d52) rfl rfl ?_
    exact Steps.refl _)
  obtain ⟨T15, X15, p15, bl15, sl15, st15⟩ := X13.finit hexec hown (wk W (.fieldLink "java/lang/String" 9 "java/lang/String" "value" "[B")) (Or.inr ⟨_, (wk W (.laysFinal "java/lang/String" "java/lang/String" "value" "[B"))⟩) (Or.inl ⟨rfl, hnm⟩) f1 (Or.inl rfl) bl13 (t := (.array .byte)) (by decide +kernel) rfl (g := (mkF m 54 #[.val (.ref a), .val (.ref b), .val (.int (Int32.ofNat o)), .val (.int (Int32.ofNat len)), .val .null, .val (.ref s.heap.size)] [.ref s.heap.size, .ref a])) rfl (rest := []) rfl (hb hbytes d54)
  have c16 : Steps p.tables e below (s₁.setTop (entryFrame m #[.ref a, .ref b, .int (Int32.ofNat o), .int (Int32.ofNat len), .null] 6)) (T15.setTop (mkF m 57 #[.val (.ref a), .val (.ref b), .val (.int (Int32.ofNat o)), .val (.int (Int32.ofNat len)), .val .null, .val (.ref s.heap.size)] [])) := c14.trans (st15 _ (Steps.refl _))
  have ap := apart (Or.inr ⟨_, (wk W (.laysFinal "java/lang/String" "java/lang/String" "value" "[B"))⟩) (Or.inr ⟨_, (wk W (.laysFinal "java/lang/String" "java/lang/String" "coder" "B"))⟩) f1 f2 (t₁ := .array .byte) (t₂ := .byte) (by decide +kernel) (by decide +kernel) (by decide)
  have al := X8.warmed.alike.symm.trans X15.warmed.alike
  have n7 : T11.heap[s.heap.size]? = some N := by rw [q11]; exact n1.1
  exact ⟨T15, none, _, _, _, X15, by simp, rfl, by omega, (fun _ => rfl), ⟨rfl, _, N, bl15, ((Same.refl D _).set _ (by simp)).set _ (by simp), sl15, (Cell.slots_setSlot_ne _ ap).trans sl13, n1.keep al (p15.other hne (p13.other hne n7)), n2, by rw [al.findClass]; exact n3, n4, n5, fun y c h1 h2 => p15.other h1 (p13.other h1 (by rw [q11]; exact n6 y c h2)), by rw [p15.2.2, p13.2.2, q11]; exact z8⟩, fun fs hl => c16.trans (X15.returnOut hexec hret (hb hbytes d57) hl)⟩
end New4
namespace New1
def yN : MethodName := ⟨"java/lang/String", "<init>", "([C)V"⟩
abbrev yB : ByteArray := jdk_42_method_3_code
theorem d0 : decode yB 0 = .ok (.aload_n 0, 1) := by decide +kernel
theorem d1 : decode yB 1 = .ok (.aload_n 1, 1) := by decide +kernel
theorem d2 : decode yB 2 = .ok (.iconst 0, 1) := by decide +kernel
theorem d3 : decode yB 3 = .ok (.aload_n 1, 1) := by decide +kernel
theorem d4 : decode yB 4 = .ok (.arraylength, 1) := by decide +kernel
theorem d5 : decode yB 5 = .ok (.aconst_null, 1) := by decide +kernel
theorem d6 : decode yB 6 = .ok (.invokespecial 27, 3) := by decide +kernel
theorem d9 : decode yB 9 = .ok (.return_, 1) := by decide +kernel
def site : List Cond := [New4.tab] ++ initW "java/lang/String" 27 New4.yN
def tab : Cond := tabOf yN yB 2 none site
def P (a : Addr) (D : Cell) (fV fC : Field) (b : Addr) (A : Cell) (z : Int32) (args : Array Value) (s : State) : Prop := args = #[.ref a, .ref b] ∧ Blank "java/lang/String" a D s ∧ Found "java/lang/String" "value" "[B" fV s ∧ Found "java/lang/String" "coder" "B" fC s ∧ Ch b A s ∧ StaticIs s "java/lang/String" "COMPACT_STRINGS" "Z" (.int z) ∧ ¬ z = 0 ∧ 0 < A.slots.size ∧ A.slots.size ≤ 536870912 ∧ ∀ i, i < A.slots.size → ¬ 255 < cv A i
def E (a : Addr) (D : Cell) (fV fC : Field) (A : Cell) (r : Option Value) (s u : State) : Prop := Got a D fV fC A 0 A.slots.size r s u
theorem law (l : Launch) (a : Addr) (D : Cell) (fV fC : Field) (b : Addr) (A : Cell) (z : Int32) : Law l yN 2 1 3 52 yB 2 none site (P a D fV fC b A z) (E a D fV fC A) [⟨a, fC.slot⟩, ⟨a, fV.slot⟩] 1 A.slots.size := by
  refine Law.of_walk (plainFor_of_name (by decide +kernel)) (by decide +kernel) (by decide +kernel) (by decide) (fun _ _ h => by rw [h.1]; rfl) (fun _ U U' hal hh h => ⟨h.1, h.2.1.mv hal hh, h.2.2.1.al hal, h.2.2.2.1.al hal, h.2.2.2.2.1.mv hal hh, h.2.2.2.2.2.1.there hal hh, h.2.2.2.2.2.2⟩) (fun r U U' V V' h1 hal h2 h => Got.mv r U U' V V' h1 hal h2 h) ?_
  intro p e s m args below meth c s₁ X0 hexec hbytes hml hret hlk hnm hown hh0 W hP
  obtain ⟨rfl, hB, f1, f2, hA, s1, hz, l0, l2, hp⟩ := hP
  have c1 : Steps p.tables e below (s₁.setTop (entryFrame m #[.ref a, .ref b] 2)) (s₁.setTop (mkF m 0 #[.val (.ref a), .val (.ref b)] [])) := entry rfl
  have c2 : Steps p.tables e below (s₁.setTop (entryFrame m #[.ref a, .ref b] 2)) (s₁.setTop (mkF m 6 #[.val (.ref a), .val (.ref b)] [.null, .int (Int32.ofNat A.slots.size), .int 0, .ref b, .ref a])) := c1.trans (by
    refine XS.aloadN X0.here hexec rfl (hb hbytes d0) rfl rfl ?_
    refine XS.aloadN X0.here hexec rfl (hb hbytes d1) rfl rfl ?_
    refine iconstV X0.here hexec rfl 0 (hb hbytes d2) (by decide) ?_
    refine XS.aloadN X0.here hexec rfl (hb hbytes d3) rfl rfl ?_
    refine X0.alen hexec (hA.1.mv X0.warmed.alike hh0) rfl rfl (hb hbytes d4) ?_
    refine XS.aconstNull X0.here hexec rfl (hb hbytes d5) ?_
    exact Steps.refl _)
  obtain ⟨v3, T3, X3, E3, g3⟩ := X0.callN hexec (New4.law l a D fV fC b A z 0 A.slots.size) rfl hown (wks W (initW "java/lang/String" 27 New4.yN)) (W New4.tab (by simp only [site, List.mem_cons, List.mem_append, true_or, or_true])) (W := 0) (Nat.le_of_ble_eq_true rfl) (Nat.le_of_ble_eq_true rfl) (Nat.le_refl _) (by show 0 + A.slots.size ≤ A.slots.size; omega) (g := (mkF m 6 #[.val (.ref a), .val (.ref b)] [.null, .int (Int32.ofNat A.slots.size), .int (Int32.ofNat 0), .ref b, .ref a])) rfl (by rw [hml]; rfl) c2 (argsL := [.ref b, .int (Int32.ofNat 0), .int (Int32.ofNat A.slots.size), .null]) (rest := []) rfl rfl (by show 2 * 0 + 0 ≤ _; decide) (hb hbytes d6) (⟨rfl, hB.mv X0.warmed.alike hh0, f1.al X0.warmed.alike, f2.al X0.warmed.alike, hA.mv X0.warmed.alike hh0, s1.there X0.warmed.alike hh0, hz, l0, by omega, l2, fun i hi => by rw [Nat.zero_add]; exact hp i hi⟩)
  have e0 := Got.mv _ s₁ s _ _ hh0.symm (Vm.Alike.refl _) rfl E3
  obtain rfl := e0.1
  have c4 : Steps p.tables e below (s₁.setTop (entryFrame m #[.ref a, .ref b] 2)) (T3.setTop (mkF m 9 #[.val (.ref a), .val (.ref b)] [])) := g3
  exact ⟨T3, none, _, _, _, X3, by simp, rfl, by omega, (fun _ => rfl), e0, fun fs hl => c4.trans (X3.returnOut hexec hret (hb hbytes d9) hl)⟩
theorem pays {l : Launch} {R : Room} {p : Program} {e : Env} {below : List Frame} {s : State} {sargs : Array Value} {len W : Nat} (a : Addr) (D : Cell) (fV fC : Field) (b : Addr) (A : Cell) (z : Int32) (htab : tab.before sargs s = true) (hfr : 4 ≤ R.frames) (hlo : W + 65 ≤ R.locals) :
    Back l R p e below s sargs yN len W (fun A₁ a₁ => A₁.cells + 1 ≤ R.cells ∧ A₁.slots + A.slots.size ≤ R.slots ∧ P a D fV fC b A z a₁ A₁.U) (fun A₁ _ v₁ B₁ => E a D fV fC A v₁ A₁.U B₁.U ∧ B₁.locs = A₁.locs ++ [⟨a, fC.slot⟩, ⟨a, fV.slot⟩] ∧ B₁.cells = A₁.cells + 1 ∧ B₁.slots = A₁.slots + A.slots.size) :=
  (law l a D fV fC b A z).pays htab hfr (by omega)
end New1
theorem lo8_mask {x : Int32} (h0 : ¬ x < 0) (h1 : ¬ 255 < x) : lo8 x &&& 255 = x := by
  have t : ∀ k : Fin 256, lo8 (Int32.ofNat k.val) &&& 255 = Int32.ofNat k.val := by decide +kernel
  rw [Int32.lt_iff_toInt_lt] at h0 h1
  have e0 : (0 : Int32).toInt = 0 := rfl
  have e1 : (255 : Int32).toInt = 255 := rfl
  obtain ⟨k, hk⟩ : ∃ k : Nat, x.toInt = k := ⟨x.toInt.toNat, by omega⟩
  have hx : x = Int32.ofNat k := Int32.toInt_inj.mp (by rw [hk, Int32.toInt_ofNat_small (by omega)])
  rw [hx]
  exact t ⟨k, by omega⟩
end StrChars
namespace StrChars.Road
open Jvm Sem ClassFile Op Lib Jvm.Stand Jvm.Free Jvm.Free.XT
open Jvm.Lib.Cold (StaticIs)
abbrev ST : String := "java/lang/String"
abbrev words : List Jvm.Cond := [.code New1.yN New1.yB 2 none, .initialized ST, .methodLink ST 27 New4.yN, .instanceMethod New4.yN,
  .code New4.yN New4.yB 6 none, .fieldLink ST 38 ST "COMPACT_STRINGS" "Z", .laysFinal ST ST "value" "[B", .fieldLink ST 9 ST "value" "[B", .laysFinal ST ST "coder" "B", .fieldLink ST 15 ST "coder" "B",
  .methodLink ST 1 Lib.objectInit, .instanceMethod Lib.objectInit, .code Lib.objectInit ⟨#[0xb1]⟩ 1 none, .methodLink ST 177 Cmp3.yN, .static Cmp3.yN, .methodLink ST 47 CodL.yN, .static CodL.yN,
  .code Cmp3.yN Cmp3.yB 6 (some (.array .byte)), .initialized U16, .arrayClass .byte, .methodLink U16 115 Cmp5.yN, .static Cmp5.yN, .code Cmp5.yN Cmp5.yB 7 (some .int), .code CodL.yN CodL.yB 2 (some .byte)]
theorem tab_of {a : Array Value} {s : State} (h : ∀ w ∈ words, w.before a s = true) : New1.tab.before a s = true := by
  have h5 : Cmp5.tab.before a s = true := unparts (wk h (.code Cmp5.yN Cmp5.yB 7 (some .int))) (wks h (.initialized Cmp5.yN.cls :: Cmp5.site))
  have hc : CodL.tab.before a s = true := unparts (wk h (.code CodL.yN CodL.yB 2 (some .byte))) (wks h (.initialized CodL.yN.cls :: CodL.site))
  have q5 : ∀ w ∈ Cmp5.tab :: words, w.before a s = true := fun w hw => (List.mem_cons.mp hw).elim (fun e => e ▸ h5) (h w)
  have h3 : Cmp3.tab.before a s = true := unparts (wk q5 (.code Cmp3.yN Cmp3.yB 6 (some (.array .byte)))) (wks q5 (.initialized Cmp3.yN.cls :: Cmp3.site))
  have q3 : ∀ w ∈ Cmp3.tab :: CodL.tab :: words, w.before a s = true := fun w hw => (List.mem_cons.mp hw).elim (fun e => e ▸ h3) fun hw => (List.mem_cons.mp hw).elim (fun e => e ▸ hc) (h w)
  have h4 : New4.tab.before a s = true := unparts (wk q3 (.code New4.yN New4.yB 6 none)) (wks q3 (.initialized New4.yN.cls :: New4.site))
  have q4 : ∀ w ∈ New4.tab :: words, w.before a s = true := fun w hw => (List.mem_cons.mp hw).elim (fun e => e ▸ h4) (h w)
  exact unparts (wk q4 (.code New1.yN New1.yB 2 none)) (wks q4 (.initialized New1.yN.cls :: New1.site))
theorem moved {Z s : State} {a0 args : Array Value} (hZ : Z.Warmed39 s.vm) (hw : ∀ d ∈ words, d.before a0 Z = true) : ∀ d ∈ words, d.before args s = true := fun d hd => by
  have q := hw d hd
  have t : ∀ d ∈ words, d = .arrayClass .byte ∨ (d.onTables && d.keepsFace) = true := by decide +kernel
  rcases t d hd with rfl | t
  · exact RoadKit.mvA hZ q
  · exact RoadKit.mv hZ q t
def Q (Z : State) (x : Addr) (A : Cell) (h : Heap) (v : Option Value) (h' : Heap) (L : List Loc) : Prop := v = none ∧ (∀ y ∈ L, y.base = x) ∧ RoadKit.Keep h h' [x] ∧ h'.size = h.size + 1 ∧ RoadKit.Exa Z h' x ST ∧ RoadKit.Fld Z h' x ST "value" "[B" (.ref h.size) ∧ RoadKit.Fld Z h' x ST "coder" "B" (.int 0) ∧
  (∃ V : Cell, RoadKit.Arr Z h' h.size V .byte ∧ V.vm = .none ∧ Z.vm.findClass "[B" = some V.cls ∧ V.slots.size = A.slots.size ∧ ∀ j, j < A.slots.size → V.slots[j]? = some (.int (lo8 (cv A j)))) ∧
  ∀ (O n d : String) (w : Value), RoadKit.Fld Z h x O n d w → RoadKit.slotOf Z O n d ≠ RoadKit.slotOf Z ST "value" "[B" → RoadKit.slotOf Z O n d ≠ RoadKit.slotOf Z ST "coder" "B" → RoadKit.Fld Z h' x O n d w
theorem back {p : Program} {l : Launch} {e : Env} {R : Room} {s : State} {args : Array Value} {below : List Frame} {len W : Nat} {Z : State} {a0 : Array Value} {h : Heap} (hZ : Z.Warmed39 s.vm) (hw : ∀ d ∈ words, d.before a0 Z = true) {kI : Nat} (wi : (Jvm.Cond.instantiable ST kI).before a0 Z = true)
    {x b : Addr} {A : Cell} {z : Int32} {v0 c0 : Value} (E : RoadKit.Exa Z h x ST) (V : RoadKit.Fld Z h x ST "value" "[B" v0) (C : RoadKit.Fld Z h x ST "coder" "B" c0) (K : RoadKit.Arr Z h b A .char) (hty : Typed .char A) (S : RoadKit.Sta Z h ST "COMPACT_STRINGS" "Z" (.int z)) (hz : ¬ z = 0)
    (l0 : 0 < A.slots.size) (l2 : A.slots.size ≤ 536870912) (hp : ∀ i, i < A.slots.size → ¬ 255 < cv A i) (hfr : 4 ≤ R.frames) (hlo : W + 65 ≤ R.locals) :
    Back l R p e below s args New1.yN len W (fun P a => a = #[.ref x, .ref b] ∧ P.U.heap = h ∧ P.cells + 1 ≤ R.cells ∧ P.slots + A.slots.size ≤ R.slots)
      (fun P _ v B => ∃ L, Q Z x A h v B.U.heap L ∧ B.locs = P.locs ++ L ∧ B.cells = P.cells + 1 ∧ B.slots = P.slots + A.slots.size) := by
  intro m meth c P g ig mk a X hg hsize hdg hW hn hp'
  obtain ⟨rfl, rfl, r1, r2⟩ := hp'
  have al : Z.vm.Alike P.U.vm := hZ.alike.trans X.warmed.alike
  obtain ⟨D, cfV, kV, iV, fV, hD, gV, stV, knV, obV, asV, slV⟩ := id V
  obtain ⟨D', cfC, kC, iC, fC, hD', gC, stC, -, -, asC, slC⟩ := id C
  cases hD.symm.trans hD'
  obtain ⟨D2, kD, e1, e2, e3, e4, e5⟩ := id E
  cases hD.symm.trans e1
  obtain ⟨c2, k2, i1, i2, i3, -⟩ := Cond.instantiable_spec wi
  cases e2.symm.trans i1
  cases e3.symm.trans i2
  obtain ⟨kU, u1, u2⟩ := al.2.2 _ _ e3
  have hB : Blank ST x D P.U := ⟨hD, ⟨knV, fun q hq => by rw [hq] at obV; cases obV⟩, by rw [al.findClass]; exact e2, kU, u1, by rw [u2]; exact i3, by rw [u2]; exact e5 i3⟩
  have F1 : Found ST "value" "[B" fV P.U := ⟨SBG.found_only al ⟨cfV, kV, iV, gV⟩, stV⟩
  have F2 : Found ST "coder" "B" fC P.U := ⟨SBG.found_only al ⟨cfC, kC, iC, gC⟩, stC⟩
  have hA : Ch b A P.U := ⟨⟨K.1, State.isArrayOf_alike al K.2.1, K.2.2, by omega⟩, hty⟩
  have hS : StaticIs P.U ST "COMPACT_STRINGS" "Z" (.int z) := by
    obtain ⟨cfS, iS, kS, fS, st, cS, t1, t2, t3, t4, t5, t6, t7⟩ := S
    exact StaticIs.there (s := { Z with heap := P.U.heap }) ⟨cfS, iS, kS, fS, st, cS, t1, t2, t3, t4, t5, (fun q => by rw [q] at t6; cases t6), t7⟩ al rfl
  obtain ⟨v, B, X', ⟨⟨hv, E', V', q1, q2, q3, q4, q5, q6, q7, q8, q9, q10, q11⟩, hl, hc, hs⟩, st⟩ := New1.pays x D fV fC b A z (tab_of (moved hZ hw)) hfr hlo m meth c P g ig mk _ X hg hsize hdg hW hn ⟨r1, r2, rfl, hB, F1, F2, hA, hS, hz, l0, l2, hp⟩
  have al' : Z.vm.Alike B.U.vm := hZ.alike.trans X'.warmed.alike
  have hsz : E'.slots.size = D.slots.size := by
    obtain ⟨-, -, -, kB, w1, w2, w3⟩ := q1
    obtain ⟨kB', y1, y2⟩ := al'.2.2 _ _ e3
    rw [q2.2.1] at w1
    cases w1.symm.trans y1
    rw [w3, e5 i3, y2]
  refine ⟨v, B, X', ⟨_, ⟨hv, ?_, ⟨by omega, fun y cy hy hn' => q10 y cy (by simpa using hn') hy, fun y cy hy => ?_⟩, q11, ⟨E', _, q1.1, by rw [q2.2.1]; exact e2, by rw [q2.2.1]; exact e3, by rw [q2.1]; exact obV, fun _ => by rw [hsz]; exact e5 i3⟩,
    ⟨E', cfV, kV, iV, fV, q1.1, gV, stV, by rw [q2.1]; exact knV, by rw [q2.1]; exact obV, by rw [q2.2.1]; exact asV, q3⟩, ⟨E', cfC, kC, iC, fC, q1.1, gC, stC, by rw [q2.1]; exact knV, by rw [q2.1]; exact obV, by rw [q2.2.1]; exact asC, q4⟩,
    ⟨V', ⟨q5.1, State.isArrayOf_alike al'.symm q5.2.1, q5.2.2.1⟩, q6, by rw [← al'.findClass]; exact q7, q8, fun j hj => by have := q9 j hj; rwa [Nat.zero_add] at this⟩, fun O n d w F n1 n2 => ?_⟩, hl, hc, hs⟩, st⟩
  · intro y hy
    simp only [List.mem_cons, List.not_mem_nil, or_false] at hy
    rcases hy with rfl | rfl <;> rfl
  · by_cases q : y = x
    · subst q
      cases hD.symm.trans hy
      exact ⟨E', q1.1, q2.2.1, q2.1, hsz⟩
    · exact ⟨cy, q10 y cy q hy, rfl, rfl, rfl⟩
  · obtain ⟨D3, cf, k, i, f, g1, g2, g3, g4, g5, g6, g7⟩ := F
    cases hD.symm.trans g1
    simp only [RoadKit.slotOf, g2, gV, gC, Option.map_some, Option.getD_some] at n1 n2
    exact ⟨E', cf, k, i, f, q1.1, g2, g3, by rw [q2.1]; exact g4, by rw [q2.1]; exact g5, by rw [q2.2.1]; exact g6, by rw [q2.2.2 f.slot (by simp [n1, n2])]; exact g7⟩
end StrChars.Road
namespace StrChars.Road
open Jvm Sem ClassFile Op Lib Jvm.Stand Jvm.Free Jvm.Free.XT
def QA (Z : State) (x : Addr) (zn : Int32) (cs : List Int32) (h : Heap) (v : Option Value) (h' : Heap) (L : List Loc) : Prop := v = none ∧ (∀ y ∈ L, y.base = x) ∧ RoadKit.Keep h h' [x] ∧ h'.size = h.size + 1 ∧ RoadKit.Exa Z h' x ST ∧ RoadKit.Fld Z h' x ST "value" "[B" (.ref h.size) ∧ RoadKit.Fld Z h' x ST "coder" "B" (.int 0) ∧
  (∃ kb, Z.vm.findClass "[B" = some kb ∧ RoadKit.Arv Z h' h.size kb .byte zn (cs.map fun c => .int (lo8 c)) (.int 0)) ∧
  ∀ (O n d : String) (w : Value), RoadKit.Fld Z h x O n d w → RoadKit.slotOf Z O n d ≠ RoadKit.slotOf Z ST "value" "[B" → RoadKit.slotOf Z O n d ≠ RoadKit.slotOf Z ST "coder" "B" → RoadKit.Fld Z h' x O n d w
theorem backArv {p : Program} {l : Launch} {e : Env} {R : Room} {s : State} {args : Array Value} {below : List Frame} {len W : Nat} {Z : State} {a0 : Array Value} {h : Heap} (hZ : Z.Warmed39 s.vm) (hw : ∀ d ∈ words, d.before a0 Z = true) {kI : Nat} (wi : (Jvm.Cond.instantiable ST kI).before a0 Z = true)
    {x b : Addr} {k : ClassId} {zn z : Int32} {cs : List Int32} {dv v0 c0 : Value} (E : RoadKit.Exa Z h x ST) (V : RoadKit.Fld Z h x ST "value" "[B" v0) (C : RoadKit.Fld Z h x ST "coder" "B" c0) (K : RoadKit.Arv Z h b k .char zn (cs.map Value.int) dv) (S : RoadKit.Sta Z h ST "COMPACT_STRINGS" "Z" (.int z)) (hz : ¬ z = 0)
    (hlen : zn.toNatClampNeg = cs.length) (h0 : 0 < cs.length) (hbig : cs.length ≤ 536870912) (hall : ∀ c ∈ cs, ¬ 255 < c) (hfr : 4 ≤ R.frames) (hlo : W + 65 ≤ R.locals) :
    Back l R p e below s args New1.yN len W (fun P a => a = #[.ref x, .ref b] ∧ P.U.heap = h ∧ P.cells + 1 ≤ R.cells ∧ P.slots + cs.length ≤ R.slots)
      (fun P _ v B => ∃ L, QA Z x zn cs h v B.U.heap L ∧ B.locs = P.locs ++ L ∧ B.cells = P.cells + 1 ∧ B.slots = P.slots + cs.length) := by
  obtain ⟨A, K1, K2, K3, K4, K5, K6⟩ := K
  have e : A.slots.size = cs.length := K3.trans hlen
  have hat : ∀ (i : Nat) (hi : i < cs.length), A.slots[i]? = some (.int cs[i]) := fun i hi => by rw [K5 i (by omega)]; simp [List.getD_eq_getElem?_getD, hi]
  have hcv : ∀ (i : Nat) (hi : i < cs.length), cv A i = cs[i] := fun i hi => by unfold cv; rw [hat i hi]
  have hty : Typed .char A := fun i v hv => by
    have hi : i < A.slots.size := (Array.getElem?_eq_some_iff.mp hv).1
    have q := K5 i hi
    rw [hv] at q
    rw [Option.some.inj q]
    exact K6 i hi
  refine Back.mono (back hZ hw wi E V C K1 hty S hz (by omega) (by omega) (fun i hi => by rw [hcv i (by omega)]; exact hall _ (List.getElem_mem _)) hfr hlo) (fun P a hp => ⟨hp.1, hp.2.1, hp.2.2.1, by rw [e]; exact hp.2.2.2⟩) (fun P a v B hp hq => ?_)
  obtain ⟨L, ⟨q1, q2, q3, q4, q5, q6, q7, ⟨V', v1, v2, v3, v4, v5⟩, q9⟩, hl, hc, hs⟩ := hq
  refine ⟨L, ⟨q1, q2, q3, q4, q5, q6, q7, ⟨V'.cls, v3, V', v1, rfl, by rw [v4, e, hlen], K4, fun i hi => ?_, fun i hi => ?_⟩, q9⟩, hl, hc, by rw [hs, e]⟩
  · have hi' : i < cs.length := by omega
    rw [v5 i (by omega), hcv i hi']; simp [List.getD_eq_getElem?_getD, hi']
  · have hi' : i < cs.length := by omega
    simp only [List.getD_eq_getElem?_getD, List.getElem?_map, List.getElem?_eq_getElem hi', Option.map_some, Option.getD_some]
    exact fits_lo8 _
end StrChars.Road
namespace StrChars
open Jvm Sem ClassFile Op Lib Jvm.Stand Jvm.Free.XT Jvm.Free.ALB Jvm.Free.JM Jvm.Free
open Jvm.Lib.Cold (StaticIs)
def hi8 (x : Int32) : Int32 := lo8 (x >>> ((8 : Int32) &&& 31))
def pairCh (u v : Int32) : Int32 := (((u &&& 255) <<< ((0 : Int32) &&& 31)) ||| ((v &&& 255) <<< ((8 : Int32) &&& 31))).toUInt32.toUInt16.toUInt32.toInt32
theorem lo8_and (x : Int32) : (lo8 x &&& 255).toBitVec.toNat = x.toBitVec.toNat % 256 := by
  have h : (lo8 x).toBitVec = (x.toBitVec.signExtend 8).signExtend 32 := by rw [lo8, Int8.toBitVec_toInt32, Int32.toBitVec_toInt8]
  rw [Int32.toBitVec_and, BitVec.toNat_and, h]
  have e : ((x.toBitVec.signExtend 8).signExtend 32).toNat % 256 = x.toBitVec.toNat % 256 := by
    rw [BitVec.toNat_signExtend]
    have hlt := x.toBitVec.isLt
    simp only [BitVec.toNat_setWidth, BitVec.toNat_signExtend]
    split <;> split <;> omega
  rw [← e]
  exact Nat.and_two_pow_sub_one_eq_mod _ 8
theorem pair_says {c : Int32} (h0 : ¬ c < 0) (h1 : ¬ 65535 < c) : pairCh (lo8 c) (hi8 c) = c := by
  rw [Int32.lt_iff_toInt_lt] at h0 h1
  have e0 : (0 : Int32).toInt = 0 := rfl
  have e1 : (65535 : Int32).toInt = 65535 := rfl
  have hc : c.toInt = c.toBitVec.toNat := by
    have := c.toBitVec.isLt
    have e : c.toInt = c.toBitVec.toInt := rfl
    rw [e] at h0 h1
    rw [e]
    rw [BitVec.toInt_eq_toNat_cond] at h0 h1 ⊢
    split at h0 <;> split <;> omega
  have hn : c.toBitVec.toNat < 65536 := by omega
  have a1 := lo8_and c
  have a2 : (hi8 c &&& 255).toBitVec.toNat = c.toBitVec.toNat / 256 := by
    rw [hi8, lo8_and]
    have e : ((8 : Int32) &&& 31) = 8 := by decide
    rw [e, Int32.toBitVec_shiftRight]
    have e2 : ((8 : Int32).toBitVec.smod 32) = 8#32 := by decide
    rw [e2, BitVec.sshiftRight_eq', BitVec.toNat_sshiftRight_of_msb_false (by rw [BitVec.msb_eq_false_iff_two_mul_lt]; omega)]
    show c.toBitVec.toNat >>> 8 % 256 = _
    rw [Nat.shiftRight_eq_div_pow]
    omega
  unfold pairCh
  apply Int32.toBitVec_inj.mp
  apply BitVec.eq_of_toNat_eq
  have f0 : ((0 : Int32) &&& 31) = 0 := by decide
  have f8 : ((8 : Int32) &&& 31) = 8 := by decide
  rw [f0, f8]
  have g : (((lo8 c &&& 255) <<< (0 : Int32)) ||| ((hi8 c &&& 255) <<< (8 : Int32))).toBitVec.toNat = c.toBitVec.toNat := by
    rw [Int32.toBitVec_or, Int32.toBitVec_shiftLeft, Int32.toBitVec_shiftLeft]
    have s0 : ((0 : Int32).toBitVec.smod 32) = 0#32 := by decide
    have s8 : ((8 : Int32).toBitVec.smod 32) = 8#32 := by decide
    rw [s0, s8, BitVec.toNat_or]
    simp only [BitVec.shiftLeft_eq', BitVec.toNat_shiftLeft, a1, a2]
    show (c.toBitVec.toNat % 256) <<< 0 % 2 ^ 32 ||| (c.toBitVec.toNat / 256) <<< 8 % 2 ^ 32 = _
    rw [Nat.shiftLeft_zero, Nat.mod_eq_of_lt (show c.toBitVec.toNat % 256 < 2 ^ 32 by omega), Nat.mod_eq_of_lt (show (c.toBitVec.toNat / 256) <<< 8 < 2 ^ 32 by rw [Nat.shiftLeft_eq]; omega), Nat.or_comm, ← Nat.shiftLeft_add_eq_or_of_lt (by omega), Nat.shiftLeft_eq]
    omega
  show BitVec.toNat (((((lo8 c &&& 255) <<< (0 : Int32)) ||| ((hi8 c &&& 255) <<< (8 : Int32))).toBitVec.setWidth 16).setWidth 32) = _
  rw [BitVec.toNat_setWidth, BitVec.toNat_setWidth, g]
  omega
end StrChars
namespace StrChars
open Jvm Sem ClassFile Op Lib Jvm.Stand Jvm.Free.XT Jvm.Free.ALB Jvm.Free.JM Jvm.Free
open Jvm.Lib.Cold (StaticIs)
def Cod (cd : Int32) (n : Nat) (f : Nat → Int32) (V : Cell) : Prop := (cd = 0 ∧ V.slots.size = n ∧ ∀ j, j < n → V.slots[j]? = some (.int (lo8 (f j))) ∧ ¬ 255 < f j) ∨ (cd = 1 ∧ V.slots.size = 2 * n ∧ (∀ j, j < n → V.slots[2 * j]? = some (.int (lo8 (f j))) ∧ V.slots[2 * j + 1]? = some (.int (hi8 (f j)))) ∧ ∃ j, j < n ∧ 255 < f j)
def Txt (x t : Addr) (V : Cell) (cd : Int32) (n : Nat) (f : Nat → Int32) (U : State) : Prop := Exact "java/lang/String" x U ∧ Has x "java/lang/String" "value" "[B" (.ref t) U ∧ Has x "java/lang/String" "coder" "B" (.int cd) U ∧ XT.Arr .byte t V U ∧ Cod cd n f V ∧ ∀ j, j < n → ¬ f j < 0 ∧ ¬ 65535 < f j
theorem Txt.mv {x t : Addr} {V : Cell} {cd : Int32} {n : Nat} {f : Nat → Int32} {U U' : State} (h : Txt x t V cd n f U) (hal : U.vm.Alike U'.vm) (hh : U'.heap = U.heap) : Txt x t V cd n f U' := ⟨h.1.mv hal hh, h.2.1.mv hal hh, h.2.2.1.mv hal hh, h.2.2.2.1.mv hal hh, h.2.2.2.2⟩
end StrChars
namespace StrChars.Road
open Jvm Sem ClassFile Op Lib Jvm.Stand Jvm.Free Jvm.Free.XT
open Jvm.Lib.Cold (StaticIs)
theorem consq {a : Array Value} {s : State} {c : Jvm.Cond} {L : List Jvm.Cond} (h0 : c.before a s = true) (h : ∀ w ∈ L, w.before a s = true) : ∀ w ∈ c :: L, w.before a s = true := fun w hw => (List.mem_cons.mp hw).elim (fun e => e ▸ h0) (h w)
def wideBytes : List Int32 → List Value
  | [] => []
  | c :: cs => .int (lo8 c) :: .int (hi8 c) :: wideBytes cs
theorem wide_lo (d : Value) : ∀ (cs : List Int32) (j : Nat), j < cs.length → (wideBytes cs).getD (2 * j) d = .int (lo8 (cs.getD j 0))
  | [], j, h => absurd h (Nat.not_lt_zero j)
  | c :: cs, 0, _ => rfl
  | c :: cs, j + 1, h => by
    have q := wide_lo d cs j (by simpa using h)
    rw [show 2 * (j + 1) = 2 * j + 1 + 1 from by omega]
    simpa [wideBytes] using q
theorem wide_hi (d : Value) : ∀ (cs : List Int32) (j : Nat), j < cs.length → (wideBytes cs).getD (2 * j + 1) d = .int (hi8 (cs.getD j 0))
  | [], j, h => absurd h (Nat.not_lt_zero j)
  | c :: cs, 0, _ => rfl
  | c :: cs, j + 1, h => by
    have q := wide_hi d cs j (by simpa using h)
    rw [show 2 * (j + 1) + 1 = 2 * j + 1 + 1 + 1 from by omega]
    simpa [wideBytes] using q
theorem low_at (d : Value) (cs : List Int32) (j : Nat) (h : j < cs.length) : (cs.map fun c => Value.int (lo8 c)).getD j d = .int (lo8 (cs.getD j 0)) := by
  simp [List.getD_eq_getElem?_getD, h]
def CodA (cs : List Int32) (cd N2 : Int32) (vs : List Value) : Prop := (cd = 0 ∧ N2 = Int32.ofNat cs.length ∧ vs = (cs.map fun c => Value.int (lo8 c)) ∧ ∀ c ∈ cs, ¬ 255 < c) ∨ (cd = 1 ∧ N2 = Int32.ofNat (2 * cs.length) ∧ vs = wideBytes cs ∧ ∃ c ∈ cs, 255 < c)
theorem CodA.cod {cs : List Int32} {cd N2 : Int32} {vs : List Value} {V : Cell} (h : CodA cs cd N2 vs) (hn : 2 * cs.length < 2 ^ 31) (hs : V.slots.size = N2.toNatClampNeg) (hv : RoadKit.Has V vs (.int 0)) : Cod cd cs.length (fun j => cs.getD j 0) V := by
  rcases h with ⟨rfl, rfl, rfl, h⟩ | ⟨rfl, rfl, rfl, c, hc, hw⟩
  · rw [n32 (by omega)] at hs
    exact Or.inl ⟨rfl, hs, fun j hj => ⟨by rw [hv j (by omega), low_at _ _ _ hj], by
      have e : cs.getD j 0 = cs[j] := by simp [List.getD_eq_getElem?_getD, hj]
      show ¬ 255 < cs.getD j 0
      rw [e]; exact h _ (List.getElem_mem _)⟩⟩
  · rw [n32 (by omega)] at hs
    obtain ⟨j, hj, rfl⟩ := List.getElem_of_mem hc
    exact Or.inr ⟨rfl, hs, fun j hj => ⟨by rw [hv _ (by omega), wide_lo _ _ _ hj], by rw [hv _ (by omega), wide_hi _ _ _ hj]⟩, j, hj, by
      have e : cs.getD j 0 = cs[j] := by simp [List.getD_eq_getElem?_getD, hj]
      show 255 < cs.getD j 0
      rw [e]; exact hw⟩
theorem strObj {Z U : State} {a0 : Array Value} {kI : Nat} (wi : (Jvm.Cond.instantiable ST kI).before a0 Z = true) (al : Z.vm.Alike U.vm) {x : Addr} {v0 c0 : Value} (E : RoadKit.Exa Z U.heap x ST) (V : RoadKit.Fld Z U.heap x ST "value" "[B" v0) (C : RoadKit.Fld Z U.heap x ST "coder" "B" c0) :
    ∃ (D : Cell) (fV fC : Field), Blank ST x D U ∧ Found ST "value" "[B" fV U ∧ Found ST "coder" "B" fC U ∧ D.slots[fV.slot]? = some v0 ∧ D.slots[fC.slot]? = some c0 ∧ RoadKit.slotOf Z ST "value" "[B" = fV.slot ∧ RoadKit.slotOf Z ST "coder" "B" = fC.slot := by
  obtain ⟨D, cfV, kV, iV, fV, hD, gV, stV, knV, obV, asV, slV⟩ := V
  obtain ⟨D', cfC, kC, iC, fC, hD', gC, stC, -, -, asC, slC⟩ := C
  cases hD.symm.trans hD'
  obtain ⟨D2, kD, e1, e2, e3, e4, e5⟩ := E
  cases hD.symm.trans e1
  obtain ⟨c2, k2, i1, i2, i3, -⟩ := Cond.instantiable_spec wi
  cases e2.symm.trans i1
  cases e3.symm.trans i2
  obtain ⟨kU, u1, u2⟩ := al.2.2 _ _ e3
  exact ⟨D, fV, fC, ⟨hD, ⟨knV, fun q hq => by rw [hq] at obV; cases obV⟩, by rw [al.findClass]; exact e2, kU, u1, by rw [u2]; exact i3, by rw [u2]; exact e5 i3⟩, ⟨SBG.found_only al ⟨cfV, kV, iV, gV⟩, stV⟩, ⟨SBG.found_only al ⟨cfC, kC, iC, gC⟩, stC⟩, slV, slC, by simp [RoadKit.slotOf, gV], by simp [RoadKit.slotOf, gC]⟩
theorem sta_is {Z U : State} (al : Z.vm.Alike U.vm) {C n d : String} {v : Value} (S : RoadKit.Sta Z U.heap C n d v) : StaticIs U C n d v := by
  obtain ⟨cfS, iS, kS, fS, st, cS, t1, t2, t3, t4, t5, t6, t7⟩ := S
  exact StaticIs.there (s := { Z with heap := U.heap }) ⟨cfS, iS, kS, fS, st, cS, t1, t2, t3, t4, t5, (fun q => by rw [q] at t6; cases t6), t7⟩ al rfl
end StrChars.Road
namespace StrChars
open Jvm Sem ClassFile Op Lib Jvm.Stand Jvm.Free.XT Jvm.Free.ALB Jvm.Free.JM Jvm.Free
open Jvm.Lib.Cold (StaticIs)
def yv (A : Cell) (i : Nat) : Int32 := match A.slots[i]? with | some (.int x) => x | _ => 0
theorem yv_get {a : Addr} {A : Cell} {U : State} (h : XT.Arr .byte a A U) (ht : Typed .byte A) {i : Nat} (hi : i < A.slots.size) : A.slots[i]? = some (.int (yv A i)) := by
  have e := Array.getElem?_eq_getElem hi
  have f := ht i _ e
  unfold yv; rw [e]
  generalize A.slots[i] = v at f
  cases v <;> simp [fits] at f ⊢
def EqC (A B : Cell) : Prop := A.slots.size = B.slots.size ∧ ∀ i, i < A.slots.size → yv A i = yv B i
def Says01 (q : Prop) (r : Option Value) (s u : State) : Prop := ∃ v : Int32, r = some (.int v) ∧ u.heap = s.heap ∧ ((v = 1 ∧ q) ∨ (v = 0 ∧ ¬ q))
theorem Says01.mv {q : Prop} : ∀ r (U U' V V' : State), U'.heap = U.heap → V.vm.Alike V'.vm → V'.heap = V.heap → Says01 q r U V → Says01 q r U' V' :=
  fun r U U' V V' h1 _ h2 ⟨v, a, b, c⟩ => ⟨v, a, by rw [h1, h2]; exact b, c⟩
namespace LEq
def yN : MethodName := ⟨"java/lang/StringLatin1", "equals", "([B[B)Z"⟩
abbrev yB : ByteArray := jdk_43_method_13_code
theorem d0 : decode yB 0 = .ok (.aload_n 0, 1) := by decide +kernel
theorem d1 : decode yB 1 = .ok (.arraylength, 1) := by decide +kernel
theorem d2 : decode yB 2 = .ok (.aload_n 1, 1) := by decide +kernel
theorem d3 : decode yB 3 = .ok (.arraylength, 1) := by decide +kernel
theorem d4 : decode yB 4 = .ok (.if_icmp (.ne) 30, 3) := by decide +kernel
theorem d7 : decode yB 7 = .ok (.iconst 0, 1) := by decide +kernel
theorem d8 : decode yB 8 = .ok (.istore_n 2, 1) := by decide +kernel
theorem d9 : decode yB 9 = .ok (.iload_n 2, 1) := by decide +kernel
theorem d10 : decode yB 10 = .ok (.aload_n 0, 1) := by decide +kernel
theorem d11 : decode yB 11 = .ok (.arraylength, 1) := by decide +kernel
theorem d12 : decode yB 12 = .ok (.if_icmp (.ge) 20, 3) := by decide +kernel
theorem d15 : decode yB 15 = .ok (.aload_n 0, 1) := by decide +kernel
theorem d16 : decode yB 16 = .ok (.iload_n 2, 1) := by decide +kernel
theorem d17 : decode yB 17 = .ok (.baload, 1) := by decide +kernel
theorem d18 : decode yB 18 = .ok (.aload_n 1, 1) := by decide +kernel
theorem d19 : decode yB 19 = .ok (.iload_n 2, 1) := by decide +kernel
theorem d20 : decode yB 20 = .ok (.baload, 1) := by decide +kernel
theorem d21 : decode yB 21 = .ok (.if_icmp (.eq) 5, 3) := by decide +kernel
theorem d24 : decode yB 24 = .ok (.iconst 0, 1) := by decide +kernel
theorem d25 : decode yB 25 = .ok (.ireturn, 1) := by decide +kernel
theorem d26 : decode yB 26 = .ok (.iinc 2 1, 3) := by decide +kernel
theorem d29 : decode yB 29 = .ok (.goto (-20), 3) := by decide +kernel
theorem d32 : decode yB 32 = .ok (.iconst 1, 1) := by decide +kernel
theorem d33 : decode yB 33 = .ok (.ireturn, 1) := by decide +kernel
theorem d34 : decode yB 34 = .ok (.iconst 0, 1) := by decide +kernel
theorem d35 : decode yB 35 = .ok (.ireturn, 1) := by decide +kernel
def site : List Cond := []
def tab : Cond := tabOf yN yB 3 (some .boolean) site
def P (a : Addr) (A : Cell) (b : Addr) (B : Cell) (args : Array Value) (s : State) : Prop := args = #[.ref a, .ref b] ∧ XT.Arr .byte a A s ∧ Typed .byte A ∧ XT.Arr .byte b B s ∧ Typed .byte B
theorem law (l : Launch) (a : Addr) (A : Cell) (b : Addr) (B : Cell) : Law l yN 2 2 0 0 yB 3 (some .boolean) site (P a A b B) (Says01 (EqC A B)) [] 0 0 := by
  refine Law.of_walk (plainFor_of_name (by decide +kernel)) (by decide +kernel) (by decide +kernel) (by decide) (fun _ _ h => by rw [h.1]; rfl) (fun _ U U' hal hh h => ⟨h.1, h.2.1.mv hal hh, h.2.2.1, h.2.2.2.1.mv hal hh, h.2.2.2.2⟩) (fun r U U' V V' h1 hal h2 h => Says01.mv r U U' V V' h1 hal h2 h) ?_
  intro p e s m args below meth c s₁ X0 hexec hbytes hml hret hlk hnm hown hh0 W hP
  obtain ⟨rfl, hA, tA, hB, tB⟩ := hP
  have a31 := hA.2.2.2
  have b31 := hB.2.2.2
  have hA0 := hA.mv X0.warmed.alike hh0
  have hB0 := hB.mv X0.warmed.alike hh0
  have c1 : Steps p.tables e below (s₁.setTop (entryFrame m #[.ref a, .ref b] 3)) (s₁.setTop (mkF m 0 #[.val (.ref a), .val (.ref b), .unset] [])) := entry rfl
  have c2 : Steps p.tables e below (s₁.setTop (entryFrame m #[.ref a, .ref b] 3)) (s₁.setTop (mkF m 4 #[.val (.ref a), .val (.ref b), .unset] [.int (Int32.ofNat B.slots.size), .int (Int32.ofNat A.slots.size)])) := c1.trans (by
    refine XS.aloadN X0.here hexec rfl (hb hbytes d0) rfl rfl ?_
    refine X0.alen hexec hA0 rfl rfl (hb hbytes d1) ?_
    refine XS.aloadN X0.here hexec rfl (hb hbytes d2) rfl rfl ?_
    refine X0.alen hexec hB0 rfl rfl (hb hbytes d3) ?_
    exact Steps.refl _)
  by_cases hs : A.slots.size = B.slots.size
  · have c3 : Steps p.tables e below (s₁.setTop (entryFrame m #[.ref a, .ref b] 3)) (s₁.setTop (mkF m 9 #[.val (.ref a), .val (.ref b), .val (.int 0)] [])) := c2.trans (by
      refine XS.icmpNo X0.here hexec rfl (hb hbytes d4) rfl (ii_ne_f (by rw [hs])) ?_
      refine iconstV X0.here hexec rfl 0 (hb hbytes d7) (by decide) ?_
      refine XS.istoreN X0.here hexec rfl (hb hbytes d8) rfl rfl ?_
      exact Steps.refl _)
    have loop : ∀ (r i : Nat), i + r = A.slots.size → (∀ j, j < i → yv A j = yv B j) → Steps p.tables e below (s₁.setTop (entryFrame m #[.ref a, .ref b] 3)) (s₁.setTop (mkF m 9 #[.val (.ref a), .val (.ref b), .val (.int (Int32.ofNat i))] [])) → ∃ (pc : Nat) (Ls : Array Slot) (v : Int32), (pc = 25 ∨ pc = 33) ∧ ((v = 1 ∧ EqC A B) ∨ (v = 0 ∧ ¬ EqC A B)) ∧ Steps p.tables e below (s₁.setTop (entryFrame m #[.ref a, .ref b] 3)) (s₁.setTop (mkF m pc Ls [.int v])) := by
      intro r
      induction r with
      | zero =>
        intro i hi he cl
        exact ⟨33, _, 1, Or.inr rfl, Or.inl ⟨rfl, hs, fun j hj => he j (by omega)⟩, cl.trans (by
          refine XS.iloadN X0.here hexec rfl (hb hbytes d9) rfl ?_
          refine XS.aloadN X0.here hexec rfl (hb hbytes d10) rfl rfl ?_
          refine X0.alen hexec hA0 rfl rfl (hb hbytes d11) ?_
          refine XS.icmpYes X0.here hexec rfl (pc0 := 12) rfl (hb hbytes d12) rfl (ii_ge_t (nlt32 (by omega) (by omega))) (by decide) rfl ?_
          refine iconstV X0.here hexec rfl 1 (hb hbytes d32) (by decide) ?_
          exact Steps.refl _)⟩
      | succ r ih =>
        intro i hi he cl
        have c4 : Steps p.tables e below (s₁.setTop (entryFrame m #[.ref a, .ref b] 3)) (s₁.setTop (mkF m 21 #[.val (.ref a), .val (.ref b), .val (.int (Int32.ofNat i))] [.int (yv B i), .int (yv A i)])) := cl.trans (by
          refine XS.iloadN X0.here hexec rfl (hb hbytes d9) rfl ?_
          refine XS.aloadN X0.here hexec rfl (hb hbytes d10) rfl rfl ?_
          refine X0.alen hexec hA0 rfl rfl (hb hbytes d11) ?_
          refine XS.icmpNo X0.here hexec rfl (hb hbytes d12) rfl (ii_ge_f (lt32 (by omega) (by omega))) ?_
          refine XS.aloadN X0.here hexec rfl (hb hbytes d15) rfl rfl ?_
          refine XS.iloadN X0.here hexec rfl (hb hbytes d16) rfl ?_
          refine X0.aget hexec hA0 rfl (yv_get hA tA (i := i) (by omega)) rfl rfl (hb hbytes d17) ?_
          refine XS.aloadN X0.here hexec rfl (hb hbytes d18) rfl rfl ?_
          refine XS.iloadN X0.here hexec rfl (hb hbytes d19) rfl ?_
          refine X0.aget hexec hB0 rfl (yv_get hB tB (i := i) (by omega)) rfl rfl (hb hbytes d20) ?_
          exact Steps.refl _)
        by_cases hv : yv A i = yv B i
        · have c5 : Steps p.tables e below (s₁.setTop (entryFrame m #[.ref a, .ref b] 3)) (s₁.setTop (mkF m 9 #[.val (.ref a), .val (.ref b), .val (.int (Int32.ofNat i + 1))] [])) := c4.trans (by
            refine XS.icmpYes X0.here hexec rfl (pc0 := 21) rfl (hb hbytes d21) rfl (ii_eq_t hv) (by decide) rfl ?_
            refine iincV X0.here hexec rfl 1 (hb hbytes d26) (by decide) rfl rfl ?_
            refine XS.goto X0.here hexec rfl (pc0 := 29) rfl (hb hbytes d29) (by decide) rfl ?_
            exact Steps.refl _)
          rw [succ32] at c5
          exact ih (i + 1) (by omega) (fun j hj => by
            by_cases e : j = i
            · rw [e]; exact hv
            · exact he j (by omega)) c5
        · exact ⟨25, _, 0, Or.inl rfl, Or.inr ⟨rfl, fun q => hv (q.2 i (by omega))⟩, c4.trans (by
            refine XS.icmpNo X0.here hexec rfl (hb hbytes d21) rfl (ii_eq_f hv) ?_
            refine iconstV X0.here hexec rfl 0 (hb hbytes d24) (by decide) ?_
            exact Steps.refl _)⟩
    obtain ⟨pc, Ls, v, hpc, hv, cz⟩ := loop A.slots.size 0 (by omega) (fun j hj => absurd hj (Nat.not_lt_zero j)) c3
    have nv : narrow .boolean (.int v) = .int v := by rcases hv with ⟨rfl, -⟩ | ⟨rfl, -⟩ <;> rfl
    rcases hpc with rfl | rfl
    · exact ⟨s₁, some (.int v), _, _, _, X0, rfl, rfl, rfl, (fun h => by cases h), ⟨v, rfl, hh0, hv⟩, fun fs hl => cz.trans (X0.ireturnOut hexec hret nv (Or.inr (Or.inl rfl)) (hb hbytes d25) hl)⟩
    · exact ⟨s₁, some (.int v), _, _, _, X0, rfl, rfl, rfl, (fun h => by cases h), ⟨v, rfl, hh0, hv⟩, fun fs hl => cz.trans (X0.ireturnOut hexec hret nv (Or.inr (Or.inl rfl)) (hb hbytes d33) hl)⟩
  · have c3 : Steps p.tables e below (s₁.setTop (entryFrame m #[.ref a, .ref b] 3)) (s₁.setTop (mkF m 35 #[.val (.ref a), .val (.ref b), .unset] [.int 0])) := c2.trans (by
      refine XS.icmpYes X0.here hexec rfl (pc0 := 4) rfl (hb hbytes d4) rfl (ii_ne_t (ne32 a31 b31 hs)) (by decide) rfl ?_
      refine iconstV X0.here hexec rfl 0 (hb hbytes d34) (by decide) ?_
      exact Steps.refl _)
    exact ⟨s₁, some (.int 0), _, _, _, X0, rfl, rfl, rfl, (fun h => by cases h), ⟨0, rfl, hh0, Or.inr ⟨rfl, fun q => hs q.1⟩⟩, fun fs hl => c3.trans (X0.ireturnOut hexec hret rfl (Or.inr (Or.inl rfl)) (hb hbytes d35) hl)⟩
end LEq
theorem Cod.ty {cd : Int32} {n : Nat} {f : Nat → Int32} {V : Cell} (h : Cod cd n f V) : Typed .byte V := fun i v hv => by
  have hi : i < V.slots.size := (Array.getElem?_eq_some_iff.mp hv).1
  rcases h with ⟨-, k1, k2⟩ | ⟨-, k1, k2, -⟩
  · rw [(k2 i (by omega)).1] at hv; cases hv; exact fits_lo8 _
  · rcases Nat.mod_two_eq_zero_or_one i with e | e
    · obtain ⟨j, rfl⟩ : ∃ j, i = 2 * j := ⟨i / 2, by omega⟩
      rw [(k2 j (by omega)).1] at hv; cases hv; exact fits_lo8 _
    · obtain ⟨j, rfl⟩ : ∃ j, i = 2 * j + 1 := ⟨i / 2, by omega⟩
      rw [(k2 j (by omega)).2] at hv; cases hv; exact fits_lo8 _
def SameT (n : Nat) (f : Nat → Int32) (k : Nat) (g : Nat → Int32) : Prop := n = k ∧ ∀ j, j < n → f j = g j
theorem lo8_inj {x y : Int32} (h0 : ¬ x < 0) (h1 : ¬ 255 < x) (k0 : ¬ y < 0) (k1 : ¬ 255 < y) (h : lo8 x = lo8 y) : x = y := by
  rw [← lo8_mask h0 h1, ← lo8_mask k0 k1, h]
theorem Cod.eqv {cd : Int32} {n k : Nat} {f g : Nat → Int32} {V V' : Cell} (h : Cod cd n f V) (h' : Cod cd k g V') (hf : ∀ j, j < n → ¬ f j < 0 ∧ ¬ 65535 < f j) (hg : ∀ j, j < k → ¬ g j < 0 ∧ ¬ 65535 < g j) : EqC V V' ↔ SameT n f k g := by
  have yvv : ∀ {W : Cell} {i : Nat} {x : Int32}, W.slots[i]? = some (.int x) → yv W i = x := fun q => by unfold yv; rw [q]
  rcases h with ⟨rfl, k1, k2⟩ | ⟨rfl, k1, k2, -⟩
  · rcases h' with ⟨-, m1, m2⟩ | ⟨e, -⟩
    · constructor
      · rintro ⟨e1, e2⟩
        refine ⟨by omega, fun j hj => ?_⟩
        have q := e2 j (by omega)
        rw [yvv (k2 j hj).1, yvv (m2 j (by omega)).1] at q
        exact lo8_inj (hf j hj).1 (k2 j hj).2 (hg j (by omega)).1 (m2 j (by omega)).2 q
      · rintro ⟨rfl, e2⟩
        refine ⟨by omega, fun j hj => ?_⟩
        rw [yvv (k2 j (by omega)).1, yvv (m2 j (by omega)).1, e2 j (by omega)]
    · exact absurd e (by decide)
  · rcases h' with ⟨e, -⟩ | ⟨-, m1, m2, -⟩
    · exact absurd e (by decide)
    · constructor
      · rintro ⟨e1, e2⟩
        refine ⟨by omega, fun j hj => ?_⟩
        have q1 := e2 (2 * j) (by omega)
        have q2 := e2 (2 * j + 1) (by omega)
        rw [yvv (k2 j hj).1, yvv (m2 j (by omega)).1] at q1
        rw [yvv (k2 j hj).2, yvv (m2 j (by omega)).2] at q2
        rw [← pair_says (hf j hj).1 (hf j hj).2, ← pair_says (hg j (by omega)).1 (hg j (by omega)).2, q1, q2]
      · rintro ⟨rfl, e2⟩
        refine ⟨by omega, fun i hi => ?_⟩
        rcases Nat.mod_two_eq_zero_or_one i with e | e
        · obtain ⟨j, rfl⟩ : ∃ j, i = 2 * j := ⟨i / 2, by omega⟩
          rw [yvv (k2 j (by omega)).1, yvv (m2 j (by omega)).1, e2 j (by omega)]
        · obtain ⟨j, rfl⟩ : ∃ j, i = 2 * j + 1 := ⟨i / 2, by omega⟩
          rw [yvv (k2 j (by omega)).2, yvv (m2 j (by omega)).2, e2 j (by omega)]
theorem Cod.dif {cd cd' : Int32} {n k : Nat} {f g : Nat → Int32} {V V' : Cell} (h : Cod cd n f V) (h' : Cod cd' k g V') (hne : ¬ cd = cd') : ¬ SameT n f k g := by
  rintro ⟨rfl, e⟩
  rcases h with ⟨rfl, -, k2⟩ | ⟨rfl, -, -, j, hj, hw⟩
  · rcases h' with ⟨rfl, -⟩ | ⟨-, -, -, j, hj, hw⟩
    · exact hne rfl
    · exact (k2 j hj).2 (by rw [e j hj]; exact hw)
  · rcases h' with ⟨-, -, m2⟩ | ⟨rfl, -⟩
    · exact (m2 j hj).2 (by rw [← e j hj]; exact hw)
    · exact hne rfl
theorem cinst {p : Program} {l : Launch} {e : Env} {R : Room} {s : State} {m : MethodId} {args : Array Value} {below : List Frame} {meth : Method} {c : Code} {T : State} {locs : List Loc} {cells slots : Nat} (X : Stand p l e R s m args below meth c T locs cells slots) (hexec : p.tables.exec = Jvm.exec) {own C : String} {index : Nat} (hown : s.vm.findClass own = some m.cls) (hlink : (Cond.classLink own index C).before args s = true) {a : Addr} (hE : Exact C a T)
    {g : JFrame} (hg : g.method = m) {rest : List Value} (hstack : g.stack = .ref a :: rest) (hdg : decode c.code g.pc = .ok (.instanceof index, 3)) :
    ∃ T', Stand p l e R s m args below meth c T' locs cells slots ∧ T'.heap = T.heap ∧ ∀ target, Steps p.tables e below (T'.setTop { g with pc := g.pc + 3, stack := .int 1 :: rest }) target → Steps p.tables e below (T.setTop g) target := by
  obtain ⟨cB, h1, D, h2, h3, h4⟩ := hE
  have h1' : s.vm.findClass C = some cB := by rw [← X.warmed.alike.findClass]; exact h1
  obtain ⟨vm', X', st⟩ := X.instanceofYes hexec hown hlink h2 h4 h1' (by rw [h3]; exact Jvm.Free.SB.assignable_self _ _) hg hstack hdg
  exact ⟨_, X', rfl, st⟩
theorem cself {p : Program} {l : Launch} {e : Env} {R : Room} {s : State} {m : MethodId} {args : Array Value} {below : List Frame} {meth : Method} {c : Code} {T : State} {locs : List Loc} {cells slots : Nat} (X : Stand p l e R s m args below meth c T locs cells slots) (hexec : p.tables.exec = Jvm.exec) {own C : String} {index : Nat} (hown : s.vm.findClass own = some m.cls) (hlink : (Cond.classLink own index C).before args s = true) {a : Addr} (hE : Exact C a T)
    {g : JFrame} (hg : g.method = m) {rest : List Value} (hstack : g.stack = .ref a :: rest) (hdg : decode c.code g.pc = .ok (.checkcast index, 3)) :
    ∃ T', Stand p l e R s m args below meth c T' locs cells slots ∧ T'.heap = T.heap ∧ ∀ target, Steps p.tables e below (T'.setTop { g with pc := g.pc + 3, stack := .ref a :: rest }) target → Steps p.tables e below (T.setTop g) target := by
  obtain ⟨cB, h1, D, h2, h3, h4⟩ := hE
  have h1' : s.vm.findClass C = some cB := by rw [← X.warmed.alike.findClass]; exact h1
  obtain ⟨vm', X', st⟩ := X.checkcastYes hexec hown hlink h2 h4 h1' (by rw [h3]; exact Jvm.Free.SB.assignable_self _ _) hg hstack hdg
  exact ⟨_, X', rfl, fun t h => st t (by rw [← hstack] at h; exact h)⟩
namespace SEq
def yN : MethodName := ⟨"java/lang/String", "equals", "(Ljava/lang/Object;)Z"⟩
abbrev yB : ByteArray := jdk_42_method_66_code
theorem d0 : decode yB 0 = .ok (.aload_n 0, 1) := by decide +kernel
theorem d1 : decode yB 1 = .ok (.aload_n 1, 1) := by decide +kernel
theorem d2 : decode yB 2 = .ok (.if_acmp (.ne) 5, 3) := by decide +kernel
theorem d5 : decode yB 5 = .ok (.iconst 1, 1) := by decide +kernel
theorem d6 : decode yB 6 = .ok (.ireturn, 1) := by decide +kernel
theorem d7 : decode yB 7 = .ok (.aload_n 1, 1) := by decide +kernel
theorem d8 : decode yB 8 = .ok (.instanceof 10, 3) := by decide +kernel
theorem d11 : decode yB 11 = .ok (.ifCond (.eq) 43, 3) := by decide +kernel
theorem d14 : decode yB 14 = .ok (.aload_n 1, 1) := by decide +kernel
theorem d15 : decode yB 15 = .ok (.checkcast 10, 3) := by decide +kernel
theorem d18 : decode yB 18 = .ok (.astore_n 2, 1) := by decide +kernel
theorem d19 : decode yB 19 = .ok (.getstatic 38, 3) := by decide +kernel
theorem d22 : decode yB 22 = .ok (.ifCond (.eq) 14, 3) := by decide +kernel
theorem d25 : decode yB 25 = .ok (.aload_n 0, 1) := by decide +kernel
theorem d26 : decode yB 26 = .ok (.getfield 15, 3) := by decide +kernel
theorem d29 : decode yB 29 = .ok (.aload_n 2, 1) := by decide +kernel
theorem d30 : decode yB 30 = .ok (.getfield 15, 3) := by decide +kernel
theorem d33 : decode yB 33 = .ok (.if_icmp (.ne) 21, 3) := by decide +kernel
theorem d36 : decode yB 36 = .ok (.aload_n 0, 1) := by decide +kernel
theorem d37 : decode yB 37 = .ok (.getfield 9, 3) := by decide +kernel
theorem d40 : decode yB 40 = .ok (.aload_n 2, 1) := by decide +kernel
theorem d41 : decode yB 41 = .ok (.getfield 9, 3) := by decide +kernel
theorem d44 : decode yB 44 = .ok (.invokestatic 541, 3) := by decide +kernel
theorem d47 : decode yB 47 = .ok (.ifCond (.eq) 7, 3) := by decide +kernel
theorem d50 : decode yB 50 = .ok (.iconst 1, 1) := by decide +kernel
theorem d51 : decode yB 51 = .ok (.goto 4, 3) := by decide +kernel
theorem d54 : decode yB 54 = .ok (.iconst 0, 1) := by decide +kernel
theorem d55 : decode yB 55 = .ok (.ireturn, 1) := by decide +kernel
def site : List Cond := [.classLink "java/lang/String" 10 "java/lang/String", .fieldLink "java/lang/String" 38 "java/lang/String" "COMPACT_STRINGS" "Z", .fieldLink "java/lang/String" 15 "java/lang/String" "coder" "B", .fieldLink "java/lang/String" 9 "java/lang/String" "value" "[B", LEq.tab] ++ staticW "java/lang/String" 541 LEq.yN
def tab : Cond := tabOf yN yB 3 (some .boolean) site
def P (x t : Addr) (V : Cell) (cd : Int32) (n : Nat) (f : Nat → Int32) (y t' : Addr) (V' : Cell) (cd' : Int32) (k : Nat) (g : Nat → Int32) (z : Int32) (args : Array Value) (s : State) : Prop := args = #[.ref x, .ref y] ∧ Txt x t V cd n f s ∧ Txt y t' V' cd' k g s ∧ StaticIs s "java/lang/String" "COMPACT_STRINGS" "Z" (.int z) ∧ ¬ z = 0
theorem law (l : Launch) (x t : Addr) (V : Cell) (cd : Int32) (n : Nat) (f : Nat → Int32) (y t' : Addr) (V' : Cell) (cd' : Int32) (k : Nat) (g : Nat → Int32) (z : Int32) : Law l yN 2 1 1 14 yB 3 (some .boolean) site (P x t V cd n f y t' V' cd' k g z) (Says01 (SameT n f k g)) [] 0 0 := by
  refine Law.of_walk (plainFor_of_name (by decide +kernel)) (by decide +kernel) (by decide +kernel) (by decide) (fun _ _ h => by rw [h.1]; rfl) (fun _ U U' hal hh h => ⟨h.1, h.2.1.mv hal hh, h.2.2.1.mv hal hh, h.2.2.2.1.there hal hh, h.2.2.2.2⟩) (fun r U U' V V' h1 hal h2 h => Says01.mv r U U' V V' h1 hal h2 h) ?_
  intro p e s m args below meth c s₁ X0 hexec hbytes hml hret hlk hnm hown hh0 W hP
  obtain ⟨rfl, hx, hy, s1, hz⟩ := hP
  have c1 : Steps p.tables e below (s₁.setTop (entryFrame m #[.ref x, .ref y] 3)) (s₁.setTop (mkF m 2 #[.val (.ref x), .val (.ref y), .unset] [.ref y, .ref x])) := Steps.trans (entry rfl) (by
    show Steps p.tables e below (s₁.setTop (mkF m 0 #[.val (.ref x), .val (.ref y), .unset] [])) _
    refine XS.aloadN X0.here hexec rfl (hb hbytes d0) rfl rfl ?_
    refine XS.aloadN X0.here hexec rfl (hb hbytes d1) rfl rfl ?_
    exact Steps.refl _)
  by_cases hxy : x = y
  · have c2 : Steps p.tables e below (s₁.setTop (entryFrame m #[.ref x, .ref y] 3)) (s₁.setTop (mkF m 6 #[.val (.ref x), .val (.ref y), .unset] [.int 1])) := c1.trans (by
      refine acmpNo X0.here hexec rfl (hb hbytes d2) rfl rfl rfl (by simp [acmp, hxy]) ?_
      refine iconstV X0.here hexec rfl 1 (hb hbytes d5) (by decide) ?_
      exact Steps.refl _)
    subst hxy
    have ec : cd = cd' := by
      obtain ⟨D, fd, a1, a2, a3⟩ := hx.2.2.1
      obtain ⟨D', fd', b1, b2, b3⟩ := hy.2.2.1
      cases a1.symm.trans b1
      obtain ⟨q1, q2, q3, q4⟩ := a2.1
      obtain ⟨r1, r2, r3, r4⟩ := b2.1
      cases q4.symm.trans r4
      cases a3.symm.trans b3; rfl
    have et : t = t' := by
      obtain ⟨D, fd, a1, a2, a3⟩ := hx.2.1
      obtain ⟨D', fd', b1, b2, b3⟩ := hy.2.1
      cases a1.symm.trans b1
      obtain ⟨q1, q2, q3, q4⟩ := a2.1
      obtain ⟨r1, r2, r3, r4⟩ := b2.1
      cases q4.symm.trans r4
      cases a3.symm.trans b3; rfl
    subst ec et
    have ev : V = V' := by cases hx.2.2.2.1.1.symm.trans hy.2.2.2.1.1; rfl
    subst ev
    have hs : SameT n f k g := (Cod.eqv hx.2.2.2.2.1 hy.2.2.2.2.1 hx.2.2.2.2.2 hy.2.2.2.2.2).mp ⟨rfl, fun _ _ => rfl⟩
    exact ⟨s₁, some (.int 1), _, _, _, X0, rfl, rfl, rfl, (fun h => by cases h), ⟨1, rfl, hh0, Or.inl ⟨rfl, hs⟩⟩, fun fs hl => c2.trans (X0.ireturnOut hexec hret rfl (Or.inr (Or.inl rfl)) (hb hbytes d6) hl)⟩
  · have c2 : Steps p.tables e below (s₁.setTop (entryFrame m #[.ref x, .ref y] 3)) (s₁.setTop (mkF m 8 #[.val (.ref x), .val (.ref y), .unset] [.ref y])) := c1.trans (by
      refine acmpYes X0.here hexec rfl (pc0 := 2) rfl (hb hbytes d2) rfl rfl rfl (by simp [acmp, hxy]) (by decide) rfl ?_
      refine XS.aloadN X0.here hexec rfl (hb hbytes d7) rfl rfl ?_
      exact Steps.refl _)
    obtain ⟨T3, X3, q3, st3⟩ := cinst X0 hexec hown (wk W (.classLink "java/lang/String" 10 "java/lang/String")) (hy.mv X0.warmed.alike hh0).1 (g := (mkF m 8 #[.val (.ref x), .val (.ref y), .unset] [.ref y])) rfl (rest := []) rfl (hb hbytes d8)
    have hh3 := q3.trans hh0
    have c4 : Steps p.tables e below (s₁.setTop (entryFrame m #[.ref x, .ref y] 3)) (T3.setTop (mkF m 15 #[.val (.ref x), .val (.ref y), .unset] [.ref y])) := (c2.trans (st3 _ (Steps.refl _))).trans (by
      refine XS.ifNo X3.here hexec rfl (hb hbytes d11) rfl (i0_eq_f (by decide)) ?_
      refine XS.aloadN X3.here hexec rfl (hb hbytes d14) rfl rfl ?_
      exact Steps.refl _)
    obtain ⟨T5, X5, q5, st5⟩ := cself X3 hexec hown (wk W (.classLink "java/lang/String" 10 "java/lang/String")) (hy.mv X3.warmed.alike hh3).1 (g := (mkF m 15 #[.val (.ref x), .val (.ref y), .unset] [.ref y])) rfl (rest := []) rfl (hb hbytes d15)
    have hh5 := q5.trans hh3
    have c6 : Steps p.tables e below (s₁.setTop (entryFrame m #[.ref x, .ref y] 3)) (T5.setTop (mkF m 19 #[.val (.ref x), .val (.ref y), .val (.ref y)] [])) := (c4.trans (st5 _ (Steps.refl _))).trans (by
      refine XS.astoreN X5.here hexec rfl (hb hbytes d18) rfl rfl rfl ?_
      exact Steps.refl _)
    obtain ⟨T7, X7, q7, st7⟩ := X5.sget hexec hown (wk W (.fieldLink "java/lang/String" 38 "java/lang/String" "COMPACT_STRINGS" "Z")) s1 (fun _ _ h => by rw [hh5]; exact h) (g := (mkF m 19 #[.val (.ref x), .val (.ref y), .val (.ref y)] [])) rfl (hb hbytes d19)
    have hh7 := q7.trans hh5
    have c8 : Steps p.tables e below (s₁.setTop (entryFrame m #[.ref x, .ref y] 3)) (T7.setTop (mkF m 26 #[.val (.ref x), .val (.ref y), .val (.ref y)] [.ref x])) := (c6.trans (st7 _ (Steps.refl _))).trans (by
      refine XS.ifNo X7.here hexec rfl (hb hbytes d22) rfl (i0_eq_f hz) ?_
      refine XS.aloadN X7.here hexec rfl (hb hbytes d25) rfl rfl ?_
      exact Steps.refl _)
    obtain ⟨T9, X9, q9, st9⟩ := X7.hget hexec hown (wk W (.fieldLink "java/lang/String" 15 "java/lang/String" "coder" "B")) (hx.mv X7.warmed.alike hh7).2.2.1 (g := (mkF m 26 #[.val (.ref x), .val (.ref y), .val (.ref y)] [.ref x])) rfl (rest := []) rfl (hb hbytes d26)
    have hh9 := q9.trans hh7
    have c10 : Steps p.tables e below (s₁.setTop (entryFrame m #[.ref x, .ref y] 3)) (T9.setTop (mkF m 30 #[.val (.ref x), .val (.ref y), .val (.ref y)] [.ref y, .int cd])) := (c8.trans (st9 _ (Steps.refl _))).trans (by
      refine XS.aloadN X9.here hexec rfl (hb hbytes d29) rfl rfl ?_
      exact Steps.refl _)
    obtain ⟨T11, X11, q11, st11⟩ := X9.hget hexec hown (wk W (.fieldLink "java/lang/String" 15 "java/lang/String" "coder" "B")) (hy.mv X9.warmed.alike hh9).2.2.1 (g := (mkF m 30 #[.val (.ref x), .val (.ref y), .val (.ref y)] [.ref y, .int cd])) rfl (rest := [.int cd]) rfl (hb hbytes d30)
    have hh11 := q11.trans hh9
    have c12 : Steps p.tables e below (s₁.setTop (entryFrame m #[.ref x, .ref y] 3)) (T11.setTop (mkF m 33 #[.val (.ref x), .val (.ref y), .val (.ref y)] [.int cd', .int cd])) := c10.trans (st11 _ (Steps.refl _))
    by_cases hcd : cd = cd'
    · subst hcd
      have c13 : Steps p.tables e below (s₁.setTop (entryFrame m #[.ref x, .ref y] 3)) (T11.setTop (mkF m 37 #[.val (.ref x), .val (.ref y), .val (.ref y)] [.ref x])) := c12.trans (by
        refine XS.icmpNo X11.here hexec rfl (hb hbytes d33) rfl (ii_ne_f rfl) ?_
        refine XS.aloadN X11.here hexec rfl (hb hbytes d36) rfl rfl ?_
        exact Steps.refl _)
      obtain ⟨T14, X14, q14, st14⟩ := X11.hget hexec hown (wk W (.fieldLink "java/lang/String" 9 "java/lang/String" "value" "[B")) (hx.mv X11.warmed.alike hh11).2.1 (g := (mkF m 37 #[.val (.ref x), .val (.ref y), .val (.ref y)] [.ref x])) rfl (rest := []) rfl (hb hbytes d37)
      have hh14 := q14.trans hh11
      have c15 : Steps p.tables e below (s₁.setTop (entryFrame m #[.ref x, .ref y] 3)) (T14.setTop (mkF m 41 #[.val (.ref x), .val (.ref y), .val (.ref y)] [.ref y, .ref t])) := (c13.trans (st14 _ (Steps.refl _))).trans (by
        refine XS.aloadN X14.here hexec rfl (hb hbytes d40) rfl rfl ?_
        exact Steps.refl _)
      obtain ⟨T16, X16, q16, st16⟩ := X14.hget hexec hown (wk W (.fieldLink "java/lang/String" 9 "java/lang/String" "value" "[B")) (hy.mv X14.warmed.alike hh14).2.1 (g := (mkF m 41 #[.val (.ref x), .val (.ref y), .val (.ref y)] [.ref y, .ref t])) rfl (rest := [.ref t]) rfl (hb hbytes d41)
      have hh16 := q16.trans hh14
      have c17 : Steps p.tables e below (s₁.setTop (entryFrame m #[.ref x, .ref y] 3)) (T16.setTop (mkF m 44 #[.val (.ref x), .val (.ref y), .val (.ref y)] [.ref t', .ref t])) := c15.trans (st16 _ (Steps.refl _))
      obtain ⟨v18, T18, X18, E18, g18⟩ := X16.callS hexec (LEq.law l t V t' V') hown (wks W (staticW "java/lang/String" 541 LEq.yN)) (wk W LEq.tab) (W := 0) (Nat.le_of_ble_eq_true rfl) (Nat.le_of_ble_eq_true rfl) (Nat.le_refl _) (Nat.le_refl _) (g := (mkF m 44 #[.val (.ref x), .val (.ref y), .val (.ref y)] [.ref t', .ref t])) rfl (by rw [hml]; rfl) c17 (argsL := [.ref t, .ref t']) (rest := []) rfl rfl (by show 2 * 0 + 0 ≤ _; decide) (hb hbytes d44) (⟨rfl, hx.2.2.2.1.mv X16.warmed.alike hh16, hx.2.2.2.2.1.ty, hy.2.2.2.1.mv X16.warmed.alike hh16, hy.2.2.2.2.1.ty⟩)
      obtain ⟨v, rfl, q18, hv⟩ := E18
      have iff := Cod.eqv hx.2.2.2.2.1 hy.2.2.2.2.1 hx.2.2.2.2.2 hy.2.2.2.2.2
      rcases hv with ⟨rfl, he⟩ | ⟨rfl, he⟩
      · have c19 : Steps p.tables e below (s₁.setTop (entryFrame m #[.ref x, .ref y] 3)) (T18.setTop (mkF m 55 #[.val (.ref x), .val (.ref y), .val (.ref y)] [.int 1])) := Steps.trans g18 (by
          refine XS.ifNo X18.here hexec rfl (hb hbytes d47) rfl (i0_eq_f (by decide)) ?_
          refine iconstV X18.here hexec rfl 1 (hb hbytes d50) (by decide) ?_
          refine XS.goto X18.here hexec rfl (pc0 := 51) rfl (hb hbytes d51) (by decide) rfl ?_
          exact Steps.refl _)
        exact ⟨T18, some (.int 1), _, _, _, X18, rfl, rfl, rfl, (fun h => by cases h), ⟨1, rfl, q18.trans hh16, Or.inl ⟨rfl, iff.mp he⟩⟩, fun fs hl => c19.trans (X18.ireturnOut hexec hret rfl (Or.inr (Or.inl rfl)) (hb hbytes d55) hl)⟩
      · have c19 : Steps p.tables e below (s₁.setTop (entryFrame m #[.ref x, .ref y] 3)) (T18.setTop (mkF m 55 #[.val (.ref x), .val (.ref y), .val (.ref y)] [.int 0])) := Steps.trans g18 (by
          refine XS.ifYes X18.here hexec rfl (pc0 := 47) rfl (hb hbytes d47) rfl (i0_eq_t rfl) (by decide) rfl ?_
          refine iconstV X18.here hexec rfl 0 (hb hbytes d54) (by decide) ?_
          exact Steps.refl _)
        exact ⟨T18, some (.int 0), _, _, _, X18, rfl, rfl, rfl, (fun h => by cases h), ⟨0, rfl, q18.trans hh16, Or.inr ⟨rfl, fun q => he (iff.mpr q)⟩⟩, fun fs hl => c19.trans (X18.ireturnOut hexec hret rfl (Or.inr (Or.inl rfl)) (hb hbytes d55) hl)⟩
    · have c13 : Steps p.tables e below (s₁.setTop (entryFrame m #[.ref x, .ref y] 3)) (T11.setTop (mkF m 55 #[.val (.ref x), .val (.ref y), .val (.ref y)] [.int 0])) := c12.trans (by
        refine XS.icmpYes X11.here hexec rfl (pc0 := 33) rfl (hb hbytes d33) rfl (ii_ne_t hcd) (by decide) rfl ?_
        refine iconstV X11.here hexec rfl 0 (hb hbytes d54) (by decide) ?_
        exact Steps.refl _)
      exact ⟨T11, some (.int 0), _, _, _, X11, rfl, rfl, rfl, (fun h => by cases h), ⟨0, rfl, hh11, Or.inr ⟨rfl, Cod.dif hx.2.2.2.2.1 hy.2.2.2.2.1 hcd⟩⟩, fun fs hl => c13.trans (X11.ireturnOut hexec hret rfl (Or.inr (Or.inl rfl)) (hb hbytes d55) hl)⟩
theorem pays {l : Launch} {R : Room} {p : Program} {e : Env} {below : List Frame} {s : State} {sargs : Array Value} {len W : Nat} (x t : Addr) (V : Cell) (cd : Int32) (n : Nat) (f : Nat → Int32) (y t' : Addr) (V' : Cell) (cd' : Int32) (k : Nat) (g : Nat → Int32) (z : Int32) (htab : tab.before sargs s = true) (hfr : 2 ≤ R.frames) (hlo : W + 28 ≤ R.locals) :
    Back l R p e below s sargs yN len W (fun A₁ a₁ => A₁.cells + 0 ≤ R.cells ∧ A₁.slots + 0 ≤ R.slots ∧ P x t V cd n f y t' V' cd' k g z a₁ A₁.U) (fun A₁ _ v₁ B₁ => Says01 (SameT n f k g) v₁ A₁.U B₁.U ∧ B₁.locs = A₁.locs ++ [] ∧ B₁.cells = A₁.cells + 0 ∧ B₁.slots = A₁.slots + 0) :=
  (law l x t V cd n f y t' V' cd' k g z).pays htab hfr (by omega)
end SEq
end StrChars
namespace StrChars.Road
open Jvm Sem ClassFile Op Lib Jvm.Stand Jvm.Free Jvm.Free.XT
open Jvm.Lib.Cold (StaticIs)
abbrev wordsEq : List Jvm.Cond := [.code SEq.yN SEq.yB 3 (some .boolean), .initialized ST, .classLink ST 10 ST, .fieldLink ST 38 ST "COMPACT_STRINGS" "Z", .fieldLink ST 15 ST "coder" "B", .fieldLink ST 9 ST "value" "[B", .methodLink ST 541 LEq.yN, .static LEq.yN, .code LEq.yN LEq.yB 3 (some .boolean), .initialized "java/lang/StringLatin1"]
theorem tabEq_of {a : Array Value} {s : State} (h : ∀ w ∈ wordsEq, w.before a s = true) : SEq.tab.before a s = true := by
  have hl : LEq.tab.before a s = true := unparts (wk h (.code LEq.yN LEq.yB 3 (some .boolean))) (wks h (.initialized LEq.yN.cls :: LEq.site))
  have q := consq hl h
  exact unparts (wk q (.code SEq.yN SEq.yB 3 (some .boolean))) (wks q (.initialized SEq.yN.cls :: SEq.site))
theorem movedEq {Z s : State} {a0 args : Array Value} (hZ : Z.Warmed39 s.vm) (hw : ∀ d ∈ wordsEq, d.before a0 Z = true) : ∀ d ∈ wordsEq, d.before args s = true := fun d hd => by
  have t : ∀ d ∈ wordsEq, (d.onTables && d.keepsFace) = true := by decide +kernel
  exact RoadKit.mv hZ (hw d hd) (t d hd)
theorem txt_of {Z U : State} {a0 : Array Value} {kI : Nat} (wi : (Jvm.Cond.instantiable ST kI).before a0 Z = true) (al : Z.vm.Alike U.vm) {x t : Addr} {kb : ClassId} {cs : List Int32} {cd N2 : Int32} {vs : List Value} (E : RoadKit.Exa Z U.heap x ST) (V : RoadKit.Fld Z U.heap x ST "value" "[B" (.ref t)) (C : RoadKit.Fld Z U.heap x ST "coder" "B" (.int cd)) (K : RoadKit.Arv Z U.heap t kb .byte N2 vs (.int 0)) (hc : CodA cs cd N2 vs) (hb : ∀ c ∈ cs, ¬ c < 0 ∧ ¬ (65535 : Int32) < c) (l2 : cs.length ≤ 4000) :
    ∃ A, Txt x t A cd cs.length (fun j => cs.getD j 0) U := by
  obtain ⟨A, K1, K2, K3, K4, K5, K6⟩ := K
  have hcod := hc.cod (by omega) K3 K5
  obtain ⟨D, fV, fC, hB, F1, F2, g1, g2, -, -⟩ := strObj wi al E V C
  exact ⟨A, ⟨_, hB.2.2.1, D, hB.1, rfl, by cases q : D.vm <;> first | rfl | exact absurd q (hB.2.1.2 _)⟩, Has.of hB F1 g1, Has.of hB F2 g2, ⟨K1.1, State.isArrayOf_alike al K1.2.1, K1.2.2, by rcases hcod with ⟨-, q, -⟩ | ⟨-, q, -⟩ <;> omega⟩, hcod, fun j hj => by
    have e : cs.getD j 0 = cs[j] := by simp [List.getD_eq_getElem?_getD, hj]
    show ¬ cs.getD j 0 < 0 ∧ ¬ 65535 < cs.getD j 0
    rw [e]; exact hb _ (List.getElem_mem _)⟩
theorem same_list (cs ds : List Int32) : SameT cs.length (fun j => cs.getD j 0) ds.length (fun j => ds.getD j 0) ↔ cs = ds := by
  constructor
  · rintro ⟨e, q⟩
    refine List.ext_getElem e fun j h1 h2 => ?_
    have := q j h1
    simpa [List.getD_eq_getElem?_getD, h1, h2] using this
  · rintro rfl
    exact ⟨rfl, fun _ _ => rfl⟩
theorem eqW {p : Program} {l : Launch} {e : Env} {R : Room} {s : State} {args : Array Value} {below : List Frame} {len W : Nat} {Z : State} {a0 : Array Value} {h : Heap} (hZ : Z.Warmed39 s.vm) (hw : ∀ d ∈ wordsEq, d.before a0 Z = true) {kI : Nat} (wi : (Jvm.Cond.instantiable ST kI).before a0 Z = true)
    {x t : Addr} {kb : ClassId} {cs : List Int32} {cd N2 : Int32} {vs : List Value} (E : RoadKit.Exa Z h x ST) (V : RoadKit.Fld Z h x ST "value" "[B" (.ref t)) (C : RoadKit.Fld Z h x ST "coder" "B" (.int cd)) (K : RoadKit.Arv Z h t kb .byte N2 vs (.int 0)) (hc : CodA cs cd N2 vs) (hb : ∀ c ∈ cs, ¬ c < 0 ∧ ¬ (65535 : Int32) < c) (l2 : cs.length ≤ 4000)
    {y t' : Addr} {kb' : ClassId} {ds : List Int32} {cd' N2' : Int32} {vs' : List Value} (E' : RoadKit.Exa Z h y ST) (V' : RoadKit.Fld Z h y ST "value" "[B" (.ref t')) (C' : RoadKit.Fld Z h y ST "coder" "B" (.int cd')) (K' : RoadKit.Arv Z h t' kb' .byte N2' vs' (.int 0)) (hc' : CodA ds cd' N2' vs') (hb' : ∀ c ∈ ds, ¬ c < 0 ∧ ¬ (65535 : Int32) < c) (l2' : ds.length ≤ 4000)
    {z : Int32} (S : RoadKit.Sta Z h ST "COMPACT_STRINGS" "Z" (.int z)) (hz : ¬ z = 0) (hfr : 2 ≤ R.frames) (hlo : W + 28 ≤ R.locals) :
    Back l R p e below s args (⟨"java/lang/String", "equals", "(Ljava/lang/Object;)Z"⟩ : MethodName) len W (fun P a => a = #[.ref x, .ref y] ∧ P.U.heap = h ∧ P.cells + 0 ≤ R.cells ∧ P.slots + 0 ≤ R.slots)
      (fun P _ v B => ∃ L, (((v = some (.int 1) ∧ cs = ds) ∨ (v = some (.int 0) ∧ ¬ cs = ds)) ∧ L = [] ∧ B.U.heap = h) ∧ B.locs = P.locs ++ L ∧ B.cells = P.cells + 0 ∧ B.slots = P.slots + 0) := by
  intro m meth c P g ig mk a X hg hsize hdg hW hn hp'
  obtain ⟨rfl, rfl, r1, r2⟩ := hp'
  have al : Z.vm.Alike P.U.vm := hZ.alike.trans X.warmed.alike
  obtain ⟨A, hx⟩ := txt_of wi al E V C K hc hb l2
  obtain ⟨A', hy⟩ := txt_of wi al E' V' C' K' hc' hb' l2'
  obtain ⟨v, B, X', ⟨⟨w, hv, hh, hq⟩, hl, hk, hs⟩, st⟩ := SEq.pays x t A cd cs.length (fun j => cs.getD j 0) y t' A' cd' ds.length (fun j => ds.getD j 0) z (tabEq_of (movedEq hZ hw)) hfr hlo m meth c P g ig mk _ X hg hsize hdg hW hn ⟨r1, r2, rfl, hx, hy, sta_is al S, hz⟩
  refine ⟨v, B, X', ⟨[], ⟨?_, rfl, hh⟩, hl, hk, hs⟩, st⟩
  rcases hq with ⟨rfl, q⟩ | ⟨rfl, q⟩
  · exact Or.inl ⟨hv, (same_list cs ds).mp q⟩
  · exact Or.inr ⟨hv, fun e => q ((same_list cs ds).mpr e)⟩
end StrChars.Road
end Jvm.Pilot.@@N@@

namespace Jvm.Pilot.@@N@@
open Jvm Jvm.ClassFile Sem Op Lib Jvm.Free Jvm.Stand Jvm.LawKit Jvm.RoadKit Bundle Jvm.Pilot.@@N@@.Jvm.D
theorem own_lenK {l : List Value} {z : Int32} {n : Nat} (e : l.length = n) (h : z.toNatClampNeg = n) : l.length = z.toNatClampNeg := by rw [e, h]
theorem own_W {n W : Nat} (h : n = W) : 2 * 0 + n ≤ W := by omega
abbrev own_HW (a0 : Array Value) (Z : State) : Prop := ∀ d ∈ tables_1, d.before a0 Z = true
abbrev DK (b : ByteArray) (n : Nat) (i : Instr) (k : Nat) : Prop := decode b n = .ok (i, k)
section OwnFin
variable {p : Program} {l : Launch} {e : Env} {R : Room} {s : State} {m : MethodId} {args : Array Value} {below : List Frame} {meth : Method} {c : Code} {locs : List Loc} {cells slots dc ds : Nat} {s₀ : State} {F : Option Value → JFrame} {Q : Option Value → Heap → List Loc → Prop}
theorem own_fin {g : JFrame} {rest : List Value} (H : ∃ (v : Option Value) (vm₁ : Vm) (B : Pt), s.WarmedH vm₁ ∧ Stand p l e R s m args below meth c B.U B.locs B.cells B.slots ∧ (∃ L, Q v B.U.heap L ∧ B.locs = locs ++ L ∧ B.cells = cells + dc ∧ B.slots = slots + ds) ∧ Steps p.tables e below s₀ (B.U.setTop { g with pc := g.pc + 3, stack := v.toList ++ rest })) :
    ∃ v T' Lc, Stand p l e R s m args below meth c T' (locs ++ Lc) (cells + dc) (slots + ds) ∧ Q v T'.heap Lc ∧ Steps p.tables e below s₀ (T'.setTop { g with pc := g.pc + 3, stack := v.toList ++ rest }) := by
  obtain ⟨v, _, ⟨T', L, k, n⟩, -, X, ⟨Lc, hQ, h1, h2, h3⟩, st⟩ := H
  obtain rfl : L = _ := h1
  obtain rfl : k = _ := h2
  obtain rfl : n = _ := h3
  exact ⟨v, T', Lc, X, hQ, st⟩
theorem own_finI {g : JFrame} {rest : List Value} (H : ∃ (v : Option Value) (vm₁ : Vm) (B : Pt), s.WarmedH vm₁ ∧ Stand p l e R s m args below meth c B.U B.locs B.cells B.slots ∧ (∃ L, Q v B.U.heap L ∧ B.locs = locs ++ L ∧ B.cells = cells + dc ∧ B.slots = slots + ds) ∧ Steps p.tables e below s₀ (B.U.setTop { g with pc := g.pc + 5, stack := v.toList ++ rest })) :
    ∃ v T' Lc, Stand p l e R s m args below meth c T' (locs ++ Lc) (cells + dc) (slots + ds) ∧ Q v T'.heap Lc ∧ Steps p.tables e below s₀ (T'.setTop { g with pc := g.pc + 5, stack := v.toList ++ rest }) := by
  obtain ⟨v, _, ⟨T', L, k, n⟩, -, X, ⟨Lc, hQ, h1, h2, h3⟩, st⟩ := H
  obtain rfl : L = _ := h1
  obtain rfl : k = _ := h2
  obtain rfl : n = _ := h3
  exact ⟨v, T', Lc, X, hQ, st⟩
theorem own_finT {g : JFrame} {rest : List Value} (H : ∃ (v : Option Value) (vm₁ : Vm) (B : Pt), s.WarmedH vm₁ ∧ Stand p l e R s m args below meth c B.U B.locs B.cells B.slots ∧ (∃ L, Q v B.U.heap L ∧ B.locs = locs ++ L ∧ B.cells = cells + dc ∧ B.slots = slots + ds) ∧ ∀ target, Steps p.tables e below (B.U.setTop { g with pc := g.pc + 3, stack := v.toList ++ rest }) target → Steps p.tables e below s₀ target) :
    ∃ v T' Lc, Stand p l e R s m args below meth c T' (locs ++ Lc) (cells + dc) (slots + ds) ∧ Q v T'.heap Lc ∧ ∀ target, Steps p.tables e below (T'.setTop { g with pc := g.pc + 3, stack := v.toList ++ rest }) target → Steps p.tables e below s₀ target := by
  obtain ⟨v, _, ⟨T', L, k, n⟩, -, X, ⟨Lc, hQ, h1, h2, h3⟩, st⟩ := H
  obtain rfl : L = _ := h1
  obtain rfl : k = _ := h2
  obtain rfl : n = _ := h3
  exact ⟨v, T', Lc, X, hQ, st⟩
end OwnFin
abbrev own_MF (l : Launch) (y : MethodName) (b : ByteArray) (ml : Nat) (r : Option FieldType) (ws : List Jvm.Cond) (R : Room) (Z : State) (h0 : Heap) (as : Array Value) (Q : Option Value → Heap → List Loc → Prop) : Prop :=
  MetFree l y (head1 (Jvm.Cond.code y b ml r :: ws) R) (fun a U => a = as ∧ Z.Warmed39 U.vm ∧ U.heap = h0) (fun _ _ _ _ _ => True) (fun _ U o U' => ∃ v L, o = .returned v ∧ Q v U'.heap L ∧ FrameEnd U o U' L R.cells R.slots)
theorem own_open {l : Launch} {y : MethodName} {b : ByteArray} {ml : Nat} {r : Option FieldType} {ws : List Jvm.Cond} {R : Room} {Z : State} {h0 : Heap} {as : Array Value} {Q : Option Value → Heap → List Loc → Prop} (hp : plainFor y = true) {L0 : Array Slot} (hL : ∀ m, entryFrame m as ml = mkF m 0 L0 [])
    (H : ∀ (p : Program) (e : Env) (s : State) (m : MethodId) (below : List Frame) (meth : Method) (c : Code) (s₁ : State), p.tables.exec = Jvm.exec → c.code = b → c.maxLocals = ml → meth.sig.returnType = r → s.methodNamed? y = some m ∧ s.vm.method? m = some meth → Z.Warmed39 s.vm → s.vm.findClass y.cls = some m.cls → Stand p l e R s m as below meth c s₁ [] 0 0 → s₁.heap = h0 →
      ∃ v T L cs sl, (r = none → v = none) ∧ Stand p l e R s m as below meth c T L cs sl ∧ cs ≤ R.cells ∧ sl ≤ R.slots ∧ Q v T.heap L ∧ ∀ fs, (∀ (f : JFrame) (acts : List Action), f.method = m → f.locked = none → f.entered = [] → (doReturn e (T.setTop f) acts v).1 = T.setFrames fs) → Steps p.tables e below (s₁.setTop (mkF m 0 L0 [])) (T.setFrames fs)) :
    own_MF l y b ml r ws R Z h0 as Q := by
  refine MetFree.of_bodySF hp hisR ?_
  intro p e s m args below meth c s₁ Bd hml hP hK
  obtain ⟨rfl, hZ, hh⟩ := hP
  have e0 : s₁.heap = h0 := by rw [← hh, Bd.state]; rfl
  obtain ⟨v, T, L, cs, sl, hv, X, hc, hs, hQ, st⟩ := H p e s m below meth c s₁ Bd.exec Bd.bytes hml Bd.returns ⟨Bd.named, Bd.method⟩ hZ (findClass_of_methodNamed Bd.named) (Stand.of_body Bd) e0
  obtain ⟨fs, hr, hrun, hended, hW, hsame⟩ := X.leave (v := v) (fun q => hv (Bd.returns ▸ q))
  exact ⟨_, _, castTop (hL m) (st fs hr), hrun, hended, v, L, rfl, hQ, ⟨_, rfl⟩, hW, hsame.mono hc hs⟩
section OwnCall
variable {p : Program} {l : Launch} {e : Env} {R : Room} {s : State} {m : MethodId} {args : Array Value} {below : List Frame} {meth : Method} {c : Code} {T : State} {locs : List Loc} {cells slots : Nat} {Z : State} {a0 : Array Value} {h : Heap} {own : String} {index : Nat} {y : MethodName} {bytes : ByteArray} {maxL : Nat} {ret : Option FieldType} {rm : Room} {argsL rest : List Value} {Q : Option Value → Heap → List Loc → Prop} {W : Nat} {g : JFrame}
theorem own_cS (X : Stand p l e R s m args below meth c T locs cells slots) (hx : p.tables.exec = Jvm.exec) (hZ : Z.Warmed39 s.vm) (hown : s.vm.findClass own = some m.cls) (eT : T.heap = h) (hM : own_MF l y bytes maxL ret [] rm Z h argsL.toArray Q)
    (w1 : (Jvm.Cond.methodLink own index y).before a0 Z = true) (w2 : (Jvm.Cond.static y).before a0 Z = true) (w3 : (Jvm.Cond.initialized y.cls).before a0 Z = true) (w4 : (Jvm.Cond.code y bytes maxL ret).before a0 Z = true) (hy : y.cls ≠ "java/lang/invoke/MethodHandle" ∧ y.cls ≠ "java/lang/invoke/VarHandle")
    (hf : rm.frames + 1 ≤ R.frames) (hl : W + (maxL + 11) + rm.locals ≤ R.locals) (hc : cells + rm.cells ≤ R.cells) (hs : slots + rm.slots ≤ R.slots) (hg : g.method = m) (hsize : g.locals.size = c.maxLocals)
    (hlen : ∀ sig, parseMethodDescriptor y.desc = some sig → argsL.length = sig.parameters.length) (hst : g.stack = argsL.reverse ++ rest) (hW : 2 * g.monitorRoom + (rest.map fun v => v.category).sum ≤ W) (hd : decode c.code g.pc = .ok (.invokestatic index, 3)) :
    ∃ v T' Lc, Stand p l e R s m args below meth c T' (locs ++ Lc) (cells + rm.cells) (slots + rm.slots) ∧ Q v T'.heap Lc ∧ ∀ target, Steps p.tables e below (T'.setTop { g with pc := g.pc + 3, stack := v.toList ++ rest }) target → Steps p.tables e below (T.setTop g) target :=
  own_finT (Jvm.LawKit.callS X hx hown (mvT hZ w1) (mvT hZ w2) (mvT hZ w3) (mvT hZ w4) hy (backOf hM hZ w4 w3 hf hl) hg hsize hlen hst hW hd (fun _ _ => ⟨rfl, eT, hc, hs⟩))
theorem own_cV {C : String} {a : Addr} (X : Stand p l e R s m args below meth c T locs cells slots) (hx : p.tables.exec = Jvm.exec) (hZ : Z.Warmed39 s.vm) (hown : s.vm.findClass own = some m.cls) (eT : T.heap = h) (hM : own_MF l y bytes maxL ret [] rm Z h (.ref a :: argsL).toArray Q) (E : Exa Z h a C)
    (w1 : (Jvm.Cond.methodLink own index y).before a0 Z = true) (w2 : (Jvm.Cond.declares y).before a0 Z = true) (w3 : (Jvm.Cond.selects C y y).before a0 Z = true) (w5 : (Jvm.Cond.instanceMethod y).before a0 Z = true) (w4 : (Jvm.Cond.code y bytes maxL ret).before a0 Z = true) (w6 : (Jvm.Cond.initialized y.cls).before a0 Z = true) (hy : y.cls ≠ "java/lang/invoke/MethodHandle" ∧ y.cls ≠ "java/lang/invoke/VarHandle")
    (hf : rm.frames + 1 ≤ R.frames) (hl : W + (maxL + 11) + rm.locals ≤ R.locals) (hc : cells + rm.cells ≤ R.cells) (hs : slots + rm.slots ≤ R.slots) (hg : g.method = m) (hsize : g.locals.size = c.maxLocals)
    (hlen : ∀ sig, parseMethodDescriptor y.desc = some sig → argsL.length = sig.parameters.length) (hst : g.stack = argsL.reverse ++ .ref a :: rest) (hW : 2 * g.monitorRoom + (rest.map fun v => v.category).sum ≤ W) (hd : decode c.code g.pc = .ok (.invokevirtual index, 3)) :
    ∃ v T' Lc, Stand p l e R s m args below meth c T' (locs ++ Lc) (cells + rm.cells) (slots + rm.slots) ∧ Q v T'.heap Lc ∧ ∀ target, Steps p.tables e below (T'.setTop { g with pc := g.pc + 3, stack := v.toList ++ rest }) target → Steps p.tables e below (T.setTop g) target := by
  obtain ⟨cB, kB, q1, q2, q3⟩ := isOf hZ eT E
  obtain ⟨v, T', Lc, X', hQ, st⟩ := own_fin (X.virtualBack hx hown (mvT hZ w1) (mvT hZ w2) (notFace_of_selects (args := #[]) (mvT hZ w3)) (mvT hZ w3) (mvT hZ w5) hy (backOf hM hZ w4 w6 hf hl) q1 q3 hg hsize (Steps.refl _) hlen hst hW hd (fun _ _ => ⟨rfl, eT, hc, hs⟩))
  exact ⟨v, T', Lc, X', hQ, fun t k => st.trans k⟩
theorem own_cI {C : String} {a : Addr} {count : Nat} {xi : MethodName} (X : Stand p l e R s m args below meth c T locs cells slots) (hx : p.tables.exec = Jvm.exec) (hZ : Z.Warmed39 s.vm) (hown : s.vm.findClass own = some m.cls) (eT : T.heap = h) (hM : own_MF l y bytes maxL ret [] rm Z h (.ref a :: argsL).toArray Q) (E : Exa Z h a C)
    (w1 : (Jvm.Cond.methodLink own index xi).before a0 Z = true) (w2 : (Jvm.Cond.declares xi).before a0 Z = true) (w7 : (Jvm.Cond.interfaceMethod xi.cls xi.cls xi.name xi.desc).before a0 Z = true) (w3 : (Jvm.Cond.selects C xi y).before a0 Z = true) (w5 : (Jvm.Cond.instanceMethod y).before a0 Z = true) (w8 : (Jvm.Cond.publicMethod y).before a0 Z = true) (w9 : (Jvm.Cond.unhidden C xi.name xi.desc).before a0 Z = true) (wa : (Jvm.Cond.castable C xi.cls).before a0 Z = true) (w4 : (Jvm.Cond.code y bytes maxL ret).before a0 Z = true) (w6 : (Jvm.Cond.initialized y.cls).before a0 Z = true) (hy : xi.cls ≠ "java/lang/invoke/MethodHandle" ∧ xi.cls ≠ "java/lang/invoke/VarHandle")
    (hf : rm.frames + 1 ≤ R.frames) (hl : W + (maxL + 11) + rm.locals ≤ R.locals) (hc : cells + rm.cells ≤ R.cells) (hs : slots + rm.slots ≤ R.slots) (hg : g.method = m) (hsize : g.locals.size = c.maxLocals)
    (hlen : ∀ sig, parseMethodDescriptor xi.desc = some sig → argsL.length = sig.parameters.length) (hst : g.stack = argsL.reverse ++ .ref a :: rest) (hW : 2 * g.monitorRoom + (rest.map fun v => v.category).sum ≤ W) (hd : decode c.code g.pc = .ok (.invokeinterface index count, 5)) (h7 : ((Jvm.Cond.interfaceMethod xi.cls xi.cls xi.name xi.desc).onTables && (Jvm.Cond.interfaceMethod xi.cls xi.cls xi.name xi.desc).keepsFace) = true := by first | rfl | simp [Cond.onTables, Cond.keepsFace, Cond.keeps, Cond.steady]) :
    ∃ v T' Lc, Stand p l e R s m args below meth c T' (locs ++ Lc) (cells + rm.cells) (slots + rm.slots) ∧ Q v T'.heap Lc ∧ ∀ target, Steps p.tables e below (T'.setTop { g with pc := g.pc + 5, stack := v.toList ++ rest }) target → Steps p.tables e below (T.setTop g) target := by
  obtain ⟨cB, kB, q1, q2, q3⟩ := isOf hZ eT E
  obtain ⟨v, T', Lc, X', hQ, st⟩ := own_finI (X.interfaceBack hx hown (mvT hZ w1) (mvT hZ w2) (mvT hZ w7 h7) (mvT hZ w3) (mvT hZ w5) (mvT hZ w8) (mvT hZ w9) (mvT hZ wa) hy (backOf hM hZ w4 w6 hf hl) q1 q2 q3 hg hsize (Steps.refl _) hlen hst hW hd (fun _ _ => ⟨rfl, eT, hc, hs⟩))
  exact ⟨v, T', Lc, X', hQ, fun t k => st.trans k⟩
end OwnCall
section OwnStep
variable {p : Program} {l : Launch} {e : Env} {R : Room} {s : State} {m : MethodId} {args : Array Value} {below : List Frame} {meth : Method} {c : Code} {T target : State} {locs : List Loc} {cells slots : Nat} {b : ByteArray} {g : JFrame}
theorem qiN (X : Stand p l e R s m args below meth c T locs cells slots) (hx : p.tables.exec = Jvm.exec) (y : c.code = b) {k : Fin 4} {v : Int32} (d : decode b g.pc = .ok (.iload_n k, 1)) (hr : Steps p.tables e below (T.setTop { g with pc := g.pc + 1, stack := .int v :: g.stack }) target) (hg : g.method = m := by rfl) (hl : g.locals[k.val]? = some (.val (.int v)) := by rfl) : Steps p.tables e below (T.setTop g) target := XS.iloadN X.here hx hg (hb y d) hl hr
theorem qi (X : Stand p l e R s m args below meth c T locs cells slots) (hx : p.tables.exec = Jvm.exec) (y : c.code = b) {k : Nat} {v : Int32} (d : decode b g.pc = .ok (.iload k, 2)) (hr : Steps p.tables e below (T.setTop { g with pc := g.pc + 2, stack := .int v :: g.stack }) target) (hg : g.method = m := by rfl) (hl : g.locals[k]? = some (.val (.int v)) := by rfl) : Steps p.tables e below (T.setTop g) target := XS.iload X.here hx hg (hb y d) hl hr
theorem qaN (X : Stand p l e R s m args below meth c T locs cells slots) (hx : p.tables.exec = Jvm.exec) (y : c.code = b) {k : Fin 4} {v : Value} (d : decode b g.pc = .ok (.aload_n k, 1)) (hr : Steps p.tables e below (T.setTop { g with pc := g.pc + 1, stack := v :: g.stack }) target) (hg : g.method = m := by rfl) (hl : g.locals[k.val]? = some (.val v) := by rfl) (hv : v.isRef = true := by rfl) : Steps p.tables e below (T.setTop g) target := XS.aloadN X.here hx hg (hb y d) hl hv hr
theorem qa (X : Stand p l e R s m args below meth c T locs cells slots) (hx : p.tables.exec = Jvm.exec) (y : c.code = b) {k : Nat} {v : Value} (d : decode b g.pc = .ok (.aload k, 2)) (hr : Steps p.tables e below (T.setTop { g with pc := g.pc + 2, stack := v :: g.stack }) target) (hg : g.method = m := by rfl) (hl : g.locals[k]? = some (.val v) := by rfl) (hv : v.isRef = true := by rfl) : Steps p.tables e below (T.setTop g) target := XS.aload X.here hx hg (hb y d) hl hv hr
theorem qc (X : Stand p l e R s m args below meth c T locs cells slots) (hx : p.tables.exec = Jvm.exec) (y : c.code = b) {i : Int} (d : decode b g.pc = .ok (.iconst i, 1)) (hr : Steps p.tables e below (T.setTop { g with pc := g.pc + 1, stack := .int (Int32.ofInt i) :: g.stack }) target) (hg : g.method = m := by rfl) : Steps p.tables e below (T.setTop g) target := XS.iconst X.here hx hg (hb y d) hr
theorem qb (X : Stand p l e R s m args below meth c T locs cells slots) (hx : p.tables.exec = Jvm.exec) (y : c.code = b) {i : Int} (d : decode b g.pc = .ok (.bipush i, 2)) (hr : Steps p.tables e below (T.setTop { g with pc := g.pc + 2, stack := .int (Int8.ofInt i).toInt32 :: g.stack }) target) (hg : g.method = m := by rfl) : Steps p.tables e below (T.setTop g) target := XS.bipush X.here hx hg (hb y d) hr
theorem qd (X : Stand p l e R s m args below meth c T locs cells slots) (hx : p.tables.exec = Jvm.exec) (y : c.code = b) {x : Value} {rest : List Value} (d : decode b g.pc = .ok (.dup, 1)) (hr : Steps p.tables e below (T.setTop { g with pc := g.pc + 1, stack := x :: x :: rest }) target) (hg : g.method = m := by rfl) (hs : g.stack = x :: rest := by rfl) (hc : x.category = 1 := by rfl) : Steps p.tables e below (T.setTop g) target := XS.dup X.here hx hg (hb y d) hs hc hr
end OwnStep
theorem ww {Z : State} {a0 : Array Value} (hw : ∀ d ∈ tables_1, d.before a0 Z = true) (i : Nat) {d : Jvm.Cond} (h : tables_1[i]? = some d) : d.before a0 Z = true := hw d (List.mem_of_getElem? h)
set_option maxRecDepth 65536
set_option maxHeartbeats 40000000
abbrev cs0 : String := "java/util/AbstractCollection"
abbrev cs1 : String := "java/util/AbstractList"
abbrev cs2 : String := "java/util/ArrayList"
abbrev cs3 : String := "elementData"
abbrev cs4 : String := "[Ljava/lang/Object;"
abbrev cs5 : String := "java/lang/Object"
abbrev cs6 : String := "DEFAULTCAPACITY_EMPTY_ELEMENTDATA"
abbrev cs7 : String := "com/example/innerkey/innerkey/InternalCallDetailsToStringPinLaw"
abbrev cs8 : String := "java/lang/String"
abbrev cs9 : String := "COMPACT_STRINGS"
abbrev cs10 : String := "(ICCCCCC)Ljava/lang/String;"
abbrev cs11 : String := "java/util/List"
abbrev cs12 : String := "java/util/ImmutableCollections"
abbrev cs13 : String := "EMPTY_LIST"
abbrev cs14 : String := "Ljava/util/ImmutableCollections$ListN;"
abbrev cs15 : String := "(Ljava/util/Collection;)Ljava/util/List;"
abbrev cs16 : String := "java/util/Collection"
abbrev cs17 : String := "com/example/innerkey/innerkey/InternalCallDetails"
abbrev cs18 : String := "Ljava/lang/String;"
abbrev cs19 : String := "authorities"
abbrev cs20 : String := "Ljava/util/List;"
abbrev cs21 : String := "(Ljava/lang/String;Ljava/util/List;)V"
abbrev cs22 : String := "java/lang/AbstractStringBuilder"
abbrev cs23 : String := "java/lang/StringBuilder"
abbrev cs24 : String := "java/lang/Math"
abbrev cs25 : String := "newCapacity"
abbrev cs26 : String := "java/util/Arrays"
abbrev cs27 : String := "ensureCapacityInternal"
abbrev cs28 : String := "putStringAt"
abbrev cs29 : String := "(ILjava/lang/String;)V"
abbrev cs30 : String := "(Ljava/lang/String;)Ljava/lang/AbstractStringBuilder;"
abbrev cs31 : String := "(Ljava/lang/String;)Ljava/lang/StringBuilder;"
abbrev cs32 : String := "java/util/ImmutableCollections$ListN"
abbrev cs33 : String := "java/util/ImmutableCollections$ListItr"
abbrev cs34 : String := "isListIterator"
abbrev cs35 : String := "(Ljava/util/List;I)V"
abbrev cs36 : String := "java/util/ImmutableCollections$AbstractImmutableList"
abbrev cs37 : String := "()Ljava/util/Iterator;"
abbrev cs38 : String := "java/util/Iterator"
abbrev cs39 : String := "()Ljava/lang/String;"
abbrev cs40 : String := "(Ljava/lang/Object;)Ljava/lang/String;"
abbrev cs41 : String := "(Ljava/lang/Object;)Ljava/lang/StringBuilder;"
abbrev cs42 : String := "(Ljava/lang/Object;)Z"
abbrev cs43 : String := "()[Ljava/lang/Object;"
abbrev cs44 : String := "(Ljava/lang/Object;[Ljava/lang/Object;I)V"
abbrev cs45 : String := "java/util/ImmutableCollections$List12"
abbrev cs46 : String := "Ljava/lang/Object;"
abbrev cs47 : String := "(C)Ljava/lang/AbstractStringBuilder;"
abbrev cs48 : String := "(I)Ljava/lang/Object;"
abbrev cs49 : String := "()Ljava/lang/Object;"
abbrev rR1_0_0_12 : Room := { frames := 1, cells := 0, slots := 0, locals := 12 }
abbrev rR2_0_0_24 : Room := { frames := 2, cells := 0, slots := 0, locals := 24 }
abbrev rR3_0_0_36 : Room := { frames := 3, cells := 0, slots := 0, locals := 36 }
abbrev rR4_3_92_66 : Room := { frames := 4, cells := 3, slots := 92, locals := 66 }
abbrev rR0_0_0_0 : Room := { frames := 0, cells := 0, slots := 0, locals := 0 }
abbrev rR2_0_0_25 : Room := { frames := 2, cells := 0, slots := 0, locals := 25 }
abbrev rR3_0_0_38 : Room := { frames := 3, cells := 0, slots := 0, locals := 38 }
abbrev rR1_1_16_12 : Room := { frames := 1, cells := 1, slots := 16, locals := 12 }
abbrev rR2_1_16_25 : Room := { frames := 2, cells := 1, slots := 16, locals := 25 }
abbrev rR1_0_0_13 : Room := { frames := 1, cells := 0, slots := 0, locals := 13 }
abbrev rR1_0_0_14 : Room := { frames := 1, cells := 0, slots := 0, locals := 14 }
abbrev rR2_0_0_29 : Room := { frames := 2, cells := 0, slots := 0, locals := 29 }
abbrev rR1_1_34_24 : Room := { frames := 1, cells := 1, slots := 34, locals := 24 }
abbrev rR3_1_34_48 : Room := { frames := 3, cells := 1, slots := 34, locals := 48 }
abbrev rR1_0_0_24 : Room := { frames := 1, cells := 0, slots := 0, locals := 24 }
abbrev rR2_0_0_39 : Room := { frames := 2, cells := 0, slots := 0, locals := 39 }
abbrev rR4_1_34_62 : Room := { frames := 4, cells := 1, slots := 34, locals := 62 }
abbrev rR5_1_34_76 : Room := { frames := 5, cells := 1, slots := 34, locals := 76 }
abbrev rR3_0_0_53 : Room := { frames := 3, cells := 0, slots := 0, locals := 53 }
abbrev rR4_0_0_67 : Room := { frames := 4, cells := 0, slots := 0, locals := 67 }
abbrev rR1_1_70_24 : Room := { frames := 1, cells := 1, slots := 70, locals := 24 }
abbrev rR3_1_70_48 : Room := { frames := 3, cells := 1, slots := 70, locals := 48 }
abbrev rR4_1_70_62 : Room := { frames := 4, cells := 1, slots := 70, locals := 62 }
abbrev rR5_1_70_76 : Room := { frames := 5, cells := 1, slots := 70, locals := 76 }
abbrev rR2_1_4_27 : Room := { frames := 2, cells := 1, slots := 4, locals := 27 }
abbrev rR3_3_16_39 : Room := { frames := 3, cells := 3, slots := 16, locals := 39 }
abbrev rR4_3_16_54 : Room := { frames := 4, cells := 3, slots := 16, locals := 54 }
abbrev rR5_3_16_80 : Room := { frames := 5, cells := 3, slots := 16, locals := 80 }
abbrev rR1_1_64_24 : Room := { frames := 1, cells := 1, slots := 64, locals := 24 }
abbrev rR2_1_64_40 : Room := { frames := 2, cells := 1, slots := 64, locals := 40 }
abbrev rR3_1_64_55 : Room := { frames := 3, cells := 1, slots := 64, locals := 55 }
abbrev rR4_1_64_71 : Room := { frames := 4, cells := 1, slots := 64, locals := 71 }
abbrev rR5_2_68_85 : Room := { frames := 5, cells := 2, slots := 68, locals := 85 }
abbrev rR6_15_380_97 : Room := { frames := 6, cells := 15, slots := 380, locals := 97 }
abbrev rR1_1_10_14 : Room := { frames := 1, cells := 1, slots := 10, locals := 14 }
abbrev rR2_1_10_29 : Room := { frames := 2, cells := 1, slots := 10, locals := 29 }
abbrev rR3_1_10_41 : Room := { frames := 3, cells := 1, slots := 10, locals := 41 }
abbrev rR4_1_10_56 : Room := { frames := 4, cells := 1, slots := 10, locals := 56 }
abbrev rR4_3_96_66 : Room := { frames := 4, cells := 3, slots := 96, locals := 66 }
abbrev rR1_1_1_24 : Room := { frames := 1, cells := 1, slots := 1, locals := 24 }
abbrev rR2_1_1_39 : Room := { frames := 2, cells := 1, slots := 1, locals := 39 }
abbrev rR3_1_1_52 : Room := { frames := 3, cells := 1, slots := 1, locals := 52 }
abbrev rR4_0_0_48 : Room := { frames := 4, cells := 0, slots := 0, locals := 48 }
abbrev rR5_1_2_62 : Room := { frames := 5, cells := 1, slots := 2, locals := 62 }
abbrev rR6_2_3_75 : Room := { frames := 6, cells := 2, slots := 3, locals := 75 }
abbrev rR7_2_3_88 : Room := { frames := 7, cells := 2, slots := 3, locals := 88 }
abbrev rR8_2_3_101 : Room := { frames := 8, cells := 2, slots := 3, locals := 101 }
abbrev rR2_0_0_27 : Room := { frames := 2, cells := 0, slots := 0, locals := 27 }
abbrev rR5_0_0_80 : Room := { frames := 5, cells := 0, slots := 0, locals := 80 }
abbrev rR6_5_92_97 : Room := { frames := 6, cells := 5, slots := 92, locals := 97 }
abbrev rR7_5_92_112 : Room := { frames := 7, cells := 5, slots := 92, locals := 112 }
abbrev rR8_5_92_125 : Room := { frames := 8, cells := 5, slots := 92, locals := 125 }
abbrev rR9_17_456_138 : Room := { frames := 9, cells := 17, slots := 456, locals := 138 }
abbrev rR1_0_0_15 : Room := { frames := 1, cells := 0, slots := 0, locals := 15 }
abbrev rR4_3_104_66 : Room := { frames := 4, cells := 3, slots := 104, locals := 66 }
abbrev rR1_1_2_24 : Room := { frames := 1, cells := 1, slots := 2, locals := 24 }
abbrev rR2_1_2_39 : Room := { frames := 2, cells := 1, slots := 2, locals := 39 }
abbrev rR3_1_2_52 : Room := { frames := 3, cells := 1, slots := 2, locals := 52 }
abbrev rR5_1_2_63 : Room := { frames := 5, cells := 1, slots := 2, locals := 63 }
abbrev rR6_2_4_76 : Room := { frames := 6, cells := 2, slots := 4, locals := 76 }
abbrev rR7_2_4_89 : Room := { frames := 7, cells := 2, slots := 4, locals := 89 }
abbrev rR8_2_4_102 : Room := { frames := 8, cells := 2, slots := 4, locals := 102 }
abbrev mN0 : MethodName := ⟨cs0, "<init>", "()V"⟩
abbrev mN1 : MethodName := ⟨cs1, "<init>", "()V"⟩
abbrev mN2 : MethodName := ⟨cs2, "<init>", "()V"⟩
abbrev mN3 : MethodName := ⟨cs7, "expected", cs10⟩
abbrev mN4 : MethodName := ⟨cs8, "<init>", "([C)V"⟩
abbrev mN5 : MethodName := ⟨cs2, "isEmpty", "()Z"⟩
abbrev mN6 : MethodName := ⟨cs11, "of", "()Ljava/util/List;"⟩
abbrev mN7 : MethodName := ⟨cs12, "listCopy", cs15⟩
abbrev mN8 : MethodName := ⟨cs16, "isEmpty", "()Z"⟩
abbrev mN9 : MethodName := ⟨cs11, "copyOf", cs15⟩
abbrev mN10 : MethodName := ⟨cs17, "<init>", cs21⟩
abbrev mN11 : MethodName := ⟨cs22, "<init>", "(I)V"⟩
abbrev mN12 : MethodName := ⟨cs23, "<init>", "()V"⟩
abbrev mN13 : MethodName := ⟨cs8, "coder", "()B"⟩
abbrev mN14 : MethodName := ⟨cs8, "length", "()I"⟩
abbrev mN15 : MethodName := ⟨cs24, "max", "(II)I"⟩
abbrev mN16 : MethodName := ⟨"jdk/internal/util/ArraysSupport", "newLength", "(III)I"⟩
abbrev mN17 : MethodName := ⟨cs22, cs25, "(I)I"⟩
abbrev mN18 : MethodName := ⟨cs24, "min", "(II)I"⟩
abbrev mN19 : MethodName := ⟨cs26, "copyOf", "([BI)[B"⟩
abbrev mN20 : MethodName := ⟨cs22, cs27, "(I)V"⟩
abbrev mN21 : MethodName := ⟨cs22, "inflateIfNeededFor", "(Ljava/lang/String;)V"⟩
abbrev mN22 : MethodName := ⟨cs8, "getBytes", "([BIB)V"⟩
abbrev mN23 : MethodName := ⟨cs22, cs28, cs29⟩
abbrev mN24 : MethodName := ⟨cs22, "append", cs30⟩
abbrev mN25 : MethodName := ⟨cs23, "append", cs31⟩
abbrev mN26 : MethodName := ⟨cs32, "size", "()I"⟩
abbrev mN27 : MethodName := ⟨cs33, "<init>", cs35⟩
abbrev mN28 : MethodName := ⟨cs36, "iterator", cs37⟩
abbrev mN29 : MethodName := ⟨cs36, "size", "()I"⟩
abbrev mN30 : MethodName := ⟨cs33, "hasNext", "()Z"⟩
abbrev mN31 : MethodName := ⟨cs0, "toString", cs39⟩
abbrev mN32 : MethodName := ⟨cs0, "iterator", cs37⟩
abbrev mN33 : MethodName := ⟨cs38, "hasNext", "()Z"⟩
abbrev mN34 : MethodName := ⟨cs8, "valueOf", cs40⟩
abbrev mN35 : MethodName := ⟨cs5, "toString", cs39⟩
abbrev mN36 : MethodName := ⟨cs23, "append", cs41⟩
abbrev mN37 : MethodName := ⟨cs22, "getValue", "()[B"⟩
abbrev mN38 : MethodName := ⟨cs22, "length", "()I"⟩
abbrev mN39 : MethodName := ⟨cs23, "length", "()I"⟩
abbrev mN40 : MethodName := ⟨cs22, "isLatin1", "()Z"⟩
abbrev mN41 : MethodName := ⟨cs26, "checkLength", "(II)V"⟩
abbrev mN42 : MethodName := ⟨cs26, "copyOfRangeByte", "([BII)[B"⟩
abbrev mN43 : MethodName := ⟨cs26, "copyOfRange", "([BII)[B"⟩
abbrev mN44 : MethodName := ⟨cs8, "<init>", "(Ljava/lang/AbstractStringBuilder;Ljava/lang/Void;)V"⟩
abbrev mN45 : MethodName := ⟨cs8, "<init>", "(Ljava/lang/StringBuilder;)V"⟩
abbrev mN46 : MethodName := ⟨cs23, "toString", cs39⟩
abbrev mN47 : MethodName := ⟨cs17, "toString", cs39⟩
abbrev mN48 : MethodName := ⟨cs8, "equals", cs42⟩
abbrev mN49 : MethodName := ⟨cs2, "grow", "(I)[Ljava/lang/Object;"⟩
abbrev mN50 : MethodName := ⟨cs2, "grow", cs43⟩
abbrev mN51 : MethodName := ⟨cs2, "add", cs44⟩
abbrev mN52 : MethodName := ⟨cs2, "add", cs42⟩
abbrev mN53 : MethodName := ⟨cs26, "copyOf", "([Ljava/lang/Object;ILjava/lang/Class;)[Ljava/lang/Object;"⟩
abbrev mN54 : MethodName := ⟨cs26, "copyOf", "([Ljava/lang/Object;I)[Ljava/lang/Object;"⟩
abbrev mN55 : MethodName := ⟨cs2, "toArray", cs43⟩
abbrev mN56 : MethodName := ⟨"java/util/ImmutableCollections$AbstractImmutableCollection", "<init>", "()V"⟩
abbrev mN57 : MethodName := ⟨cs36, "<init>", "()V"⟩
abbrev mN58 : MethodName := ⟨"java/util/Objects", "requireNonNull", "(Ljava/lang/Object;)Ljava/lang/Object;"⟩
abbrev mN59 : MethodName := ⟨cs45, "<init>", "(Ljava/lang/Object;)V"⟩
abbrev mN60 : MethodName := ⟨cs11, "of", "([Ljava/lang/Object;)Ljava/util/List;"⟩
abbrev mN61 : MethodName := ⟨cs16, "toArray", cs43⟩
abbrev mN62 : MethodName := ⟨cs45, "size", "()I"⟩
abbrev mN63 : MethodName := ⟨"java/lang/StringLatin1", "canEncode", "(C)Z"⟩
abbrev mN64 : MethodName := ⟨cs22, "append", cs47⟩
abbrev mN65 : MethodName := ⟨cs23, "append", "(C)Ljava/lang/StringBuilder;"⟩
abbrev mN66 : MethodName := ⟨cs45, "get", cs48⟩
abbrev mN67 : MethodName := ⟨cs33, "next", cs49⟩
abbrev mN68 : MethodName := ⟨cs11, "get", cs48⟩
abbrev mN69 : MethodName := ⟨cs8, "toString", cs39⟩
abbrev mN70 : MethodName := ⟨cs38, "next", cs49⟩
abbrev mN71 : MethodName := ⟨cs45, "<init>", "(Ljava/lang/Object;Ljava/lang/Object;)V"⟩
abbrev cB7 : ByteArray := jdk_38_method_2_code
abbrev cB8 : ByteArray := jdk_39_method_1_code
abbrev cB9 : ByteArray := jdk_22_method_1_code
abbrev cB15 : ByteArray := method_3_code
abbrev cB16 : ByteArray := prog_4_method_1_code
abbrev cB17 : ByteArray := jdk_40_method_48_code
abbrev cB18 : ByteArray := jdk_56_method_3_code
abbrev cB19 : ByteArray := jdk_38_method_9_code
abbrev cB69 : ByteArray := jdk_40_method_36_code
abbrev cB29 : ByteArray := prog_4_method_4_code
abbrev cB30 : ByteArray := jdk_67_method_1_code
abbrev cB31 : ByteArray := jdk_68_method_2_code
abbrev cB32 : ByteArray := jdk_67_method_7_code
abbrev cB33 : ByteArray := jdk_68_method_22_code
abbrev cB34 : ByteArray := jdk_42_method_54_code
abbrev cB35 : ByteArray := jdk_42_method_152_code
abbrev cB36 : ByteArray := jdk_68_method_9_code
abbrev cB37 : ByteArray := jdk_68_method_10_code
abbrev cB38 : ByteArray := jdk_48_method_27_code
abbrev cB14 : ByteArray := jdk_29_method_65_code
abbrev cB39 : ByteArray := jdk_65_method_121_code
abbrev cB23 : ByteArray := jdk_29_method_69_code
abbrev cB40 : ByteArray := jdk_68_method_73_code
abbrev cB41 : ByteArray := jdk_68_method_71_code
abbrev cB42 : ByteArray := jdk_42_method_147_code
abbrev cB43 : ByteArray := jdk_67_method_6_code
abbrev cB44 : ByteArray := jdk_42_method_133_code
abbrev cB45 : ByteArray := jdk_22_method_16_code
abbrev cB46 : ByteArray := jdk_46_method_10_code
abbrev cB70 : ByteArray := jdk_45_method_3_code
abbrev cB48 : ByteArray := jdk_53_method_1_code
abbrev cB49 : ByteArray := jdk_53_method_3_code
abbrev cB57 : ByteArray := jdk_67_method_42_code
abbrev cB58 : ByteArray := jdk_42_method_53_code
abbrev cB59 : ByteArray := jdk_42_method_150_code
abbrev cB60 : ByteArray := jdk_68_method_64_code
abbrev cB61 : ByteArray := jdk_67_method_93_code
abbrev cB62 : ByteArray := jdk_68_method_6_code
abbrev cB52 : ByteArray := jdk_68_method_68_code
abbrev cB63 : ByteArray := jdk_65_method_132_code
abbrev cB64 : ByteArray := jdk_65_method_133_code
abbrev cB65 : ByteArray := jdk_65_method_131_code
abbrev cB10 : ByteArray := jdk_38_method_25_code
abbrev cB11 : ByteArray := jdk_38_method_24_code
abbrev cB12 : ByteArray := jdk_38_method_7_code
abbrev cB13 : ByteArray := jdk_38_method_6_code
abbrev cB20 : ByteArray := jdk_38_method_16_code
abbrev cB21 : ByteArray := jdk_65_method_119_code
abbrev cB22 : ByteArray := jdk_65_method_120_code
abbrev cB24 : ByteArray := jdk_40_method_47_code
abbrev cB25 : ByteArray := jdk_44_method_1_code
abbrev cB26 : ByteArray := jdk_46_method_1_code
abbrev cB27 : ByteArray := jdk_47_method_1_code
abbrev cB28 : ByteArray := jdk_31_method_10_code
abbrev cB47 : ByteArray := jdk_44_method_3_code
abbrev cB50 : ByteArray := jdk_67_method_14_code
abbrev cB51 : ByteArray := jdk_68_method_31_code
abbrev cB53 : ByteArray := jdk_43_method_3_code
abbrev cB54 : ByteArray := jdk_53_method_4_code
abbrev cB55 : ByteArray := jdk_44_method_5_code
abbrev cB56 : ByteArray := jdk_42_method_126_code
abbrev cB68 : ByteArray := jdk_44_method_2_code
abbrev lI (x : Int32) : Slot := .val (.int x)
abbrev lR (x : Addr) : Slot := .val (.ref x)
abbrev lV (x : Value) : Slot := .val x
abbrev lU : Slot := .unset
abbrev SG (p : Program) (e : Env) (below : List Frame) (T : State) (f : JFrame) (t : State) : Prop := Steps p.tables e below (T.setTop f) t
abbrev vI0 : Value := .int (0 : Int32)
abbrev vI1 : Value := .int (1 : Int32)
abbrev vI2 : Value := .int (2 : Int32)
abbrev vI3 : Value := .int (3 : Int32)
abbrev vI5 : Value := .int (5 : Int32)
abbrev vI7 : Value := .int (7 : Int32)
abbrev vI9 : Value := .int (9 : Int32)
abbrev vI10 : Value := .int (10 : Int32)
abbrev vI14 : Value := .int (14 : Int32)
abbrev vI16 : Value := .int (16 : Int32)
abbrev vI18 : Value := .int (18 : Int32)
abbrev vI25 : Value := .int (25 : Int32)
abbrev vI27 : Value := .int (27 : Int32)
abbrev vI32 : Value := .int (32 : Int32)
abbrev vI34 : Value := .int (34 : Int32)
abbrev vI36 : Value := .int (36 : Int32)
abbrev vI41 : Value := .int (41 : Int32)
abbrev vI43 : Value := .int (43 : Int32)
abbrev vI44 : Value := .int (44 : Int32)
abbrev vI45 : Value := .int (45 : Int32)
abbrev vI46 : Value := .int (46 : Int32)
abbrev vI49 : Value := .int (49 : Int32)
abbrev vI50 : Value := .int (50 : Int32)
abbrev vI61 : Value := .int (61 : Int32)
abbrev vI67 : Value := .int (67 : Int32)
abbrev vI68 : Value := .int (68 : Int32)
abbrev vI70 : Value := .int (70 : Int32)
abbrev vI73 : Value := .int (73 : Int32)
abbrev vI91 : Value := .int (91 : Int32)
abbrev vI93 : Value := .int (93 : Int32)
abbrev vI97 : Value := .int (97 : Int32)
abbrev vI101 : Value := .int (101 : Int32)
abbrev vI104 : Value := .int (104 : Int32)
abbrev vI105 : Value := .int (105 : Int32)
abbrev vI107 : Value := .int (107 : Int32)
abbrev vI108 : Value := .int (108 : Int32)
abbrev vI110 : Value := .int (110 : Int32)
abbrev vI111 : Value := .int (111 : Int32)
abbrev vI114 : Value := .int (114 : Int32)
abbrev vI115 : Value := .int (115 : Int32)
abbrev vI116 : Value := .int (116 : Int32)
abbrev vI117 : Value := .int (117 : Int32)
abbrev vI121 : Value := .int (121 : Int32)
abbrev vI2147483647 : Value := .int (2147483647 : Int32)
def own_at (l : List Value) (j : Nat) : Int32 := match l.getD j (.int 0) with
  | .int x => x
  | _ => 0
theorem own_padZ {Z : State} {h : Heap} {a : Addr} {k : ClassId} {ty : FieldType} {z : Int32} {d : Value} (A : Arv Z h a k ty z [] d) (n : Nat) : Arv Z h a k ty z (List.replicate n d) d := A.pad (pad_rep [] d n)
theorem own_cpAll {Z : State} {h : Heap} {a : Addr} {k : ClassId} {ty : FieldType} {z nn : Int32} {vs : List Value} {d dv : Value} {m : Nat} (hz : nn.toNatClampNeg = z.toNatClampNeg)
    (B : Arv Z h a k ty z ((List.replicate m d).take (0 : Int32).toNatClampNeg ++ ((List.range nn.toNatClampNeg).map fun i => vs.getD ((0 : Int32).toNatClampNeg + i) dv) ++ (List.replicate m d).drop ((0 : Int32).toNatClampNeg + nn.toNatClampNeg)) d) : Arv Z h a k ty z vs dv := by
  obtain ⟨c, A, q1, q2, q3, H, G⟩ := B
  have e0 : (0 : Int32).toNatClampNeg = 0 := rfl
  have key : ∀ i, i < c.slots.size → ((List.replicate m d).take (0 : Int32).toNatClampNeg ++ ((List.range nn.toNatClampNeg).map fun i => vs.getD ((0 : Int32).toNatClampNeg + i) dv) ++ (List.replicate m d).drop ((0 : Int32).toNatClampNeg + nn.toNatClampNeg)).getD i d = vs.getD i dv := fun i hi => by
    rw [q2, ← hz] at hi
    rw [e0, List.take_zero, List.nil_append, List.getD_eq_getElem?_getD, List.getElem?_append_left (by simpa using hi)]
    simp [List.getElem?_range hi]
  exact ⟨c, A, q1, q2, q3, fun i hi => by rw [H i hi, key i hi], fun i hi => by rw [← key i hi]; exact G i hi⟩
theorem own_wordsIn : ∀ d ∈ StrChars.Road.words, d ∈ tables_1 := by decide +kernel
theorem own_ac0 {P : Int32 → Prop} : ∀ c ∈ ([] : List Int32), P c := fun _ h => by cases h
theorem own_acS {P : Int32 → Prop} {a : Int32} {l : List Int32} (h : P a) (t : ∀ c ∈ l, P c) : ∀ c ∈ a :: l, P c := fun c hc => by
  rcases List.mem_cons.mp hc with rfl | hc
  · exact h
  · exact t c hc
theorem own_bs0 : ([] : List Int32).map (fun c => Value.int (c.toInt8.toInt32)) = [] := rfl
theorem own_bsS {c b : Int32} {cs : List Int32} {vs : List Value} (h : c.toInt8.toInt32 = b) (t : cs.map (fun c => Value.int (c.toInt8.toInt32)) = vs) : (c :: cs).map (fun c => Value.int (c.toInt8.toInt32)) = .int b :: vs := by rw [List.map_cons, t, h]
def own_QS (Z : State) (x : Addr) (N : Int32) (bs : List Value) (h : Heap) (n0 : Nat) (v : Option Value) (h' : Heap) (L : List Loc) : Prop := ∃ (b : Addr) (k : ClassId), v = none ∧ Fr n0 L ∧ Keep h h' [x] ∧ Fld Z h' x "java/lang/String" "coder" "B" (.int 0) ∧ Fld Z h' x "java/lang/String" "value" "[B" (.ref b) ∧ h.size ≤ b ∧ Arv Z h' b k .byte N bs (.int 0) ∧ Exa Z h' b "[B" ∧
  ∀ (O n d : String) (w : Value), Fld Z h x O n d w → Jvm.RoadKit.slotOf Z O n d ≠ Jvm.RoadKit.slotOf Z "java/lang/String" "value" "[B" → Jvm.RoadKit.slotOf Z O n d ≠ Jvm.RoadKit.slotOf Z "java/lang/String" "coder" "B" → Fld Z h' x O n d w
theorem own_newStr {p : Program} {l : Launch} {e : Env} {R : Room} {s : State} {args : Array Value} {below : List Frame} {len W : Nat} {Z : State} {a0 : Array Value} {h : Heap} (hZ : Z.Warmed39 s.vm) (hw : own_HW a0 Z) {kI : Nat} (wi : (Jvm.Cond.instantiable "java/lang/String" kI).before a0 Z = true)
    {x b : Addr} {k : ClassId} {N z : Int32} {cs : List Int32} {bs : List Value} {dv v0 c0 : Value} {n n0 : Nat} (hx0 : n0 ≤ x) (E : Exa Z h x "java/lang/String") (V : Fld Z h x "java/lang/String" "value" "[B" v0) (C : Fld Z h x "java/lang/String" "coder" "B" c0) (K : Arv Z h b k .char N (cs.map Value.int) dv) (S : Sta Z h "java/lang/String" "COMPACT_STRINGS" "Z" (.int z)) (hz : ¬ z = 0)
    (hn : cs.length = n) (hlen : N.toNatClampNeg = n) (h0 : 0 < n) (hbig : n ≤ 4000) (hall : ∀ c ∈ cs, ¬ 255 < c) (hb : cs.map (fun c => Value.int (c.toInt8.toInt32)) = bs) (hfr : 4 ≤ R.frames) (hlo : W + 65 ≤ R.locals) :
    Back l R p e below s args (⟨"java/lang/String", "<init>", "([C)V"⟩ : MethodName) len W (fun P a => a = #[.ref x, .ref b] ∧ P.U.heap = h ∧ P.cells + 1 ≤ R.cells ∧ P.slots + n ≤ R.slots)
      (fun P _ v B => ∃ L, own_QS Z x N bs h n0 v B.U.heap L ∧ B.locs = P.locs ++ L ∧ B.cells = P.cells + 1 ∧ B.slots = P.slots + n) := by
  subst hn hb
  refine Back.mono (StrChars.Road.backArv hZ (fun d hd => hw d (own_wordsIn d hd)) wi E V C K S hz hlen h0 (by omega) hall hfr hlo) (fun P a hp => hp) (fun P a v B hp hq => ?_)
  obtain ⟨L, ⟨q1, q2, q3, q4, q5, q6, q7, ⟨kb, v1, v2⟩, q9⟩, hl, hc, hs⟩ := hq
  refine ⟨L, ⟨h.size, kb, q1, fun y hy => by rw [q2 y hy]; exact hx0, q3, q7, q6, Nat.le_refl _, v2, ?_, q9⟩, hl, hc, hs⟩
  obtain ⟨cA, Ar, r1, r2, r3, r4, r5⟩ := v2
  obtain ⟨a1, kA, a2, comp, a3⟩ := Ar.2.1
  refine ⟨cA, kA, Ar.1, by rw [r1]; exact v1, a2, ?_, fun q => ?_⟩
  · cases hv : cA.vm <;> simp_all [VmData.isStatics]
  · rw [a3] at q; cases q
theorem own_trunc {Z : State} {h : Heap} {a : Addr} {k : ClassId} {ty : FieldType} {z : Int32} {ws rest : List Value} {d : Value} (hz : ws.length = z.toNatClampNeg) (A : Arv Z h a k ty z (ws ++ rest) d) : Arv Z h a k ty z ws d := by
  obtain ⟨c, A, q1, q2, q3, H, G⟩ := A
  have key : ∀ i, i < c.slots.size → (ws ++ rest).getD i d = ws.getD i d := fun i hi => by
    rw [List.getD_eq_getElem?_getD, List.getD_eq_getElem?_getD, List.getElem?_append_left (by omega)]
  exact ⟨c, A, q1, q2, q3, fun i hi => by rw [H i hi, key i hi], fun i hi => by rw [← key i hi]; exact G i hi⟩
theorem own_wordsEqIn : ∀ d ∈ StrChars.Road.wordsEq, d ∈ tables_1 := by decide +kernel
theorem own_n32 {n : Nat} (h : n < 2 ^ 31) : (Int32.ofNat n).toNatClampNeg = n := by rw [Int32.toNatClampNeg, Int32.toInt_ofNat_small h]; rfl
theorem own_ofLen {N : Int32} {l : List Int32} {n : Nat} (h : N = Int32.ofNat n) (e : l.length = n) : N = Int32.ofNat l.length := by rw [e]; exact h
def own_QE (r : Int32) (h : Heap) (n0 : Nat) (v : Option Value) (h' : Heap) (L : List Loc) : Prop := v = some (.int r) ∧ Fr n0 L ∧ h' = h
theorem own_eq255 : ∀ k : Nat, k < 256 → (((Int32.ofNat k + (-128 : Int32)) &&& (255 : Int32)).toInt8.toInt32 = Int32.ofNat k + (-128 : Int32)) ∧ ¬ ((Int32.ofNat k + (-128 : Int32)) &&& (255 : Int32)) < 0 ∧ ¬ (255 : Int32) < ((Int32.ofNat k + (-128 : Int32)) &&& (255 : Int32)) := by decide +kernel
theorem own_byteb {b : Int32} (h : fits .byte (.int b) = true) : (b &&& (255 : Int32)).toInt8.toInt32 = b ∧ ¬ (b &&& (255 : Int32)) < 0 ∧ ¬ (255 : Int32) < (b &&& (255 : Int32)) := by
  simp only [fits, Bool.and_eq_true, decide_eq_true_eq, Int32.le_iff_toInt_le, show (-128 : Int32).toInt = -128 from by decide, show (127 : Int32).toInt = 127 from by decide] at h
  have e : b = Int32.ofNat (b.toInt + 128).toNat + (-128 : Int32) := by
    apply Int32.toInt_inj.mp
    rw [Int32.toInt_add, Int32.toInt_ofNat_small (by omega), show (-128 : Int32).toInt = -128 from by decide, Int.bmod_eq_of_le (by omega) (by omega)]; omega
  have := own_eq255 (b.toInt + 128).toNat (by omega)
  rw [← e] at this
  exact this
theorem own_bytesOk {Z : State} {h : Heap} {t : Addr} {kb : ClassId} {N : Int32} {bs : List Int32} (K : Arv Z h t kb .byte N (bs.map Value.int) (.int 0)) (hN : N.toNatClampNeg = bs.length) : ∀ b ∈ bs, (b &&& (255 : Int32)).toInt8.toInt32 = b ∧ ¬ (b &&& (255 : Int32)) < 0 ∧ ¬ (255 : Int32) < (b &&& (255 : Int32)) := fun b hb => by
  obtain ⟨c, A, q1, q2, q3, H, G⟩ := K
  obtain ⟨i, hi, rfl⟩ := List.getElem_of_mem hb
  have := G i (by omega)
  rw [List.getD_eq_getElem?_getD, List.getElem?_map, List.getElem?_eq_getElem hi] at this
  exact own_byteb this
theorem own_mapBack {bs : List Int32} (h : ∀ b ∈ bs, (b &&& (255 : Int32)).toInt8.toInt32 = b) : bs.map Value.int = (bs.map (fun b => b &&& (255 : Int32))).map (fun c => Value.int (c.toInt8.toInt32)) := by
  rw [List.map_map]
  exact List.map_congr_left fun b hb => by simp only [Function.comp]; rw [h b hb]
theorem own_mapInj {bs ds : List Int32} (h : ∀ b ∈ bs, (b &&& (255 : Int32)).toInt8.toInt32 = b) (h' : ∀ b ∈ ds, (b &&& (255 : Int32)).toInt8.toInt32 = b) (e : bs.map (fun b => b &&& (255 : Int32)) = ds.map (fun b => b &&& (255 : Int32))) : bs = ds := by
  have q := own_mapBack h
  rw [e, ← own_mapBack h'] at q
  exact (List.map_inj_right (fun _ _ hxy => by injection hxy)).mp q
theorem own_strEq {p : Program} {l : Launch} {e : Env} {R : Room} {s : State} {args : Array Value} {below : List Frame} {len W : Nat} {Z : State} {a0 : Array Value} {h : Heap} (hZ : Z.Warmed39 s.vm) (hw : own_HW a0 Z) {kI : Nat} (wi : (Jvm.Cond.instantiable "java/lang/String" kI).before a0 Z = true)
    {x t : Addr} {kb : ClassId} {bs : List Int32} {N : Int32} (E : Exa Z h x "java/lang/String") (V : Fld Z h x "java/lang/String" "value" "[B" (.ref t)) (C : Fld Z h x "java/lang/String" "coder" "B" (.int 0)) (K : Arv Z h t kb .byte N (bs.map Value.int) (.int 0)) (hN : N = Int32.ofNat bs.length) (l2 : bs.length ≤ 4000)
    {y t' : Addr} {kb' : ClassId} {ds : List Int32} {N' : Int32} (E' : Exa Z h y "java/lang/String") (V' : Fld Z h y "java/lang/String" "value" "[B" (.ref t')) (C' : Fld Z h y "java/lang/String" "coder" "B" (.int 0)) (K' : Arv Z h t' kb' .byte N' (ds.map Value.int) (.int 0)) (hN' : N' = Int32.ofNat ds.length) (l2' : ds.length ≤ 4000)
    {z : Int32} (S : Sta Z h "java/lang/String" "COMPACT_STRINGS" "Z" (.int z)) (hz : ¬ z = 0) {r : Int32} {n0 : Nat} (hr : (r = 1 ∧ bs = ds) ∨ (r = 0 ∧ ¬ bs = ds)) (hfr : 2 ≤ R.frames) (hlo : W + 28 ≤ R.locals) :
    Back l R p e below s args (⟨"java/lang/String", "equals", "(Ljava/lang/Object;)Z"⟩ : MethodName) len W (fun P a => a = #[.ref x, .ref y] ∧ P.U.heap = h ∧ P.cells + 0 ≤ R.cells ∧ P.slots + 0 ≤ R.slots)
      (fun P _ v B => ∃ L, own_QE r h n0 v B.U.heap L ∧ B.locs = P.locs ++ L ∧ B.cells = P.cells + 0 ∧ B.slots = P.slots + 0) := by
  have up : ∀ {c : Int32}, ¬ (255 : Int32) < c → ¬ (65535 : Int32) < c := fun {c} q q2 => q (by
    rw [Int32.lt_iff_toInt_lt] at q2 ⊢; have e1 : (65535 : Int32).toInt = 65535 := rfl; have e2 : (255 : Int32).toInt = 255 := rfl; omega)
  have ok := own_bytesOk K (by rw [hN]; exact own_n32 (by omega))
  have ok' := own_bytesOk K' (by rw [hN']; exact own_n32 (by omega))
  have im : ∀ {l : List Int32}, (∀ b ∈ l, (b &&& (255 : Int32)).toInt8.toInt32 = b ∧ ¬ (b &&& (255 : Int32)) < 0 ∧ ¬ (255 : Int32) < (b &&& (255 : Int32))) → ∀ c ∈ l.map (fun b => b &&& (255 : Int32)), ¬ c < 0 ∧ ¬ (255 : Int32) < c := fun q c hc => by
    obtain ⟨b, hb, rfl⟩ := List.mem_map.mp hc
    exact (q b hb).2
  refine Back.mono (StrChars.Road.eqW (cs := bs.map (fun b => b &&& (255 : Int32))) (ds := ds.map (fun b => b &&& (255 : Int32))) hZ (fun d hd => hw d (own_wordsEqIn d hd)) wi E V C K (Or.inl ⟨rfl, by rw [List.length_map]; exact hN, own_mapBack (fun b hb => (ok b hb).1), fun c hc => (im ok c hc).2⟩) (fun c hc => ⟨(im ok c hc).1, up (im ok c hc).2⟩) (by rw [List.length_map]; exact l2) E' V' C' K' (Or.inl ⟨rfl, by rw [List.length_map]; exact hN', own_mapBack (fun b hb => (ok' b hb).1), fun c hc => (im ok' c hc).2⟩) (fun c hc => ⟨(im ok' c hc).1, up (im ok' c hc).2⟩) (by rw [List.length_map]; exact l2') S hz hfr hlo) (fun P a hp => hp) (fun P a v B _ hq => ?_)
  obtain ⟨L, ⟨q1, q2, q3⟩, hl, hc, hs⟩ := hq
  refine ⟨L, ⟨?_, by rw [q2]; exact Fr.nil n0, q3⟩, hl, hc, hs⟩
  rcases q1 with ⟨e1, e2⟩ | ⟨e1, e2⟩ <;> rcases hr with ⟨rfl, h2⟩ | ⟨rfl, h2⟩
  · exact e1
  · exact absurd (own_mapInj (fun b hb => (ok b hb).1) (fun b hb => (ok' b hb).1) e2) h2
  · exact absurd (by rw [h2]) e2
  · exact e1
theorem own_len {args : Array Value} {Z : State} {t : Term} {x : Addr} {cl : Cell} {ty : FieldType} {n : Int32} (h : (Jvm.Cond.eq (.length t) (.int n)).value args Z none Z [] = some true) (ht : t.eval args Z none [] Z = some (.ref x)) (A : Arr Z Z.heap x cl ty) : cl.slots.size < 2 ^ 31 ∧ cl.slots.size.toInt32 = n := by
  have e1 := eqv_i (y := n) rfl h
  have ha := Arr.fin (Vm.Alike.refl _) A
  have hl : cl.slots.size < 2 ^ 31 := by
    by_cases q : cl.slots.size < 2 ^ 31
    · exact q
    · simp [Term.eval, ht, ha, q] at e1
  rw [len_f ht ha hl] at e1
  exact ⟨hl, by simpa using e1⟩
theorem own_EW {Z : State} {a0 : Array Value} (hw : own_HW a0 Z) : EW Z a0 consts_1 := (EW.cons (ww hw 210 rfl) (by decide) (EW.cons (ww hw 272 rfl) (by decide) (EW.cons (ww hw 401 rfl) (by decide) (EW.cons (ww hw 427 rfl) (by decide) EW.nil))))
theorem own_NSroot {Z : State} {a0 : Array Value} {O K : String} {n : Nat} (w : (Jvm.Cond.noSuperclass O).before a0 Z = true) (wk : (Jvm.Cond.instantiable K n).before a0 Z = true) (hn : O ≠ K) : NS Z O K := by
  obtain ⟨c, k, h1, h2, h3, -, -⟩ := Cond.noSuperclass_spec w
  obtain ⟨t, kt, g1, -⟩ := Cond.instantiable_spec wk
  have ne := ids_ne h1 g1 hn
  refine ⟨c, t, h1, g1, fun fuel => ?_⟩
  cases fuel with
  | zero => rfl
  | succ f => simp [Vm.isSubclassAux, ne, h2, h3]
theorem own_NSno {Z : State} {a0 : Array Value} {C S K : String} {n : Nat} (w : (Jvm.Cond.superclass C S).before a0 Z = true) (wk : (Jvm.Cond.instantiable K n).before a0 Z = true) (nn : NS Z C K) (hn : C ≠ K) : ∃ c t, Z.vm.findClass C = some c ∧ Z.vm.findClass K = some t ∧ Z.vm.assignable c t = false := by
  obtain ⟨c, t, h0, g0, n3⟩ := nn
  obtain ⟨p, k, kp, h1, h2, h3, h4, h5, -, h7⟩ := Cond.superclass_spec h0 w
  obtain ⟨t', kt, g1, g2, g3, g4, -⟩ := Cond.instantiable_spec wk
  cases g0.symm.trans g1
  have gi : kt.isInterface = false := by simp at g4; exact g4.1
  have ne := ids_ne h0 g0 hn
  refine ⟨c, _, h0, g0, ?_⟩
  show Z.vm.assignableAux (255 + 1) c _ = false
  simp [Vm.assignableAux, ne, h2, g2, h5, g3, gi, Vm.isSubclass, n3]
theorem own_NSrootS {Z : State} {a0 : Array Value} {O K C : String} {y0 y' : MethodName} (w : (Jvm.Cond.noSuperclass O).before a0 Z = true) (wk : (Jvm.Cond.selects C y0 y').before a0 Z = true) (hc : y'.cls = K) (hn : O ≠ K) : NS Z O K := by
  obtain ⟨c, k, h1, h2, h3, -, -⟩ := Cond.noSuperclass_spec w
  obtain ⟨c2, r2, m2, -, -, q3, -⟩ := Cond.selects_spec wk
  have g1 := findClass_of_methodNamed q3
  rw [hc] at g1
  have ne := ids_ne h1 g1 hn
  refine ⟨c, _, h1, g1, fun fuel => ?_⟩
  cases fuel with
  | zero => rfl
  | succ f => simp [Vm.isSubclassAux, ne, h2, h3]
theorem own_NSnoS {Z : State} {a0 : Array Value} {C S K C' : String} {y0 y' : MethodName} (w : (Jvm.Cond.superclass C S).before a0 Z = true) (wk : (Jvm.Cond.selects C' y0 y').before a0 Z = true) (hc : y'.cls = K) (nn : NS Z C K) (hn : C ≠ K) : ∃ c t, Z.vm.findClass C = some c ∧ Z.vm.findClass K = some t ∧ Z.vm.assignable c t = false := by
  obtain ⟨c, t, h0, g0, n3⟩ := nn
  obtain ⟨p, k, kp, h1, h2, h3, h4, h5, -, h7⟩ := Cond.superclass_spec h0 w
  obtain ⟨c2, r2, m2, -, -, q3, -, kt, g2, gi⟩ := Cond.selects_spec wk
  have g1 := findClass_of_methodNamed q3
  rw [hc] at g1
  cases g0.symm.trans g1
  have ne := ids_ne h0 g0 hn
  refine ⟨c, _, h0, g0, ?_⟩
  show Z.vm.assignableAux (255 + 1) c _ = false
  have ne' : (c == m2.cls) = false := by simpa using ne
  rw [Vm.assignableAux]
  simp only [h2, g2, h5, gi, ne']
  cases hk : kt.kind <;> simp [Vm.isSubclass, n3]
def own_Mir (Z : State) (C : String) (mr : Addr) : Prop := ∃ (c : ClassId) (k : Class), Z.vm.findClass C = some c ∧ Z.vm.classes[c]? = some k ∧ k.mirror = some mr
section OwnMir
variable {p : Program} {l : Launch} {e : Env} {R : Room} {s : State} {m : MethodId} {args : Array Value} {below : List Frame} {meth : Method} {c : Code} {T : State} {locs : List Loc} {cells slots : Nat} {Z : State} {a0 : Array Value} {h : Heap}
theorem own_gcls (X : Stand p l e R s m args below meth c T locs cells slots) (hx : p.tables.exec = Jvm.exec) (hZ : Z.Warmed39 s.vm) {own C : String} {index : Nat} {a : Addr} (hown : s.vm.findClass own = some m.cls)
    (w1 : (Jvm.Cond.methodLink own index ⟨"java/lang/Object", "getClass", "()Ljava/lang/Class;"⟩).before a0 Z = true) (w2 : (Jvm.Cond.declares ⟨"java/lang/Object", "getClass", "()Ljava/lang/Class;"⟩).before a0 Z = true) (w3 : (Jvm.Cond.noSuperclass "java/lang/Object").before a0 Z = true) (w4 : (Jvm.Cond.selects C ⟨"java/lang/Object", "getClass", "()Ljava/lang/Class;"⟩ ⟨"java/lang/Object", "getClass", "()Ljava/lang/Class;"⟩).before a0 Z = true)
    (w5 : (Jvm.Cond.instanceMethod ⟨"java/lang/Object", "getClass", "()Ljava/lang/Class;"⟩).before a0 Z = true) (w6 : (Jvm.Cond.native ⟨"java/lang/Object", "getClass", "()Ljava/lang/Class;"⟩).before a0 Z = true) (eT : T.heap = h) (E : Exa Z h a C) {mr : Addr} (M : own_Mir Z C mr)
    {g : JFrame} (hg : g.method = m) (hsize : g.locals.size = c.maxLocals) {rest : List Value} (hs : g.stack = .ref a :: rest) (hd : decode c.code g.pc = .ok (.invokevirtual index, 3)) (hf : 1 ≤ R.frames) {W : Nat} (hW : 2 * g.monitorRoom + (rest.map fun v => v.category).sum ≤ W) (hl : W + (nativeFrameWords "java/lang/Object" "getClass" 1 + 11) ≤ R.locals) :
    ∃ T', Stand p l e R s m args below meth c T' locs cells slots ∧ T'.heap = h ∧ ∀ target, Steps p.tables e below (T'.setTop { g with pc := g.pc + 3, stack := .ref mr :: rest }) target → Steps p.tables e below (T.setTop g) target := by
  obtain ⟨cB, kB, i1, i2, i3⟩ := isOf hZ eT E
  obtain ⟨cc, kc, m1, m2, m3⟩ := M
  rw [hZ.alike.findClass] at i1
  cases i1.symm.trans m1
  obtain ⟨k', q, ek⟩ := hZ.alike.2.2 _ _ m2
  obtain ⟨vm', X', st⟩ := X.getClassOf hx hown (mvT hZ w1) (mvT hZ w2) (nf_top (args := #[]) (mvT hZ w3)) (mvT hZ w4) (mvT hZ w5) (mvT hZ w6) (by rw [hZ.alike.findClass]; exact m1) i3 q (by rw [ek]; exact m3) hg hsize hs hd hf (by omega)
  exact ⟨_, X', eT, st⟩
theorem own_ldcM (X : Stand p l e R s m args below meth c T locs cells slots) (hx : p.tables.exec = Jvm.exec) (hZ : Z.Warmed39 s.vm) {own C : String} {index : Nat} (hown : s.vm.findClass own = some m.cls) (w : (Jvm.Cond.classLink own index C).before a0 Z = true) (eT : T.heap = h) {mr : Addr} (M : own_Mir Z C mr)
    {g : JFrame} (hg : g.method = m) (hd : decode c.code g.pc = .ok (.ldc index, 2)) :
    ∃ T', Stand p l e R s m args below meth c T' locs cells slots ∧ T'.heap = h ∧ ∀ target, Steps p.tables e below (T'.setTop { g with pc := g.pc + 2, stack := .ref mr :: g.stack }) target → Steps p.tables e below (T.setTop g) target := by
  obtain ⟨cc, kc, m1, m2, m3⟩ := M
  obtain ⟨k', q, ek⟩ := hZ.alike.2.2 _ _ m2
  have hf : s.vm.findClass C = some cc := by rw [hZ.alike.findClass]; exact m1
  have hm : k'.mirror = some mr := by rw [ek]; exact m3
  obtain ⟨vm', X', st⟩ := X.ldcMirror hx (C := C) (a := mr) hown (mvT hZ w) (by simp [Term.eval, hf, q, hm]) hg hd
  exact ⟨_, X', eT, st⟩
end OwnMir
theorem own_andmax (x : Int32) : 0 ≤ (x &&& (2147483647 : Int32)).toInt := by
  have h : (x &&& 2147483647).toInt = (x.toBitVec &&& 2147483647#32).toInt := rfl
  have h2 : (x.toBitVec &&& 2147483647#32).toNat = x.toBitVec.toNat % 2147483648 := by rw [BitVec.toNat_and]; exact Nat.and_two_pow_sub_one_eq_mod x.toBitVec.toNat 31
  have h3 := Nat.mod_lt x.toBitVec.toNat (show 0 < 2147483648 by decide)
  have h4 : (x.toBitVec &&& 2147483647#32).toInt = ((x.toBitVec &&& 2147483647#32).toNat : Int) := BitVec.toInt_eq_toNat_of_lt (by omega)
  rw [h, h4]; omega
theorem own_char (x : Int32) : ¬ ((255 : Int32) < (nar .char ((x &&& (255 : Int32)).toUInt32.toUInt16.toUInt32.toInt32))) := by
  have e : nar .char ((x &&& (255 : Int32)).toUInt32.toUInt16.toUInt32.toInt32) = x &&& 255 := by
    rw [i2c_mask]; exact i2c_mask x
  rw [e, Int32.lt_iff_toInt_lt]
  have h : (x &&& 255).toInt = (x.toBitVec &&& 255#32).toInt := rfl
  have h2 : (x.toBitVec &&& 255#32).toNat = x.toBitVec.toNat % 256 := by rw [BitVec.toNat_and]; exact Nat.and_two_pow_sub_one_eq_mod x.toBitVec.toNat 8
  have h3 := Nat.mod_lt x.toBitVec.toNat (show 0 < 256 by decide)
  have h4 : (x.toBitVec &&& 255#32).toInt = ((x.toBitVec &&& 255#32).toNat : Int) := BitVec.toInt_eq_toNat_of_lt (by omega)
  rw [h, h4, h2]
  have : (255 : Int32).toInt = 255 := rfl
  omega

theorem own_chy (x : Int32) : ∃ c : Int32, ((x &&& (255 : Int32)).toUInt32.toUInt16.toUInt32.toInt32) = c ∧ ¬ ((255 : Int32) < nar .char c) := ⟨_, rfl, own_char x⟩
theorem own_mod3 (x : Int32) : ((x &&& (2147483647 : Int32)) % (3 : Int32)) = (0 : Int32) ∨ ((x &&& (2147483647 : Int32)) % (3 : Int32)) = (1 : Int32) ∨ ((x &&& (2147483647 : Int32)) % (3 : Int32)) = (2 : Int32) := by
  have h0 := own_andmax x
  have hm : ((x &&& (2147483647 : Int32)) % (3 : Int32)).toInt = (x &&& (2147483647 : Int32)).toInt % 3 := by
    rw [Int32.toInt_mod]; exact Int.tmod_eq_emod_of_nonneg h0
  generalize (x &&& (2147483647 : Int32)) % (3 : Int32) = r at hm ⊢
  have key : ∀ k : Int32, r.toInt = k.toInt → r = k := fun k hk => Int32.toInt_inj.mp hk
  have : r.toInt = 0 ∨ r.toInt = 1 ∨ r.toInt = 2 := by omega
  rcases this with q | q | q
  · exact Or.inl (key 0 q)
  · exact Or.inr (Or.inl (key 1 q))
  · exact Or.inr (Or.inr (key 2 q))
abbrev own_MH (l : Launch) (y : MethodName) (b : ByteArray) (ml : Nat) (r : Option FieldType) (ws : List Jvm.Cond) (R : Room) (Z : State) (h0 : Heap) (as : Array Value) (Q : Option Value → Heap → List Loc → Prop) : Prop :=
  MetFree l y (head1 (Jvm.Cond.code y b ml r :: ws) R) (fun a U => a = as ∧ Z.Warmed39 U.vm ∧ U.heap = h0 ∧ CHv Z consts_1 U.vm h0) (fun _ _ _ _ _ => True) (fun _ U o U' => ∃ v L, o = .returned v ∧ Q v U'.heap L ∧ CHr Z consts_1 U.vm U.heap U'.vm U'.heap ∧ ReturnedEndW U o U' L R.cells R.slots)
theorem own_openH {l : Launch} {y : MethodName} {b : ByteArray} {ml : Nat} {r : Option FieldType} {ws : List Jvm.Cond} {R : Room} {Z : State} {a0 : Array Value} {h0 : Heap} {as : Array Value} {Q : Option Value → Heap → List Loc → Prop} (hEL : EW Z a0 consts_1) (hp : plainFor y = true) {L0 : Array Slot} (hL : ∀ m, entryFrame m as ml = mkF m 0 L0 [])
    (H : ∀ (p : Program) (e : Env) (s : State) (m : MethodId) (below : List Frame) (meth : Method) (c : Code) (s₁ : State), p.tables.exec = Jvm.exec → c.code = b → c.maxLocals = ml → meth.sig.returnType = r → s.methodNamed? y = some m ∧ s.vm.method? m = some meth → Z.Warmed39 s.vm → s.vm.findClass y.cls = some m.cls → Stand p l e R s m as below meth c s₁ [] 0 0 → s₁.heap = h0 → CHr Z consts_1 s.vm h0 s.vm h0 →
      ∃ v T L cs sl vm1 n h', (r = none → v = none) ∧ Stand p l e R (s.setVm vm1) m as below meth c T L cs sl ∧ cs ≤ R.cells ∧ sl ≤ R.slots ∧ s.Since vm1 n ∧ n ≤ T.heap.size ∧ Z.Warmed39 vm1 ∧ T.heap = h' ∧ CHr Z consts_1 s.vm h0 vm1 h' ∧ Q v T.heap L ∧ ∀ fs, (∀ (f : JFrame) (acts : List Action), f.method = m → f.locked = none → f.entered = [] → (doReturn e (T.setTop f) acts v).1 = T.setFrames fs) → Steps p.tables e below (s₁.setTop (mkF m 0 L0 [])) (T.setFrames fs)) :
    own_MH l y b ml r ws R Z h0 as Q := by
  refine MetFree.of_bodySF hp hisR ?_
  intro p e s m args below meth c s₁ Bd hml hP hK
  obtain ⟨rfl, hZ, hh, hC⟩ := hP
  have e0 : s₁.heap = h0 := by rw [← hh, Bd.state]; rfl
  obtain ⟨v, T, L, cs, sl, vm1, n, h', hv, X, hc, hs, hS, hn, hZ1, eT, R1, hQ, st⟩ := H p e s m below meth c s₁ Bd.exec Bd.bytes hml Bd.returns ⟨Bd.named, Bd.method⟩ hZ (findClass_of_methodNamed Bd.named) (Stand.of_body Bd) e0 (CHr.refl hC)
  obtain ⟨fs, hr, hrun, hended, hend⟩ := leaveW (s := s) (vm₁ := vm1) X hS hn (v := v) (fun q => hv (Bd.returns ▸ q))
  have hCR : CHr Z consts_1 s.vm s.heap T.vm T.heap := by rw [hh, eT]; exact CHr.trans R1 (CHv.at (s := s) (vm0 := vm1) X hZ1 hEL R1.1)
  exact ⟨_, _, castTop (hL m) (st fs hr), hrun, hended, v, L, rfl, hQ, hCR, hend.1, hend.2.1, hend.2.2.1, hend.2.2.2.mono hc hs⟩
theorem pd___C_V : parseMethodDescriptor "([C)V" = some ⟨[(.array .char)], none⟩ := by decide +kernel
theorem d7_0 : DK cB7 0 (.aload_n 0) 1 := by decide +kernel
theorem d7_1 : DK cB7 1 (.invokespecial 1) 3 := by decide +kernel
theorem d8_0 : DK cB8 0 (.aload_n 0) 1 := by decide +kernel
theorem d8_1 : DK cB8 1 (.invokespecial 1) 3 := by decide +kernel
theorem d9_0 : DK cB9 0 (.aload_n 0) 1 := by decide +kernel
theorem d9_1 : DK cB9 1 (.invokespecial 1) 3 := by decide +kernel
theorem d9_4 : DK cB9 4 (.return_) 1 := by decide +kernel
theorem pn_java_util_AbstractCollection : plainName "java/util/AbstractCollection" = true := by first | (simp [plainName, overriddenIn]; done) | decide +kernel
def Q9_1 (Z : State)  (h0 : Heap) (n0 : Nat) (v : Option Value) (h : Heap) (L : List Loc) : Prop := v = none ∧ Fr n0 L ∧ h = h0
theorem rm9_1 (l : Launch) (Z : State) (a0 : Array Value) (hw : own_HW a0 Z) (ws : List Jvm.Cond) (r0 : Addr) (h0 : Heap) (n0 : Nat) (O0 : Old Z n0 h0) :
    own_MF l mN0 jdk_22_method_1_code 1 none ws rR1_0_0_12 Z h0 #[(.ref r0)] (Q9_1 Z  h0 n0) := by
  refine own_open (plainFor_of_name pn_java_util_AbstractCollection) (L0 := #[lR r0]) (fun _ => by first | (simp [entryFrame, mkF, argsToLocals, Value.category]; done) | rfl) ?_
  intro p e s m below meth c s₁ hx hby hml hret hnn hZ hown X0 e0
  have N0 := Fr.nil n0
  obtain ⟨T1, X1, e1, st1⟩ := initO X0 hx hZ hown (ww hw 49 rfl) (ww hw 13 rfl) (ww hw 14 rfl) e0 (g := (mkF m 1 #[lR r0] [(.ref r0)])) rfl (by rw [hml]; rfl) rfl (hb hby d9_1) (by decide) (W := 0) (own_W rfl) (by decide)
  refine ⟨none, _, _, _, _, (fun _ => rfl), X1, by decide, by decide, ?_, fun fs hr => ?_⟩
  · rw [e1]; exact ⟨rfl, N0, rfl⟩
  · show SG p e below s₁ (mkF m 0 #[lR r0] []) _
    refine qaN X0 hx hby d9_0 ?_
    refine st1 _ ?_
    exact X1.returnOut hx hret (hb hby d9_4) hr
theorem pd___V : parseMethodDescriptor "()V" = some ⟨[], none⟩ := by decide +kernel
theorem d8_4 : DK cB8 4 (.aload_n 0) 1 := by decide +kernel
theorem d8_5 : DK cB8 5 (.iconst 0) 1 := by decide +kernel
theorem d8_6 : DK cB8 6 (.putfield 7) 3 := by decide +kernel
theorem d8_9 : DK cB8 9 (.return_) 1 := by decide +kernel
theorem pn_java_util_AbstractList : plainName "java/util/AbstractList" = true := by first | (simp [plainName, overriddenIn]; done) | decide +kernel
def Q8_1 (Z : State) (r0 : Addr) (h0 : Heap) (n0 : Nat) (v : Option Value) (h : Heap) (L : List Loc) : Prop := v = none ∧ Fr n0 L ∧ Keep h0 h [r0] ∧ Fld Z h r0 cs1 "modCount" "I" vI0 ∧ Fld Z h r0 cs2 cs3 cs4 .null ∧ Fld Z h r0 cs2 "size" "I" vI0
theorem rm8_1 (l : Launch) (Z : State) (a0 : Array Value) (hw : own_HW a0 Z) (ws : List Jvm.Cond) (r0 : Addr) (h0 : Heap) (n0 : Nat) (O0 : Old Z n0 h0) (f2 : Exa Z h0 r0 cs2) (f3 : Fld Z h0 r0 cs1 "modCount" "I" vI0) (g4 : n0 ≤ r0) (f6 : Fld Z h0 r0 cs2 cs3 cs4 .null) (f8 : Fld Z h0 r0 cs2 "size" "I" vI0) :
    own_MF l mN1 jdk_39_method_1_code 1 none ws rR2_0_0_24 Z h0 #[(.ref r0)] (Q8_1 Z r0 h0 n0) := by
  refine own_open (plainFor_of_name pn_java_util_AbstractList) (L0 := #[lR r0]) (fun _ => by first | (simp [entryFrame, mkF, argsToLocals, Value.category]; done) | rfl) ?_
  intro p e s m below meth c s₁ hx hby hml hret hnn hZ hown X0 e0
  have N0 := Fr.nil n0; have w := @ww Z a0 hw
  obtain ⟨_, T1, Lc1, X1, hQ1, st1⟩ := own_fin (X0.specialBack hx (y := mN0) rfl hown (mvT hZ (w 43 rfl)) (mvT hZ (w 44 rfl)) (mvT hZ (w 48 rfl)) (by decide) (backOf (W := 0) (rm9_1 l Z a0 hw [] r0 h0 n0 O0) hZ (w 48 rfl) (w 47 rfl) (by decide) (by decide)) (g := (mkF m 1 #[lR r0] [(.ref r0)])) rfl (by rw [hml]; rfl) (Steps.refl _) (a := r0) (argsL := []) (rest := []) (lenOf pd___V rfl) rfl (own_W rfl) (hb hby d8_1) (fun _ _ => ⟨rfl, e0, (by decide : 0 + 0 ≤ _), (by decide : 0 + 0 ≤ _)⟩))
  obtain ⟨rfl, N1q, E1⟩ := hQ1
  have N1 := Fr.app N0 N1q
  obtain ⟨T5, h5, X5, e5, W5, st5⟩ := putF X1 hx hZ hown (host := "") (Or.inl (w 50 rfl)) Via.refl E1 f3 f2 (Or.inl (w 51 rfl)) (w 32 rfl) (ty := .int) (by decide) rfl rfl (g := (mkF m 6 #[lR r0] [vI0, (.ref r0)])) rfl rfl (hb hby d8_6)
  have Fw5 := f3.same W5
  have N5 := Fr.snoc X5 N1 g4
  have f7 := (f6.other W5 (Or.inr (slot_ne (Or.inl (w 54 rfl)) (Or.inl (w 51 rfl)) (by decide) (t := (.array (.object cs5))) (t' := .int) (by decide) (by decide))))
  have f9 := (f8.other W5 (Or.inr (slot_ne (Or.inl (w 63 rfl)) (Or.inl (w 51 rfl)) (by decide) (t := .int) (t' := .int) (by decide) (by decide))))
  have kp10 : Keep h0 h5 [r0] := (Keep.refl h0 [r0]).wr W5 (Or.inl (List.mem_of_getElem? (i := 0) rfl))
  refine ⟨none, _, _, _, _, (fun _ => rfl), X5, by decide, by decide, ?_, fun fs hr => ?_⟩
  · rw [e5]; exact ⟨rfl, N5, kp10, Fw5, f7, f9⟩
  · show SG p e below s₁ (mkF m 0 #[lR r0] []) _
    refine qaN X0 hx hby d8_0 ?_
    refine st1.trans ?_
    refine qaN X1 hx hby d8_4 ?_
    refine qc X1 hx hby d8_5 ?_
    refine st5 _ ?_
    exact X5.returnOut hx hret (hb hby d8_9) hr
theorem d7_4 : DK cB7 4 (.aload_n 0) 1 := by decide +kernel
theorem d7_5 : DK cB7 5 (.getstatic 39) 3 := by decide +kernel
theorem d7_8 : DK cB7 8 (.putfield 9) 3 := by decide +kernel
theorem d7_11 : DK cB7 11 (.return_) 1 := by decide +kernel
theorem pn_java_util_ArrayList : plainName "java/util/ArrayList" = true := by first | (simp [plainName, overriddenIn]; done) | decide +kernel
def Q7_1 (Z : State) (r0 r1 : Addr) (h0 : Heap) (n0 : Nat) (v : Option Value) (h : Heap) (L : List Loc) : Prop := v = none ∧ Fr n0 L ∧ Keep h0 h [r0] ∧ Fld Z h r0 cs1 "modCount" "I" vI0 ∧ Fld Z h r0 cs2 cs3 cs4 (.ref r1) ∧ Fld Z h r0 cs2 "size" "I" vI0
theorem rm7_1 (l : Launch) (Z : State) (a0 : Array Value) (hw : own_HW a0 Z) (ws : List Jvm.Cond) (r0 r1 : Addr) (h0 : Heap) (n0 : Nat) (O0 : Old Z n0 h0) (f1 : Exa Z h0 r0 cs2) (f2 : Fld Z h0 r0 cs1 "modCount" "I" vI0) (g3 : n0 ≤ r0) (f4 : Fld Z h0 r0 cs2 cs3 cs4 .null) (f5 : Fld Z h0 r0 cs2 "size" "I" vI0) (f10 : Sta Z Z.heap cs2 cs6 cs4 (.ref r1)) :
    own_MF l mN2 jdk_38_method_2_code 1 none ws rR3_0_0_36 Z h0 #[(.ref r0)] (Q7_1 Z r0 r1 h0 n0) := by
  refine own_open (plainFor_of_name pn_java_util_ArrayList) (L0 := #[lR r0]) (fun _ => by first | (simp [entryFrame, mkF, argsToLocals, Value.category]; done) | rfl) ?_
  intro p e s m below meth c s₁ hx hby hml hret hnn hZ hown X0 e0
  have N0 := Fr.nil n0; have w := @ww Z a0 hw
  obtain ⟨_, T6, Lc6, X6, hQ6, st6⟩ := own_fin (X0.specialBack hx (y := mN1) rfl hown (mvT hZ (w 37 rfl)) (mvT hZ (w 38 rfl)) (mvT hZ (w 42 rfl)) (by decide) (backOf (W := 0) (rm8_1 l Z a0 hw [] r0 h0 n0 O0 f1 f2 g3 f4 f5) hZ (w 42 rfl) (w 41 rfl) (by decide) (by decide)) (g := (mkF m 1 #[lR r0] [(.ref r0)])) rfl (by rw [hml]; rfl) (Steps.refl _) (a := r0) (argsL := []) (rest := []) (lenOf pd___V rfl) rfl (own_W rfl) (hb hby d7_1) (fun _ _ => ⟨rfl, e0, (by decide : 0 + 0 ≤ _), (by decide : 0 + 0 ≤ _)⟩))
  obtain ⟨rfl, N6q, K6, f7, f8, f9⟩ := hQ6
  have N6 := Fr.app N0 N6q
  have o11 := Old.keep O0 K6 (allS g3 all0)
  have f12 := f10.ext o11.2
  obtain ⟨T13, X13, e13, st13⟩ := getS2 X6 hx hZ hown (host := "") (Or.inl (w 52 rfl)) Via.refl rfl f12 (g := (mkF m 5 #[lR r0] [(.ref r0)])) rfl (hb hby d7_5)
  have f14 := (f1.keep K6)
  obtain ⟨T15, h15, X15, e15, W15, st15⟩ := putF X13 hx hZ hown (host := "") (Or.inl (w 53 rfl)) Via.refl e13 f8 f14 (Or.inl (w 54 rfl)) (w 32 rfl) (ty := (.array (.object cs5))) (by decide) rfl rfl (g := (mkF m 8 #[lR r0] [(.ref r1), (.ref r0)])) rfl rfl (hb hby d7_8)
  have Fw15 := f8.same W15
  have N15 := Fr.snoc X15 N6 g3
  have f16 := (f7.other W15 (Or.inr (slot_ne (Or.inl (w 51 rfl)) (Or.inl (w 54 rfl)) (by decide) (t := .int) (t' := (.array (.object cs5))) (by decide) (by decide))))
  have f17 := (f9.other W15 (Or.inr (slot_ne (Or.inl (w 63 rfl)) (Or.inl (w 54 rfl)) (by decide) (t := .int) (t' := (.array (.object cs5))) (by decide) (by decide))))
  have kp18 : Keep h0 T6.heap [r0] := (Keep.refl h0 [r0]).trans K6 (allS (Or.inl (List.mem_of_getElem? (i := 0) rfl)) all0)
  have kp19 : Keep h0 h15 [r0] := kp18.wr W15 (Or.inl (List.mem_of_getElem? (i := 0) rfl))
  refine ⟨none, _, _, _, _, (fun _ => rfl), X15, by decide, by decide, ?_, fun fs hr => ?_⟩
  · rw [e15]; exact ⟨rfl, N15, kp19, f16, Fw15, f17⟩
  · show SG p e below s₁ (mkF m 0 #[lR r0] []) _
    refine qaN X0 hx hby d7_0 ?_
    refine st6.trans ?_
    refine qaN X6 hx hby d7_4 ?_
    refine st13 _ ?_
    refine st15 _ ?_
    exact X15.returnOut hx hret (hb hby d7_11) hr
theorem d15_0 : DK cB15 0 (.iload_n 0) 1 := by decide +kernel
theorem d15_1 : DK cB15 1 (.ifCond .ne 271) 3 := by decide +kernel
theorem d15_4 : DK cB15 4 (.new 8) 3 := by decide +kernel
theorem d15_7 : DK cB15 7 (.dup) 1 := by decide +kernel
theorem d15_8 : DK cB15 8 (.bipush 44) 2 := by decide +kernel
theorem d15_10 : DK cB15 10 (.newarray .char) 2 := by decide +kernel
section OwnSt
variable {p : Program} {l : Launch} {e : Env} {R : Room} {s : State} {m : MethodId} {args : Array Value} {below : List Frame} {meth : Method} {c : Code} {T : State} {locs : List Loc} {cells slots : Nat} {Z : State} {h h0 : Heap} {a : Addr} {k : ClassId} {z j x : Int32} {vs : List Value} {d : Value}
theorem own_stC (X : Stand p l e R s m args below meth c T locs cells slots) (hx : p.tables.exec = Jvm.exec) (hZ : Z.Warmed39 s.vm) (eT : T.heap = h) (K : Keep h0 h [a]) (V : Arv Z h a k .char z vs d) {n0 : Nat} (N : Fr n0 locs) (ge : n0 ≤ a) (i : Nat) (hj : j.toNatClampNeg = i) (hi : i < vs.length) (q : ¬ j < 0 ∧ j < z)
    {g : JFrame} (hg : g.method = m) {rest : List Value} (hs : g.stack = .int x :: .int j :: .ref a :: rest) (hd : decode c.code g.pc = .ok (.castore, 1)) :
    ∃ T' h' L, Stand p l e R s m args below meth c T' L cells slots ∧ T'.heap = h' ∧ Fr n0 L ∧ Keep h0 h' [a] ∧ Arv Z h' a k .char z (vs.set i (.int (nar .char x))) d ∧ ∀ target, Steps p.tables e below (T'.setTop { g with pc := g.pc + 1, stack := rest }) target → Steps p.tables e below (T.setTop g) target := by
  obtain ⟨cl, Ar, q1, S, Nz, H, G⟩ := V
  obtain ⟨T', h', X', e', W, st⟩ := stC X hx hZ eT Ar (inb_of S q) hg hs hd
  exact ⟨T', h', _, X', e', Fr.snoc X' N ge, K.wr W (Or.inl (List.mem_singleton.mpr rfl)), Arv.set Ar q1 S Nz H G (fits_nar_char _) W i hj hi, st⟩
end OwnSt
def own_push (b : ByteArray) (pc : Nat) : Option ((Int32 ⊕ Nat) × Nat) := match decode b pc with
  | .ok (.iconst i, 1) => some (.inl (Int32.ofInt i), pc + 1)
  | .ok (.bipush i, 2) => some (.inl (Int8.ofInt i).toInt32, pc + 2)
  | .ok (.iload_n k, 1) => some (.inr k.val, pc + 1)
  | .ok (.iload k, 2) => some (.inr k, pc + 2)
  | _ => none
def own_val (L : Array Slot) : Int32 ⊕ Nat → Option Int32
  | .inl i => some i
  | .inr k => match L[k]? with
    | some (Slot.val (Value.int v)) => some v
    | _ => none
def own_nw : Int32 ⊕ Nat → Int32 ⊕ Nat
  | .inl x => .inl (nar .char x)
  | .inr k => .inr k
def own_v2 (L : Array Slot) : Int32 ⊕ Nat → Option Int32
  | .inl x => some x
  | .inr k => match L[k]? with
    | some (Slot.val (Value.int v)) => some (nar .char v)
    | _ => none
def own_plan (b : ByteArray) (z : Int32) (N : Nat) : Nat → Nat → Option (List (Nat × (Int32 ⊕ Nat)) × Nat)
  | 0, pc => some ([], pc)
  | n + 1, pc => match decode b pc, own_push b (pc + 1) with
    | .ok (.dup, 1), some (.inl j, p1) => match own_push b p1 with
      | some (w2, p2) => match decode b p2, own_plan b z N n (p2 + 1) with
        | .ok (.castore, 1), some (r, p3) => if (¬ j < 0 ∧ j < z) ∧ j.toNatClampNeg < N then some ((j.toNatClampNeg, own_nw w2) :: r, p3) else none
        | _, _ => none
      | none => none
    | _, _ => none
def own_app (L : Array Slot) : List (Nat × (Int32 ⊕ Nat)) → List Value → Option (List Value)
  | [], vs => some vs
  | (i, w) :: r, vs => match own_v2 L w with
    | some v => own_app L r (vs.set i (.int v))
    | none => none
theorem own_nwv {L : Array Slot} {w : Int32 ⊕ Nat} {v : Int32} (h : own_v2 L (own_nw w) = some v) : ∃ x, own_val L w = some x ∧ v = nar .char x := by
  cases w with
  | inl x => simp only [own_nw, own_v2, Option.some.injEq] at h; exact ⟨x, rfl, h.symm⟩
  | inr k =>
    simp only [own_nw, own_v2] at h
    split at h
    · rename_i x hl
      simp only [Option.some.injEq] at h
      exact ⟨x, by simp only [own_val, hl], h.symm⟩
    · cases h
section OwnFill
variable {p : Program} {l : Launch} {e : Env} {R : Room} {s : State} {m : MethodId} {args : Array Value} {below : List Frame} {meth : Method} {c : Code} {cells slots : Nat} {Z : State} {h0 : Heap} {a : Addr} {k : ClassId} {z : Int32} {d : Value} {b : ByteArray} {Ls : Array Slot} {rest : List Value}
theorem own_pushS {T target : State} {locs : List Loc} {w : Int32 ⊕ Nat} {v : Int32} {pc pc' : Nat} {st : List Value} (X : Stand p l e R s m args below meth c T locs cells slots) (hx : p.tables.exec = Jvm.exec) (y : c.code = b) (h : own_push b pc = some (w, pc')) (hv : own_val Ls w = some v)
    (hr : Steps p.tables e below (T.setTop (mkF m pc' Ls (.int v :: st))) target) : Steps p.tables e below (T.setTop (mkF m pc Ls st)) target := by
  unfold own_push at h
  split at h
  · rename_i i hd
    cases h; cases hv
    exact XS.iconst X.here hx rfl (hb y hd) hr
  · rename_i i hd
    cases h; cases hv
    exact XS.bipush X.here hx rfl (hb y hd) hr
  · rename_i q hd
    cases h
    simp only [own_val] at hv
    split at hv
    · rename_i v' hl
      cases hv
      exact XS.iloadN X.here hx rfl (hb y hd) hl hr
    · cases hv
  · rename_i q hd
    cases h
    simp only [own_val] at hv
    split at hv
    · rename_i v' hl
      cases hv
      exact XS.iload X.here hx rfl (hb y hd) hl hr
    · cases hv
  · cases h
theorem own_fill {N : Nat} (hx : p.tables.exec = Jvm.exec) (hZ : Z.Warmed39 s.vm) (y : c.code = b) {n0 : Nat} (ge : n0 ≤ a) : ∀ (n pc : Nat) (plan : List (Nat × (Int32 ⊕ Nat))) (pc' : Nat), own_plan b z N n pc = some (plan, pc') →
    ∀ {T : State} {locs : List Loc} {h : Heap} {vs vs' : List Value}, Stand p l e R s m args below meth c T locs cells slots → T.heap = h → Keep h0 h [a] → Arv Z h a k .char z vs d → Fr n0 locs → vs.length = N → own_app Ls plan vs = some vs' →
    ∃ T' h' L', Stand p l e R s m args below meth c T' L' cells slots ∧ T'.heap = h' ∧ Fr n0 L' ∧ Keep h0 h' [a] ∧ Arv Z h' a k .char z vs' d ∧ ∀ t, Steps p.tables e below (T'.setTop (mkF m pc' Ls (.ref a :: rest))) t → Steps p.tables e below (T.setTop (mkF m pc Ls (.ref a :: rest))) t := by
  intro n
  induction n with
  | zero =>
    intro pc plan pc' hp T locs h vs vs' X eT K V N hlen ha
    simp only [own_plan, Option.some.injEq, Prod.mk.injEq] at hp
    obtain ⟨rfl, rfl⟩ := hp
    simp only [own_app, Option.some.injEq] at ha
    subst ha
    exact ⟨T, h, locs, X, eT, N, K, V, fun t q => q⟩
  | succ n ih =>
    intro pc plan pc' hp T locs h vs vs' X eT K V N hlen ha
    unfold own_plan at hp
    split at hp
    · rename_i j p1 hd1 hq1
      split at hp
      · rename_i w2 p2 hq2
        split at hp
        · rename_i r p3 hd2 hpl
          split at hp
          · rename_i hc
            simp only [Option.some.injEq, Prod.mk.injEq] at hp
            obtain ⟨rfl, rfl⟩ := hp
            unfold own_app at ha
            split at ha
            · rename_i v hv
              obtain ⟨x, hxv, rfl⟩ := own_nwv hv
              obtain ⟨T1, h1, L1, X1, e1, N1, K1, V1, st1⟩ := own_stC X hx hZ eT K V N ge (j := j) (x := x) j.toNatClampNeg rfl (by rw [hlen]; exact hc.2) hc.1 (g := mkF m p2 Ls (.int x :: .int j :: .ref a :: .ref a :: rest)) rfl rfl (hb y hd2)
              obtain ⟨T2, h2, L2, X2, e2, N2, K2, V2, st2⟩ := ih _ _ _ hpl X1 e1 K1 V1 N1 (by rw [List.length_set]; exact hlen) ha
              refine ⟨T2, h2, L2, X2, e2, N2, K2, V2, fun t q => ?_⟩
              refine XS.dup X.here hx rfl (hb y hd1) rfl rfl ?_
              refine own_pushS X hx y hq1 rfl ?_
              refine own_pushS X hx y hq2 hxv ?_
              exact st1 _ (st2 _ q)
            · cases ha
          · cases hp
        · cases hp
      · cases hp
    · cases hp
end OwnFill
theorem pl15_12 : own_plan method_3_code (44 : Int32) 44 44 12 = some ([(0, .inl 73), (1, .inl 110), (2, .inl 116), (3, .inl 101), (4, .inl 114), (5, .inl 110), (6, .inl 97), (7, .inl 108), (8, .inl 67), (9, .inl 97), (10, .inl 108), (11, .inl 108), (12, .inl 68), (13, .inl 101), (14, .inl 116), (15, .inl 97), (16, .inl 105), (17, .inl 108), (18, .inl 115), (19, .inl 32), (20, .inl 91), (21, .inl 107), (22, .inl 101), (23, .inl 121), (24, .inl 61), (25, .inr 1), (26, .inr 2), (27, .inl 44), (28, .inl 32), (29, .inl 97), (30, .inl 117), (31, .inl 116), (32, .inl 104), (33, .inl 111), (34, .inl 114), (35, .inl 105), (36, .inl 116), (37, .inl 105), (38, .inl 101), (39, .inl 115), (40, .inl 61), (41, .inl 91), (42, .inl 93), (43, .inl 93)], 268) := by decide +kernel
theorem d15_268 : DK cB15 268 (.invokespecial 10) 3 := by decide +kernel
theorem d15_271 : DK cB15 271 (.areturn) 1 := by decide +kernel
theorem pn_com_example_innerkey_innerkey_InternalCallDetailsToStringPinLaw : plainName "com/example/innerkey/innerkey/InternalCallDetailsToStringPinLaw" = true := by first | (simp [plainName, overriddenIn]; done) | decide +kernel
def Q15_1 (Z : State) (x0 x1 : Int32) (h0 : Heap) (n0 : Nat) (v : Option Value) (h : Heap) (L : List Loc) : Prop := ∃ (b1 b22_0 : Addr) (k22_0 : ClassId), v = some (.ref b1) ∧ Fr n0 L ∧ Keep h0 h [] ∧ h0.size ≤ b1 ∧ Exa Z h b1 cs8 ∧ Fld Z h b1 cs8 "coder" "B" vI0 ∧ Fld Z h b1 cs8 "value" "[B" (.ref b22_0) ∧ h0.size ≤ b22_0 ∧ Arv Z h b22_0 k22_0 .byte (44 : Int32) [vI73, vI110, vI116, vI101, vI114, vI110, vI97, vI108, vI67, vI97, vI108, vI108, vI68, vI101, vI116, vI97, vI105, vI108, vI115, vI32, vI91, vI107, vI101, vI121, vI61, (.int ((nar .char x0).toInt8.toInt32)), (.int ((nar .char x1).toInt8.toInt32)), vI44, vI32, vI97, vI117, vI116, vI104, vI111, vI114, vI105, vI116, vI105, vI101, vI115, vI61, vI91, vI93, vI93] vI0 ∧ Exa Z h b22_0 "[B" ∧ b1 ≠ b22_0
theorem rm15_1 (l : Launch) (Z : State) (a0 : Array Value) (hw : own_HW a0 Z) (ws : List Jvm.Cond) (x0 x1 : Int32) (x2 x3 : Int32) (x4 x5 x6 : Int32) (h0 : Heap) (n0 : Nat) (O0 : Old Z n0 h0) (f13 : Sta Z Z.heap cs8 cs9 "Z" (.int x6)) (hc17 : ¬ (x6 = (0 : Int32))) (hc20 : ¬ ((255 : Int32) < (nar .char x0))) (hc21 : ¬ ((255 : Int32) < (nar .char x1))) :
    own_MF l mN3 method_3_code 7 (some (.object cs8)) ws rR4_3_92_66 Z h0 #[vI0, (.int x0), (.int x1), (.int x2), (.int x3), (.int x4), (.int x5)] (Q15_1 Z x0 x1 h0 n0) := by
  refine own_open (plainFor_of_name pn_com_example_innerkey_innerkey_InternalCallDetailsToStringPinLaw) (L0 := #[lV vI0, lI x0, lI x1, lI x2, lI x3, lI x4, lI x5]) (fun _ => by first | (simp [entryFrame, mkF, argsToLocals, Value.category]; done) | rfl) ?_
  intro p e s m below meth c s₁ hx hby hml hret hnn hZ hown X0 e0
  have N0 := Fr.nil n0; have w := @ww Z a0 hw
  obtain ⟨T1, h1, X1, e1, E1, A1, D1, -, st1⟩ := newO X0 hx hZ hown (w 1 rfl) (w 2 rfl) (w 3 rfl) e0 (g := (mkF m 4 #[lV vI0, lI x0, lI x1, lI x2, lI x3, lI x4, lI x5] [])) rfl (hb hby d15_4) (by decide) (by decide)
  obtain ⟨b1, g1⟩ : ∃ z, z = h0.size := ⟨_, rfl⟩
  rw [← g1] at A1 D1 st1
  have f2 : Fld Z h1 b1 cs8 "coder" "B" vI0 := D1 (Or.inr (w 28 rfl)) (ty := .byte) (by decide)
  have f3 : Fld Z h1 b1 cs8 "value" "[B" .null := D1 (Or.inr (w 30 rfl)) (ty := (.array .byte)) (by decide)
  obtain ⟨T4, h4, k4, X4, e4, E4, A4, B4, st4⟩ := newPE X1 hx hZ (w 4 rfl) e1 (g := (mkF m 10 #[lV vI0, lI x0, lI x1, lI x2, lI x3, lI x4, lI x5] [vI44, (.ref b1), (.ref b1)])) rfl (hb hby d15_10) rfl (by decide) (cap := 44) (by decide) (by decide) (by decide) (by decide) (ad := "[C") rfl
  obtain ⟨b4, g4⟩ : ∃ z, z = h1.size := ⟨_, rfl⟩
  rw [← g4] at A4 B4 st4
  have V4 : Arv Z h4 b4 k4 .char (44 : Int32) [vI0, vI0, vI0, vI0, vI0, vI0, vI0, vI0, vI0, vI0, vI0, vI0, vI0, vI0, vI0, vI0, vI0, vI0, vI0, vI0, vI0, vI0, vI0, vI0, vI0, vI0, vI0, vI0, vI0, vI0, vI0, vI0, vI0, vI0, vI0, vI0, vI0, vI0, vI0, vI0, vI0, vI0, vI0, vI0] vI0 := (Arv.new A4 (by decide)).pad (pad_rep [] vI0 44)
  have o6 := Old.ext O0 E1
  have zz5 : n0 ≤ h1.size := by rw [← o6.1]; exact o6.2.1
  have g7 := Nat.le_trans zz5 (Nat.le_of_eq g4.symm)
  obtain ⟨T8, h8, L8, X8, e8, N8, K8, V8, st8⟩ := own_fill hx hZ hby g7 44 12 _ _ pl15_12 (rest := [(.ref b1), (.ref b1)]) (Ls := #[lV vI0, lI x0, lI x1, lI x2, lI x3, lI x4, lI x5]) X4 e4 (Keep.refl _ _) V4 N0 rfl (vs' := [vI73, vI110, vI116, vI101, vI114, vI110, vI97, vI108, vI67, vI97, vI108, vI108, vI68, vI101, vI116, vI97, vI105, vI108, vI115, vI32, vI91, vI107, vI101, vI121, vI61, (.int (nar .char x0)), (.int (nar .char x1)), vI44, vI32, vI97, vI117, vI116, vI104, vI111, vI114, vI105, vI116, vI105, vI101, vI115, vI61, vI91, vI93, vI93]) (by simp only [own_app, own_v2, List.set]; rfl)
  have f9 := ((A1.ext E4).keep K8)
  have n10 := Nat.ne_of_lt (Nat.lt_of_lt_of_le A1.lt (Nat.le_of_eq g4.symm))
  have f11 := ((f3.ext E4).keep K8 (ninS n10 nin0))
  have f12 := ((f2.ext E4).keep K8 (ninS n10 nin0))
  have o14 := Old.ext o6 E4
  have o15 := Old.keep o14 K8 (allS g7 all0)
  have f16 := f13.ext o15.2
  have zz18 : n0 ≤ h0.size := by rw [← O0.1]; exact O0.2.1
  have g19 := Nat.le_trans zz18 (Nat.le_of_eq g1.symm)
  obtain ⟨_, T22, Lc22, X22, hQ22, st22⟩ := own_fin (X8.specialBack hx (y := mN4) rfl hown (mvT hZ (w 5 rfl)) (mvT hZ (w 6 rfl)) (mvT hZ (w 7 rfl)) (by decide) (own_newStr hZ hw (w 2 rfl) (cs := [(73 : Int32), (110 : Int32), (116 : Int32), (101 : Int32), (114 : Int32), (110 : Int32), (97 : Int32), (108 : Int32), (67 : Int32), (97 : Int32), (108 : Int32), (108 : Int32), (68 : Int32), (101 : Int32), (116 : Int32), (97 : Int32), (105 : Int32), (108 : Int32), (115 : Int32), (32 : Int32), (91 : Int32), (107 : Int32), (101 : Int32), (121 : Int32), (61 : Int32), (nar .char x0), (nar .char x1), (44 : Int32), (32 : Int32), (97 : Int32), (117 : Int32), (116 : Int32), (104 : Int32), (111 : Int32), (114 : Int32), (105 : Int32), (116 : Int32), (105 : Int32), (101 : Int32), (115 : Int32), (61 : Int32), (91 : Int32), (93 : Int32), (93 : Int32)]) (n := 44) g19 f9 f11 f12 V8 f16 hc17 rfl rfl (by decide) (by decide) (own_acS (by decide : ¬ ((255 : Int32) < (73 : Int32))) (own_acS (by decide : ¬ ((255 : Int32) < (110 : Int32))) (own_acS (by decide : ¬ ((255 : Int32) < (116 : Int32))) (own_acS (by decide : ¬ ((255 : Int32) < (101 : Int32))) (own_acS (by decide : ¬ ((255 : Int32) < (114 : Int32))) (own_acS (by decide : ¬ ((255 : Int32) < (110 : Int32))) (own_acS (by decide : ¬ ((255 : Int32) < (97 : Int32))) (own_acS (by decide : ¬ ((255 : Int32) < (108 : Int32))) (own_acS (by decide : ¬ ((255 : Int32) < (67 : Int32))) (own_acS (by decide : ¬ ((255 : Int32) < (97 : Int32))) (own_acS (by decide : ¬ ((255 : Int32) < (108 : Int32))) (own_acS (by decide : ¬ ((255 : Int32) < (108 : Int32))) (own_acS (by decide : ¬ ((255 : Int32) < (68 : Int32))) (own_acS (by decide : ¬ ((255 : Int32) < (101 : Int32))) (own_acS (by decide : ¬ ((255 : Int32) < (116 : Int32))) (own_acS (by decide : ¬ ((255 : Int32) < (97 : Int32))) (own_acS (by decide : ¬ ((255 : Int32) < (105 : Int32))) (own_acS (by decide : ¬ ((255 : Int32) < (108 : Int32))) (own_acS (by decide : ¬ ((255 : Int32) < (115 : Int32))) (own_acS (by decide : ¬ ((255 : Int32) < (32 : Int32))) (own_acS (by decide : ¬ ((255 : Int32) < (91 : Int32))) (own_acS (by decide : ¬ ((255 : Int32) < (107 : Int32))) (own_acS (by decide : ¬ ((255 : Int32) < (101 : Int32))) (own_acS (by decide : ¬ ((255 : Int32) < (121 : Int32))) (own_acS (by decide : ¬ ((255 : Int32) < (61 : Int32))) (own_acS hc20 (own_acS hc21 (own_acS (by decide : ¬ ((255 : Int32) < (44 : Int32))) (own_acS (by decide : ¬ ((255 : Int32) < (32 : Int32))) (own_acS (by decide : ¬ ((255 : Int32) < (97 : Int32))) (own_acS (by decide : ¬ ((255 : Int32) < (117 : Int32))) (own_acS (by decide : ¬ ((255 : Int32) < (116 : Int32))) (own_acS (by decide : ¬ ((255 : Int32) < (104 : Int32))) (own_acS (by decide : ¬ ((255 : Int32) < (111 : Int32))) (own_acS (by decide : ¬ ((255 : Int32) < (114 : Int32))) (own_acS (by decide : ¬ ((255 : Int32) < (105 : Int32))) (own_acS (by decide : ¬ ((255 : Int32) < (116 : Int32))) (own_acS (by decide : ¬ ((255 : Int32) < (105 : Int32))) (own_acS (by decide : ¬ ((255 : Int32) < (101 : Int32))) (own_acS (by decide : ¬ ((255 : Int32) < (115 : Int32))) (own_acS (by decide : ¬ ((255 : Int32) < (61 : Int32))) (own_acS (by decide : ¬ ((255 : Int32) < (91 : Int32))) (own_acS (by decide : ¬ ((255 : Int32) < (93 : Int32))) (own_acS (by decide : ¬ ((255 : Int32) < (93 : Int32))) own_ac0)))))))))))))))))))))))))))))))))))))))))))) (own_bsS (by decide : ((73 : Int32)).toInt8.toInt32 = (73 : Int32)) (own_bsS (by decide : ((110 : Int32)).toInt8.toInt32 = (110 : Int32)) (own_bsS (by decide : ((116 : Int32)).toInt8.toInt32 = (116 : Int32)) (own_bsS (by decide : ((101 : Int32)).toInt8.toInt32 = (101 : Int32)) (own_bsS (by decide : ((114 : Int32)).toInt8.toInt32 = (114 : Int32)) (own_bsS (by decide : ((110 : Int32)).toInt8.toInt32 = (110 : Int32)) (own_bsS (by decide : ((97 : Int32)).toInt8.toInt32 = (97 : Int32)) (own_bsS (by decide : ((108 : Int32)).toInt8.toInt32 = (108 : Int32)) (own_bsS (by decide : ((67 : Int32)).toInt8.toInt32 = (67 : Int32)) (own_bsS (by decide : ((97 : Int32)).toInt8.toInt32 = (97 : Int32)) (own_bsS (by decide : ((108 : Int32)).toInt8.toInt32 = (108 : Int32)) (own_bsS (by decide : ((108 : Int32)).toInt8.toInt32 = (108 : Int32)) (own_bsS (by decide : ((68 : Int32)).toInt8.toInt32 = (68 : Int32)) (own_bsS (by decide : ((101 : Int32)).toInt8.toInt32 = (101 : Int32)) (own_bsS (by decide : ((116 : Int32)).toInt8.toInt32 = (116 : Int32)) (own_bsS (by decide : ((97 : Int32)).toInt8.toInt32 = (97 : Int32)) (own_bsS (by decide : ((105 : Int32)).toInt8.toInt32 = (105 : Int32)) (own_bsS (by decide : ((108 : Int32)).toInt8.toInt32 = (108 : Int32)) (own_bsS (by decide : ((115 : Int32)).toInt8.toInt32 = (115 : Int32)) (own_bsS (by decide : ((32 : Int32)).toInt8.toInt32 = (32 : Int32)) (own_bsS (by decide : ((91 : Int32)).toInt8.toInt32 = (91 : Int32)) (own_bsS (by decide : ((107 : Int32)).toInt8.toInt32 = (107 : Int32)) (own_bsS (by decide : ((101 : Int32)).toInt8.toInt32 = (101 : Int32)) (own_bsS (by decide : ((121 : Int32)).toInt8.toInt32 = (121 : Int32)) (own_bsS (by decide : ((61 : Int32)).toInt8.toInt32 = (61 : Int32)) (own_bsS rfl (own_bsS rfl (own_bsS (by decide : ((44 : Int32)).toInt8.toInt32 = (44 : Int32)) (own_bsS (by decide : ((32 : Int32)).toInt8.toInt32 = (32 : Int32)) (own_bsS (by decide : ((97 : Int32)).toInt8.toInt32 = (97 : Int32)) (own_bsS (by decide : ((117 : Int32)).toInt8.toInt32 = (117 : Int32)) (own_bsS (by decide : ((116 : Int32)).toInt8.toInt32 = (116 : Int32)) (own_bsS (by decide : ((104 : Int32)).toInt8.toInt32 = (104 : Int32)) (own_bsS (by decide : ((111 : Int32)).toInt8.toInt32 = (111 : Int32)) (own_bsS (by decide : ((114 : Int32)).toInt8.toInt32 = (114 : Int32)) (own_bsS (by decide : ((105 : Int32)).toInt8.toInt32 = (105 : Int32)) (own_bsS (by decide : ((116 : Int32)).toInt8.toInt32 = (116 : Int32)) (own_bsS (by decide : ((105 : Int32)).toInt8.toInt32 = (105 : Int32)) (own_bsS (by decide : ((101 : Int32)).toInt8.toInt32 = (101 : Int32)) (own_bsS (by decide : ((115 : Int32)).toInt8.toInt32 = (115 : Int32)) (own_bsS (by decide : ((61 : Int32)).toInt8.toInt32 = (61 : Int32)) (own_bsS (by decide : ((91 : Int32)).toInt8.toInt32 = (91 : Int32)) (own_bsS (by decide : ((93 : Int32)).toInt8.toInt32 = (93 : Int32)) (own_bsS (by decide : ((93 : Int32)).toInt8.toInt32 = (93 : Int32)) own_bs0)))))))))))))))))))))))))))))))))))))))))))) (by decide) (by decide : 1 + 65 ≤ _)) (g := (mkF m 268 #[lV vI0, lI x0, lI x1, lI x2, lI x3, lI x4, lI x5] [(.ref b4), (.ref b1), (.ref b1)])) rfl (by rw [hml]; rfl) (Steps.refl _) (a := b1) (argsL := [(.ref b4)]) (rest := [(.ref b1)]) (lenOf pd___C_V rfl) rfl (own_W rfl) (hb hby d15_268) (fun _ _ => ⟨rfl, e8, (by decide : 2 + 1 ≤ _), (by decide : 48 + 44 ≤ _)⟩))
  obtain ⟨b22_0, k22_0, rfl, N22q, K22, f23, f24, f25, f26, f27, f28⟩ := hQ22
  have N22 := Fr.app N8 N22q
  have f29 := (f9.keep K22)
  have zs30 := E1.1
  have zs31 := Nat.le_trans zs30 E4.1
  have zs32 := Nat.le_trans zs31 K8.1
  have zs33 := E4.1
  have zs34 := Nat.le_trans zs33 K8.1
  have n35 := Nat.ne_of_lt (Nat.lt_of_lt_of_le (Nat.lt_of_lt_of_le A1.lt zs34) f25)
  have kp36 : Keep h0 h1 [] := (Keep.refl h0 []).ext E1
  have kp37 : Keep h0 h4 [] := kp36.ext E4
  have kp38 : Keep h0 h8 [] := kp37.trans K8 (allS (Or.inr (Nat.le_trans zs30 (Nat.le_of_eq g4.symm))) all0)
  have kp39 : Keep h0 T22.heap [] := kp38.trans K22 (allS (Or.inr (Nat.le_of_eq g1.symm)) all0)
  refine ⟨some (.ref b1), _, _, _, _, nofun, X22, by decide, by decide, ?_, fun fs hr => ?_⟩
  · exact ⟨b1, b22_0, k22_0, rfl, N22, kp39, (Nat.le_of_eq g1.symm), f29, f23, f24, (Nat.le_trans zs32 f25), f26, f27, n35⟩
  · show SG p e below s₁ (mkF m 0 #[lV vI0, lI x0, lI x1, lI x2, lI x3, lI x4, lI x5] []) _
    refine qiN X0 hx hby d15_0 ?_
    refine XS.ifNo X0.here hx rfl (hb hby d15_1) rfl ((if0 _ _).trans (teq (rfl : (0 : Int32) = (0 : Int32))).2) ?_
    refine st1 _ ?_
    refine qd X1 hx hby d15_7 ?_
    refine qb X1 hx hby d15_8 ?_
    refine st4 _ ?_
    show SG p e below T4 (mkF m 12 #[lV vI0, lI x0, lI x1, lI x2, lI x3, lI x4, lI x5] [(.ref b4), (.ref b1), (.ref b1)]) _
    refine st8 _ ?_
    show SG p e below T8 (mkF m 268 #[lV vI0, lI x0, lI x1, lI x2, lI x3, lI x4, lI x5] [(.ref b4), (.ref b1), (.ref b1)]) _
    refine st22.trans ?_
    exact retOut X22 hx (i := .areturn) hret rfl (Or.inr (Or.inr (Or.inr (Or.inr ⟨rfl, rfl, rfl⟩)))) (hb hby d15_271) hr
theorem pd__ICCCCCC_Ljava_lang_String_ : parseMethodDescriptor "(ICCCCCC)Ljava/lang/String;" = some ⟨[.int, .char, .char, .char, .char, .char, .char], some (.object "java/lang/String")⟩ := by decide +kernel
theorem d16_0 : DK cB16 0 (.aload_n 0) 1 := by decide +kernel
theorem d16_1 : DK cB16 1 (.invokespecial 1) 3 := by decide +kernel
theorem d16_4 : DK cB16 4 (.aload_n 0) 1 := by decide +kernel
theorem d16_5 : DK cB16 5 (.aload_n 1) 1 := by decide +kernel
theorem d16_6 : DK cB16 6 (.putfield 7) 3 := by decide +kernel
theorem d16_9 : DK cB16 9 (.aload_n 0) 1 := by decide +kernel
theorem d16_10 : DK cB16 10 (.aload_n 2) 1 := by decide +kernel
theorem d16_11 : DK cB16 11 (.invokestatic 13) 3 := by decide +kernel
theorem d17_0 : DK cB17 0 (.aload_n 0) 1 := by decide +kernel
theorem d17_1 : DK cB17 1 (.invokestatic 112) 3 := by decide +kernel
theorem d18_0 : DK cB18 0 (.aload_n 0) 1 := by decide +kernel
theorem d18_1 : DK cB18 1 (.instanceof 10) 3 := by decide +kernel
theorem d18_4 : DK cB18 4 (.ifCond .ne 22) 3 := by decide +kernel
theorem d18_7 : DK cB18 7 (.aload_n 0) 1 := by decide +kernel
theorem d18_8 : DK cB18 8 (.instanceof 12) 3 := by decide +kernel
theorem d18_11 : DK cB18 11 (.ifCond .eq 20) 3 := by decide +kernel
theorem d18_31 : DK cB18 31 (.aload_n 0) 1 := by decide +kernel
theorem d18_32 : DK cB18 32 (.invokeinterface 20 1) 5 := by decide +kernel
theorem d19_0 : DK cB19 0 (.aload_n 0) 1 := by decide +kernel
theorem d19_1 : DK cB19 1 (.getfield 48) 3 := by decide +kernel
theorem d19_4 : DK cB19 4 (.ifCond .ne 7) 3 := by decide +kernel
theorem d19_7 : DK cB19 7 (.iconst 1) 1 := by decide +kernel
theorem d19_8 : DK cB19 8 (.goto 4) 3 := by decide +kernel
theorem d19_12 : DK cB19 12 (.ireturn) 1 := by decide +kernel
def Q19_1 (Z : State)  (h0 : Heap) (n0 : Nat) (v : Option Value) (h : Heap) (L : List Loc) : Prop := v = some vI1 ∧ Fr n0 L ∧ h = h0
theorem rm19_1 (l : Launch) (Z : State) (a0 : Array Value) (hw : own_HW a0 Z) (ws : List Jvm.Cond) (r0 : Addr) (h0 : Heap) (n0 : Nat) (O0 : Old Z n0 h0) (f1 : Fld Z h0 r0 cs2 "size" "I" vI0) :
    own_MF l mN5 jdk_38_method_9_code 1 (some .boolean) ws rR0_0_0_0 Z h0 #[(.ref r0)] (Q19_1 Z  h0 n0) := by
  refine own_open (plainFor_of_name pn_java_util_ArrayList) (L0 := #[lR r0]) (fun _ => by first | (simp [entryFrame, mkF, argsToLocals, Value.category]; done) | rfl) ?_
  intro p e s m below meth c s₁ hx hby hml hret hnn hZ hown X0 e0
  have N0 := Fr.nil n0
  obtain ⟨T2, X2, e2, st2⟩ := getF X0 hx hZ hown (host := "") (Or.inl (ww hw 62 rfl)) Via.refl e0 f1 (g := (mkF m 1 #[lR r0] [(.ref r0)])) rfl rfl (hb hby d19_1)
  refine ⟨some vI1, _, _, _, _, nofun, X2, by decide, by decide, ?_, fun fs hr => ?_⟩
  · rw [e2]; exact ⟨rfl, N0, rfl⟩
  · show SG p e below s₁ (mkF m 0 #[lR r0] []) _
    refine qaN X0 hx hby d19_0 ?_
    refine st2 _ ?_
    refine XS.ifNo X2.here hx rfl (hb hby d19_4) rfl ((if0 _ _).trans (teq (rfl : (0 : Int32) = (0 : Int32))).2) ?_
    refine qc X2 hx hby d19_7 ?_
    refine XS.goto X2.here hx rfl (pc0 := 8) (pc' := 12) rfl (hb hby d19_8) (by decide) (by decide) ?_
    exact retN X2 hx (t := .boolean) hret (by simp) (hb hby d19_12) hr
theorem pd___Z : parseMethodDescriptor "()Z" = some ⟨[], some .boolean⟩ := by decide +kernel
theorem d18_37 : DK cB18 37 (.ifCond .eq 7) 3 := by decide +kernel
theorem d18_40 : DK cB18 40 (.invokestatic 26) 3 := by decide +kernel
theorem d69_0 : DK cB69 0 (.getstatic 90) 3 := by decide +kernel
theorem d69_3 : DK cB69 3 (.areturn) 1 := by decide +kernel
theorem pn_java_util_List : plainName "java/util/List" = true := by first | (simp [plainName, overriddenIn]; done) | decide +kernel
def Q69_1 (Z : State) (r0 : Addr) (h0 : Heap) (n0 : Nat) (v : Option Value) (h : Heap) (L : List Loc) : Prop := v = some (.ref r0) ∧ Fr n0 L ∧ h = h0
theorem rm69_1 (l : Launch) (Z : State) (a0 : Array Value) (hw : own_HW a0 Z) (ws : List Jvm.Cond) (r0 : Addr) (h0 : Heap) (n0 : Nat) (O0 : Old Z n0 h0) (f1 : Sta Z Z.heap cs12 cs13 cs14 (.ref r0)) :
    own_MF l mN6 jdk_40_method_36_code 0 (some (.object cs11)) ws rR0_0_0_0 Z h0 #[] (Q69_1 Z r0 h0 n0) := by
  refine own_open (plainFor_of_name pn_java_util_List) (L0 := #[]) (fun _ => by first | (simp [entryFrame, mkF, argsToLocals, Value.category]; done) | rfl) ?_
  intro p e s m below meth c s₁ hx hby hml hret hnn hZ hown X0 e0
  have N0 := Fr.nil n0
  have f2 := f1.ext O0.2
  obtain ⟨T3, X3, e3, st3⟩ := getS2 X0 hx hZ hown (host := "") (Or.inl (ww hw 418 rfl)) Via.refl e0 f2 (g := (mkF m 0 #[] [])) rfl (hb hby d69_0)
  refine ⟨some (.ref r0), _, _, _, _, nofun, X3, by decide, by decide, ?_, fun fs hr => ?_⟩
  · rw [e3]; exact ⟨rfl, N0, rfl⟩
  · show SG p e below s₁ (mkF m 0 #[] []) _
    refine st3 _ ?_
    exact retOut X3 hx (i := .areturn) hret rfl (Or.inr (Or.inr (Or.inr (Or.inr ⟨rfl, rfl, rfl⟩)))) (hb hby d69_3) hr
theorem pd___Ljava_util_List_ : parseMethodDescriptor "()Ljava/util/List;" = some ⟨[], some (.object "java/util/List")⟩ := by decide +kernel
theorem d18_43 : DK cB18 43 (.areturn) 1 := by decide +kernel
theorem pn_java_util_ImmutableCollections : plainName "java/util/ImmutableCollections" = true := by first | (simp [plainName, overriddenIn]; done) | decide +kernel
def Q18_1 (Z : State) (r1 : Addr) (h0 : Heap) (n0 : Nat) (v : Option Value) (h : Heap) (L : List Loc) : Prop := v = some (.ref r1) ∧ Fr n0 L ∧ h = h0
theorem rm18_1 (l : Launch) (Z : State) (a0 : Array Value) (hw : own_HW a0 Z) (ws : List Jvm.Cond) (r0 r1 : Addr) (h0 : Heap) (n0 : Nat) (O0 : Old Z n0 h0) (f1 : Exa Z h0 r0 cs2) (f4 : Fld Z h0 r0 cs2 "size" "I" vI0) (f6 : Sta Z Z.heap cs12 cs13 cs14 (.ref r1)) :
    own_MF l mN7 jdk_56_method_3_code 2 (some (.object cs11)) ws rR1_0_0_12 Z h0 #[(.ref r0)] (Q18_1 Z r1 h0 n0) := by
  refine own_open (plainFor_of_name pn_java_util_ImmutableCollections) (L0 := #[lR r0, lU]) (fun _ => by first | (simp [entryFrame, mkF, argsToLocals, Value.category]; done) | rfl) ?_
  intro p e s m below meth c s₁ hx hby hml hret hnn hZ hown X0 e0
  have N0 := Fr.nil n0; have w := @ww Z a0 hw
  obtain ⟨T2, X2, e2, st2⟩ := instNo X0 hx hZ hown (w 107 rfl) e0 f1 (own_NSno (w 108 rfl) (w 156 rfl) (NS.step (w 108 rfl) (NS.step (w 109 rfl) (NS.step (w 110 rfl) (own_NSroot (w 111 rfl) (w 156 rfl) (by decide)) (by decide)) (by decide)) (by decide)) (by decide)) (g := (mkF m 1 #[lR r0, lU] [(.ref r0)])) rfl rfl (hb hby d18_1)
  obtain ⟨T3, X3, e3, st3⟩ := instNo X2 hx hZ hown (w 112 rfl) e2 f1 (own_NSnoS (w 108 rfl) (w 421 rfl) rfl (NS.step (w 108 rfl) (NS.step (w 109 rfl) (NS.step (w 110 rfl) (own_NSrootS (w 111 rfl) (w 421 rfl) rfl (by decide)) (by decide)) (by decide)) (by decide)) (by decide)) (g := (mkF m 8 #[lR r0, lU] [(.ref r0)])) rfl rfl (hb hby d18_8)
  obtain ⟨_, T5, Lc5, X5, hQ5, st5⟩ := own_cI (xi := mN8) X3 hx hZ hown e3 (rm19_1 l Z a0 hw [] r0 h0 n0 O0 f4) f1 (w 113 rfl) (w 114 rfl) (w 115 rfl) (w 116 rfl) (w 117 rfl) (w 118 rfl) (w 119 rfl) (w 120 rfl) (w 121 rfl) (w 33 rfl) (by decide) (W := 0) (by decide) (by decide) (by decide) (by decide) (g := (mkF m 32 #[lR r0, lU] [(.ref r0)])) rfl (by rw [hml]; rfl) (argsL := []) (rest := []) (lenOf pd___Z rfl) rfl (own_W rfl) (hb hby d18_32)
  obtain ⟨rfl, N5q, E5⟩ := hQ5
  have N5 := Fr.app N0 N5q
  obtain ⟨_, T7, Lc7, X7, hQ7, st7⟩ := own_cS X5 hx hZ hown E5 (rm69_1 l Z a0 hw [] r1 h0 n0 O0 f6) (w 415 rfl) (w 416 rfl) (w 101 rfl) (w 417 rfl) (by decide) (W := 0) (by decide) (by decide) (by decide) (by decide) (g := (mkF m 40 #[lR r0, lU] [])) rfl (by rw [hml]; rfl) (argsL := []) (rest := []) (lenOf pd___Ljava_util_List_ rfl) rfl (own_W rfl) (hb hby d18_40)
  obtain ⟨rfl, N7q, E7⟩ := hQ7
  have N7 := Fr.app N5 N7q
  refine ⟨some (.ref r1), _, _, _, _, nofun, X7, by decide, by decide, ?_, fun fs hr => ?_⟩
  · rw [E7]; exact ⟨rfl, N7, rfl⟩
  · show SG p e below s₁ (mkF m 0 #[lR r0, lU] []) _
    refine qaN X0 hx hby d18_0 ?_
    refine st2 _ ?_
    refine XS.ifNo X2.here hx rfl (hb hby d18_4) rfl ((if0 _ _).trans (teq (rfl : (0 : Int32) = (0 : Int32))).2) ?_
    refine qaN X2 hx hby d18_7 ?_
    refine st3 _ ?_
    refine XS.ifYes X3.here hx rfl (pc0 := 11) (pc' := 31) rfl (hb hby d18_11) rfl ((if0 _ _).trans (teq (rfl : (0 : Int32) = (0 : Int32))).1) (by decide) (by decide) ?_
    refine qaN X3 hx hby d18_31 ?_
    refine st5 _ ?_
    refine XS.ifNo X5.here hx rfl (hb hby d18_37) rfl ((if0 _ _).trans (feq (by decide : ¬ ((1 : Int32) = (0 : Int32)))).1) ?_
    refine st7 _ ?_
    exact retOut X7 hx (i := .areturn) hret rfl (Or.inr (Or.inr (Or.inr (Or.inr ⟨rfl, rfl, rfl⟩)))) (hb hby d18_43) hr
theorem pd__Ljava_util_Collection__Ljava_util_List_ : parseMethodDescriptor "(Ljava/util/Collection;)Ljava/util/List;" = some ⟨[(.object "java/util/Collection")], some (.object "java/util/List")⟩ := by decide +kernel
theorem d17_4 : DK cB17 4 (.areturn) 1 := by decide +kernel
def Q17_1 (Z : State) (r1 : Addr) (h0 : Heap) (n0 : Nat) (v : Option Value) (h : Heap) (L : List Loc) : Prop := v = some (.ref r1) ∧ Fr n0 L ∧ h = h0
theorem rm17_1 (l : Launch) (Z : State) (a0 : Array Value) (hw : own_HW a0 Z) (ws : List Jvm.Cond) (r0 r1 : Addr) (h0 : Heap) (n0 : Nat) (O0 : Old Z n0 h0) (f1 : Exa Z h0 r0 cs2) (f2 : Fld Z h0 r0 cs2 "size" "I" vI0) (f3 : Sta Z Z.heap cs12 cs13 cs14 (.ref r1)) :
    own_MF l mN9 jdk_40_method_48_code 1 (some (.object cs11)) ws rR2_0_0_25 Z h0 #[(.ref r0)] (Q17_1 Z r1 h0 n0) := by
  refine own_open (plainFor_of_name pn_java_util_List) (L0 := #[lR r0]) (fun _ => by first | (simp [entryFrame, mkF, argsToLocals, Value.category]; done) | rfl) ?_
  intro p e s m below meth c s₁ hx hby hml hret hnn hZ hown X0 e0
  have N0 := Fr.nil n0
  obtain ⟨_, T4, Lc4, X4, hQ4, st4⟩ := own_cS X0 hx hZ hown e0 (rm18_1 l Z a0 hw [] r0 r1 h0 n0 O0 f1 f2 f3) (ww hw 103 rfl) (ww hw 104 rfl) (ww hw 105 rfl) (ww hw 106 rfl) (by decide) (W := 0) (by decide) (by decide) (by decide) (by decide) (g := (mkF m 1 #[lR r0] [(.ref r0)])) rfl (by rw [hml]; rfl) (argsL := [(.ref r0)]) (rest := []) (lenOf pd__Ljava_util_Collection__Ljava_util_List_ rfl) rfl (own_W rfl) (hb hby d17_1)
  obtain ⟨rfl, N4q, E4⟩ := hQ4
  have N4 := Fr.app N0 N4q
  refine ⟨some (.ref r1), _, _, _, _, nofun, X4, by decide, by decide, ?_, fun fs hr => ?_⟩
  · rw [E4]; exact ⟨rfl, N4, rfl⟩
  · show SG p e below s₁ (mkF m 0 #[lR r0] []) _
    refine qaN X0 hx hby d17_0 ?_
    refine st4 _ ?_
    exact retOut X4 hx (i := .areturn) hret rfl (Or.inr (Or.inr (Or.inr (Or.inr ⟨rfl, rfl, rfl⟩)))) (hb hby d17_4) hr
theorem d16_14 : DK cB16 14 (.putfield 19) 3 := by decide +kernel
theorem d16_17 : DK cB16 17 (.return_) 1 := by decide +kernel
theorem pn_com_example_innerkey_innerkey_InternalCallDetails : plainName "com/example/innerkey/innerkey/InternalCallDetails" = true := by first | (simp [plainName, overriddenIn]; done) | decide +kernel
def Q16_1 (Z : State) (r0 r1 r3 : Addr) (h0 : Heap) (n0 : Nat) (v : Option Value) (h : Heap) (L : List Loc) : Prop := v = none ∧ Fr n0 L ∧ Keep h0 h [r0] ∧ Fld Z h r0 cs17 "key" cs18 (.ref r1) ∧ Fld Z h r0 cs17 cs19 cs20 (.ref r3)
theorem rm16_1 (l : Launch) (Z : State) (a0 : Array Value) (hw : own_HW a0 Z) (ws : List Jvm.Cond) (r0 r1 : Addr) (r2 r3 : Addr) (h0 : Heap) (n0 : Nat) (O0 : Old Z n0 h0) (f2 : Exa Z h0 r0 cs17) (f3 : Fld Z h0 r0 cs17 "key" cs18 .null) (g4 : n0 ≤ r0) (f6 : Exa Z h0 r2 cs2) (f8 : Fld Z h0 r2 cs2 "size" "I" vI0) (n9 : r2 ≠ r0) (f11 : Sta Z Z.heap cs12 cs13 cs14 (.ref r3)) (f15 : Fld Z h0 r0 cs17 cs19 cs20 .null) :
    own_MF l mN10 prog_4_method_1_code 3 none ws rR3_0_0_38 Z h0 #[(.ref r0), (.ref r1), (.ref r2)] (Q16_1 Z r0 r1 r3 h0 n0) := by
  refine own_open (plainFor_of_name pn_com_example_innerkey_innerkey_InternalCallDetails) (L0 := #[lR r0, lR r1, lR r2]) (fun _ => by first | (simp [entryFrame, mkF, argsToLocals, Value.category]; done) | rfl) ?_
  intro p e s m below meth c s₁ hx hby hml hret hnn hZ hown X0 e0
  have N0 := Fr.nil n0; have w := @ww Z a0 hw
  have hnm := (name_of_methodNamed hnn.1 hnn.2).1
  obtain ⟨T1, X1, e1, st1⟩ := initO X0 hx hZ hown (w 96 rfl) (w 13 rfl) (w 14 rfl) e0 (g := (mkF m 1 #[lR r0, lR r1, lR r2] [(.ref r0)])) rfl (by rw [hml]; rfl) rfl (hb hby d16_1) (by decide) (W := 0) (own_W rfl) (by decide)
  obtain ⟨T5, h5, X5, e5, W5, st5⟩ := putF X1 hx hZ hown (host := "") (Or.inl (w 97 rfl)) Via.refl e1 f3 f2 (Or.inr ⟨(w 98 rfl), rfl, hnm⟩) (w 91 rfl) (ty := (.object cs8)) (by decide) rfl rfl (g := (mkF m 6 #[lR r0, lR r1, lR r2] [(.ref r1), (.ref r0)])) rfl rfl (hb hby d16_6)
  have Fw5 := f3.same W5
  have N5 := Fr.snoc X5 N0 g4
  have f7 := (f6.wr W5)
  have f10 := (f8.other W5 (Or.inl n9))
  have o12 := Old.wr O0 W5 g4
  obtain ⟨_, T13, Lc13, X13, hQ13, st13⟩ := own_cS X5 hx hZ hown e5 (rm17_1 l Z a0 hw [] r2 r3 h5 n0 o12 f7 f10 f11) (w 99 rfl) (w 100 rfl) (w 101 rfl) (w 102 rfl) (by decide) (W := 1) (by decide) (by decide) (by decide) (by decide) (g := (mkF m 11 #[lR r0, lR r1, lR r2] [(.ref r2), (.ref r0)])) rfl (by rw [hml]; rfl) (argsL := [(.ref r2)]) (rest := [(.ref r0)]) (lenOf pd__Ljava_util_Collection__Ljava_util_List_ rfl) rfl (own_W rfl) (hb hby d16_11)
  obtain ⟨rfl, N13q, E13⟩ := hQ13
  have N13 := Fr.app N5 N13q
  have f14 := (f2.wr W5)
  have f16 := (f15.other W5 (Or.inr (slot_ne (Or.inr (w 186 rfl)) (Or.inr (w 98 rfl)) (by decide) (t := (.object cs11)) (t' := (.object cs8)) (by decide) (by decide))))
  obtain ⟨T17, h17, X17, e17, W17, st17⟩ := putF X13 hx hZ hown (host := "") (Or.inl (w 185 rfl)) Via.refl E13 f16 f14 (Or.inr ⟨(w 186 rfl), rfl, hnm⟩) (w 91 rfl) (ty := (.object cs11)) (by decide) rfl rfl (g := (mkF m 14 #[lR r0, lR r1, lR r2] [(.ref r3), (.ref r0)])) rfl rfl (hb hby d16_14)
  have Fw17 := f16.same W17
  have N17 := Fr.snoc X17 N13 g4
  have f18 := (Fw5.other W17 (Or.inr (slot_ne (Or.inr (w 98 rfl)) (Or.inr (w 186 rfl)) (by decide) (t := (.object cs8)) (t' := (.object cs11)) (by decide) (by decide))))
  have kp19 : Keep h0 h5 [r0] := (Keep.refl h0 [r0]).wr W5 (Or.inl (List.mem_of_getElem? (i := 0) rfl))
  have kp20 : Keep h0 h17 [r0] := kp19.wr W17 (Or.inl (List.mem_of_getElem? (i := 0) rfl))
  refine ⟨none, _, _, _, _, (fun _ => rfl), X17, by decide, by decide, ?_, fun fs hr => ?_⟩
  · rw [e17]; exact ⟨rfl, N17, kp20, f18, Fw17⟩
  · show SG p e below s₁ (mkF m 0 #[lR r0, lR r1, lR r2] []) _
    refine qaN X0 hx hby d16_0 ?_
    refine st1 _ ?_
    refine qaN X1 hx hby d16_4 ?_
    refine qaN X1 hx hby d16_5 ?_
    refine st5 _ ?_
    refine qaN X5 hx hby d16_9 ?_
    refine qaN X5 hx hby d16_10 ?_
    refine st13 _ ?_
    refine st17 _ ?_
    exact X17.returnOut hx hret (hb hby d16_17) hr
theorem pd__Ljava_lang_String_Ljava_util_List__V : parseMethodDescriptor "(Ljava/lang/String;Ljava/util/List;)V" = some ⟨[(.object "java/lang/String"), (.object "java/util/List")], none⟩ := by decide +kernel
theorem d29_0 : DK cB29 0 (.new 23) 3 := by decide +kernel
theorem d29_3 : DK cB29 3 (.dup) 1 := by decide +kernel
theorem d29_4 : DK cB29 4 (.invokespecial 25) 3 := by decide +kernel
theorem d30_0 : DK cB30 0 (.aload_n 0) 1 := by decide +kernel
theorem d30_1 : DK cB30 1 (.bipush 16) 2 := by decide +kernel
theorem d30_3 : DK cB30 3 (.invokespecial 1) 3 := by decide +kernel
theorem d31_0 : DK cB31 0 (.aload_n 0) 1 := by decide +kernel
theorem d31_1 : DK cB31 1 (.invokespecial 3) 3 := by decide +kernel
theorem d31_4 : DK cB31 4 (.getstatic 18) 3 := by decide +kernel
theorem d31_7 : DK cB31 7 (.ifCond .eq 18) 3 := by decide +kernel
theorem d31_10 : DK cB31 10 (.aload_n 0) 1 := by decide +kernel
theorem d31_11 : DK cB31 11 (.iload_n 1) 1 := by decide +kernel
theorem d31_12 : DK cB31 12 (.newarray .byte) 2 := by decide +kernel
theorem d31_14 : DK cB31 14 (.putfield 15) 3 := by decide +kernel
theorem d31_17 : DK cB31 17 (.aload_n 0) 1 := by decide +kernel
theorem d31_18 : DK cB31 18 (.iconst 0) 1 := by decide +kernel
theorem d31_19 : DK cB31 19 (.putfield 22) 3 := by decide +kernel
theorem d31_22 : DK cB31 22 (.goto 16) 3 := by decide +kernel
theorem d31_38 : DK cB31 38 (.return_) 1 := by decide +kernel
theorem pn_java_lang_AbstractStringBuilder : plainName "java/lang/AbstractStringBuilder" = true := by first | (simp [plainName, overriddenIn]; done) | decide +kernel
def Q31_1 (Z : State) (r0 : Addr) (h0 : Heap) (n0 : Nat) (v : Option Value) (h : Heap) (L : List Loc) : Prop := ∃ (b6 : Addr) (k6 : ClassId), v = none ∧ Fr n0 L ∧ Keep h0 h [r0] ∧ Fld Z h r0 cs22 "value" "[B" (.ref b6) ∧ Fld Z h r0 cs22 "coder" "B" vI0 ∧ Fld Z h r0 cs22 "count" "I" vI0 ∧ h0.size ≤ b6 ∧ Arv Z h b6 k6 .byte (16 : Int32) [vI0, vI0, vI0, vI0, vI0, vI0, vI0, vI0, vI0, vI0, vI0, vI0, vI0, vI0, vI0, vI0] vI0 ∧ Exa Z h b6 "[B"
theorem rm31_1 (l : Launch) (Z : State) (a0 : Array Value) (hw : own_HW a0 Z) (ws : List Jvm.Cond) (r0 : Addr) (x1 : Int32) (h0 : Heap) (n0 : Nat) (O0 : Old Z n0 h0) (f2 : Sta Z Z.heap cs8 cs9 "Z" (.int x1)) (hc5 : ¬ (x1 = (0 : Int32))) (f7 : Exa Z h0 r0 cs23) (f9 : Fld Z h0 r0 cs22 "value" "[B" .null) (g11 : n0 ≤ r0) (f14 : Fld Z h0 r0 cs22 "coder" "B" vI0) (f17 : Fld Z h0 r0 cs22 "count" "I" vI0) (l20 : r0 < h0.size) :
    own_MF l mN11 jdk_68_method_2_code 2 none ws rR1_1_16_12 Z h0 #[(.ref r0), vI16] (Q31_1 Z r0 h0 n0) := by
  refine own_open (plainFor_of_name pn_java_lang_AbstractStringBuilder) (L0 := #[lR r0, lV vI16]) (fun _ => by first | (simp [entryFrame, mkF, argsToLocals, Value.category]; done) | rfl) ?_
  intro p e s m below meth c s₁ hx hby hml hret hnn hZ hown X0 e0
  have N0 := Fr.nil n0; have w := @ww Z a0 hw
  obtain ⟨T1, X1, e1, st1⟩ := initO X0 hx hZ hown (w 204 rfl) (w 13 rfl) (w 14 rfl) e0 (g := (mkF m 1 #[lR r0, lV vI16] [(.ref r0)])) rfl (by rw [hml]; rfl) rfl (hb hby d31_1) (by decide) (W := 0) (own_W rfl) (by decide)
  have f3 := f2.ext O0.2
  obtain ⟨T4, X4, e4, st4⟩ := getS2 X1 hx hZ hown (host := "") (Or.inl (w 205 rfl)) Via.refl e1 f3 (g := (mkF m 4 #[lR r0, lV vI16] [])) rfl (hb hby d31_4)
  obtain ⟨T6, h6, k6, X6, e6, E6, A6, B6, st6⟩ := newPE X4 hx hZ (w 20 rfl) e4 (g := (mkF m 12 #[lR r0, lV vI16] [vI16, (.ref r0)])) rfl (hb hby d31_12) rfl (by decide) (cap := 16) (by decide) (by decide) (by decide) (by decide) (ad := "[B") rfl
  obtain ⟨b6, g6⟩ : ∃ z, z = h0.size := ⟨_, rfl⟩
  rw [← g6] at A6 B6 st6
  have V6 : Arv Z h6 b6 k6 .byte (16 : Int32) [vI0, vI0, vI0, vI0, vI0, vI0, vI0, vI0, vI0, vI0, vI0, vI0, vI0, vI0, vI0, vI0] vI0 := (Arv.new A6 (by decide)).pad (pad_rep [] vI0 16)
  have f8 := (f7.ext E6)
  have f10 := (f9.ext E6)
  obtain ⟨T12, h12, X12, e12, W12, st12⟩ := putF X6 hx hZ hown (host := "") (Or.inl (w 206 rfl)) Via.refl e6 f10 f8 (Or.inl (w 207 rfl)) (w 193 rfl) (ty := (.array .byte)) (by decide) rfl rfl (g := (mkF m 14 #[lR r0, lV vI16] [(.ref b6), (.ref r0)])) rfl rfl (hb hby d31_14)
  have Fw12 := f10.same W12
  have N12 := Fr.snoc X12 N0 g11
  have f13 := (f8.wr W12)
  have f15 := ((f14.ext E6).other W12 (Or.inr (slot_ne (Or.inl (w 209 rfl)) (Or.inl (w 207 rfl)) (by decide) (t := .byte) (t' := (.array .byte)) (by decide) (by decide))))
  obtain ⟨T16, h16, X16, e16, W16, st16⟩ := putFN X12 hx hZ hown (w 208 rfl) Via.refl e12 f15 f13 (Or.inl (w 209 rfl)) (w 193 rfl) (ty := .byte) (v' := vI0) (by decide) rfl (by decide) (g := (mkF m 19 #[lR r0, lV vI16] [vI0, (.ref r0)])) rfl rfl (hb hby d31_19)
  have Fw16 := f15.same W16
  have N16 := Fr.snoc X16 N12 g11
  have f18 := (((f17.ext E6).other W12 (Or.inr (slot_ne (Or.inl (w 234 rfl)) (Or.inl (w 207 rfl)) (by decide) (t := .int) (t' := (.array .byte)) (by decide) (by decide)))).other W16 (Or.inr (slot_ne (Or.inl (w 234 rfl)) (Or.inl (w 209 rfl)) (by decide) (t := .int) (t' := .byte) (by decide) (by decide))))
  have f19 := (Fw12.other W16 (Or.inr (slot_ne (Or.inl (w 207 rfl)) (Or.inl (w 209 rfl)) (by decide) (t := (.array .byte)) (t' := .byte) (by decide) (by decide))))
  have n21 := Nat.ne_of_lt (Nat.lt_of_lt_of_le l20 (Nat.le_of_eq g6.symm))
  have f22 := ((V6.other W12 (Ne.symm n21)).other W16 (Ne.symm n21))
  have f23 := ((B6.wr W12).wr W16)
  have kp24 : Keep h0 h6 [r0] := (Keep.refl h0 [r0]).ext E6
  have kp25 : Keep h0 h12 [r0] := kp24.wr W12 (Or.inl (List.mem_of_getElem? (i := 0) rfl))
  have kp26 : Keep h0 h16 [r0] := kp25.wr W16 (Or.inl (List.mem_of_getElem? (i := 0) rfl))
  refine ⟨none, _, _, _, _, (fun _ => rfl), X16, by decide, by decide, ?_, fun fs hr => ?_⟩
  · rw [e16]; exact ⟨b6, k6, rfl, N16, kp26, f19, Fw16, f18, (Nat.le_of_eq g6.symm), f22, f23⟩
  · show SG p e below s₁ (mkF m 0 #[lR r0, lV vI16] []) _
    refine qaN X0 hx hby d31_0 ?_
    refine st1 _ ?_
    refine st4 _ ?_
    refine XS.ifNo X4.here hx rfl (hb hby d31_7) rfl ((if0 _ _).trans (feq hc5).1) ?_
    refine qaN X4 hx hby d31_10 ?_
    refine qiN X4 hx hby d31_11 ?_
    refine st6 _ ?_
    refine st12 _ ?_
    refine qaN X12 hx hby d31_17 ?_
    refine qc X12 hx hby d31_18 ?_
    refine st16 _ ?_
    refine XS.goto X16.here hx rfl (pc0 := 22) (pc' := 38) rfl (hb hby d31_22) (by decide) (by decide) ?_
    exact X16.returnOut hx hret (hb hby d31_38) hr
theorem pd__I_V : parseMethodDescriptor "(I)V" = some ⟨[.int], none⟩ := by decide +kernel
theorem d30_6 : DK cB30 6 (.return_) 1 := by decide +kernel
theorem pn_java_lang_StringBuilder : plainName "java/lang/StringBuilder" = true := by first | (simp [plainName, overriddenIn]; done) | decide +kernel
def Q30_1 (Z : State) (r0 : Addr) (h0 : Heap) (n0 : Nat) (v : Option Value) (h : Heap) (L : List Loc) : Prop := ∃ (b9_0 : Addr) (k9_0 : ClassId), v = none ∧ Fr n0 L ∧ Keep h0 h [r0] ∧ Fld Z h r0 cs22 "value" "[B" (.ref b9_0) ∧ Fld Z h r0 cs22 "coder" "B" vI0 ∧ Fld Z h r0 cs22 "count" "I" vI0 ∧ h0.size ≤ b9_0 ∧ Arv Z h b9_0 k9_0 .byte (16 : Int32) [vI0, vI0, vI0, vI0, vI0, vI0, vI0, vI0, vI0, vI0, vI0, vI0, vI0, vI0, vI0, vI0] vI0 ∧ Exa Z h b9_0 "[B"
theorem rm30_1 (l : Launch) (Z : State) (a0 : Array Value) (hw : own_HW a0 Z) (ws : List Jvm.Cond) (r0 : Addr) (x1 : Int32) (h0 : Heap) (n0 : Nat) (O0 : Old Z n0 h0) (f1 : Sta Z Z.heap cs8 cs9 "Z" (.int x1)) (hc2 : ¬ (x1 = (0 : Int32))) (f3 : Exa Z h0 r0 cs23) (f4 : Fld Z h0 r0 cs22 "value" "[B" .null) (g5 : n0 ≤ r0) (f6 : Fld Z h0 r0 cs22 "coder" "B" vI0) (f7 : Fld Z h0 r0 cs22 "count" "I" vI0) (l8 : r0 < h0.size) :
    own_MF l mN12 jdk_67_method_1_code 1 none ws rR2_1_16_25 Z h0 #[(.ref r0)] (Q30_1 Z r0 h0 n0) := by
  refine own_open (plainFor_of_name pn_java_lang_StringBuilder) (L0 := #[lR r0]) (fun _ => by first | (simp [entryFrame, mkF, argsToLocals, Value.category]; done) | rfl) ?_
  intro p e s m below meth c s₁ hx hby hml hret hnn hZ hown X0 e0
  have N0 := Fr.nil n0; have w := @ww Z a0 hw
  obtain ⟨_, T9, Lc9, X9, hQ9, st9⟩ := own_fin (X0.specialBack hx (y := mN11) rfl hown (mvT hZ (w 198 rfl)) (mvT hZ (w 199 rfl)) (mvT hZ (w 203 rfl)) (by decide) (backOf (W := 0) (rm31_1 l Z a0 hw [] r0 x1 h0 n0 O0 f1 hc2 f3 f4 g5 f6 f7 l8) hZ (w 203 rfl) (w 202 rfl) (by decide) (by decide)) (g := (mkF m 3 #[lR r0] [vI16, (.ref r0)])) rfl (by rw [hml]; rfl) (Steps.refl _) (a := r0) (argsL := [vI16]) (rest := []) (lenOf pd__I_V rfl) rfl (own_W rfl) (hb hby d30_3) (fun _ _ => ⟨rfl, e0, (by decide : 0 + 1 ≤ _), (by decide : 0 + 16 ≤ _)⟩))
  obtain ⟨b9_0, k9_0, rfl, N9q, K9, f10, f11, f12, f13, f14, f15⟩ := hQ9
  have N9 := Fr.app N0 N9q
  have kp16 : Keep h0 T9.heap [r0] := (Keep.refl h0 [r0]).trans K9 (allS (Or.inl (List.mem_of_getElem? (i := 0) rfl)) all0)
  refine ⟨none, _, _, _, _, (fun _ => rfl), X9, by decide, by decide, ?_, fun fs hr => ?_⟩
  · exact ⟨b9_0, k9_0, rfl, N9, kp16, f10, f11, f12, f13, f14, f15⟩
  · show SG p e below s₁ (mkF m 0 #[lR r0] []) _
    refine qaN X0 hx hby d30_0 ?_
    refine qb X0 hx hby d30_1 ?_
    refine st9.trans ?_
    exact X9.returnOut hx hret (hb hby d30_6) hr
theorem d29_7 : DK cB29 7 (.ldc 26) 2 := by decide +kernel
theorem own_str : ∀ a ∈ Bundle.stringAtoms, a ∈ tables_1 := by decide +kernel
theorem d29_9 : DK cB29 9 (.invokevirtual 28) 3 := by decide +kernel
theorem d32_0 : DK cB32 0 (.aload_n 0) 1 := by decide +kernel
theorem d32_1 : DK cB32 1 (.aload_n 1) 1 := by decide +kernel
theorem d32_2 : DK cB32 2 (.invokespecial 29) 3 := by decide +kernel
theorem d33_0 : DK cB33 0 (.aload_n 1) 1 := by decide +kernel
theorem d33_1 : DK cB33 1 (.ifnonnull 8) 3 := by decide +kernel
theorem d33_9 : DK cB33 9 (.aload_n 1) 1 := by decide +kernel
theorem d33_10 : DK cB33 10 (.invokevirtual 32) 3 := by decide +kernel
theorem d34_0 : DK cB34 0 (.aload_n 0) 1 := by decide +kernel
theorem d34_1 : DK cB34 1 (.getfield 9) 3 := by decide +kernel
theorem d34_4 : DK cB34 4 (.arraylength) 1 := by decide +kernel
theorem d34_5 : DK cB34 5 (.aload_n 0) 1 := by decide +kernel
theorem d34_6 : DK cB34 6 (.invokevirtual 335) 3 := by decide +kernel
theorem d35_0 : DK cB35 0 (.getstatic 38) 3 := by decide +kernel
theorem d35_3 : DK cB35 3 (.ifCond .eq 10) 3 := by decide +kernel
theorem d35_6 : DK cB35 6 (.aload_n 0) 1 := by decide +kernel
theorem d35_7 : DK cB35 7 (.getfield 15) 3 := by decide +kernel
theorem d35_10 : DK cB35 10 (.goto 4) 3 := by decide +kernel
theorem d35_14 : DK cB35 14 (.ireturn) 1 := by decide +kernel
theorem pn_java_lang_String : plainName "java/lang/String" = true := by first | (simp [plainName, overriddenIn]; done) | decide +kernel
def Q35_1 (Z : State) (x2 : Int32) (h0 : Heap) (n0 : Nat) (v : Option Value) (h : Heap) (L : List Loc) : Prop := v = some (.int (nar .byte x2)) ∧ Fr n0 L ∧ h = h0
theorem rm35_1 (l : Launch) (Z : State) (a0 : Array Value) (hw : own_HW a0 Z) (ws : List Jvm.Cond) (r0 : Addr) (x1 x2 : Int32) (h0 : Heap) (n0 : Nat) (O0 : Old Z n0 h0) (f1 : Sta Z Z.heap cs8 cs9 "Z" (.int x1)) (hc4 : ¬ (x1 = (0 : Int32))) (f5 : Fld Z h0 r0 cs8 "coder" "B" (.int x2)) :
    own_MF l mN13 jdk_42_method_152_code 1 (some .byte) ws rR0_0_0_0 Z h0 #[(.ref r0)] (Q35_1 Z x2 h0 n0) := by
  refine own_open (plainFor_of_name pn_java_lang_String) (L0 := #[lR r0]) (fun _ => by first | (simp [entryFrame, mkF, argsToLocals, Value.category]; done) | rfl) ?_
  intro p e s m below meth c s₁ hx hby hml hret hnn hZ hown X0 e0
  have N0 := Fr.nil n0
  have f2 := f1.ext O0.2
  obtain ⟨T3, X3, e3, st3⟩ := getS2 X0 hx hZ hown (host := "") (Or.inl (ww hw 15 rfl)) Via.refl e0 f2 (g := (mkF m 0 #[lR r0] [])) rfl (hb hby d35_0)
  obtain ⟨T6, X6, e6, st6⟩ := getF X3 hx hZ hown (host := "") (Or.inl (ww hw 27 rfl)) Via.refl e3 f5 (g := (mkF m 7 #[lR r0] [(.ref r0)])) rfl rfl (hb hby d35_7)
  refine ⟨some (.int (nar .byte x2)), _, _, _, _, nofun, X6, by decide, by decide, ?_, fun fs hr => ?_⟩
  · rw [e6]; exact ⟨rfl, N0, rfl⟩
  · show SG p e below s₁ (mkF m 0 #[lR r0] []) _
    refine st3 _ ?_
    refine XS.ifNo X3.here hx rfl (hb hby d35_3) rfl ((if0 _ _).trans (feq hc4).1) ?_
    refine qaN X3 hx hby d35_6 ?_
    refine st6 _ ?_
    refine XS.goto X6.here hx rfl (pc0 := 10) (pc' := 14) rfl (hb hby d35_10) (by decide) (by decide) ?_
    exact retN X6 hx (t := .byte) hret (by simp) (hb hby d35_14) hr
theorem pd___B : parseMethodDescriptor "()B" = some ⟨[], some .byte⟩ := by decide +kernel
theorem d34_9 : DK cB34 9 (.ishr) 1 := by decide +kernel
theorem d34_10 : DK cB34 10 (.ireturn) 1 := by decide +kernel
def Q34_1 (Z : State) (x2 x6 : Int32) (h0 : Heap) (n0 : Nat) (v : Option Value) (h : Heap) (L : List Loc) : Prop := v = some (.int (x2 >>> ((nar .byte x6) &&& 31))) ∧ Fr n0 L ∧ h = h0
theorem rm34_1 (l : Launch) (Z : State) (a0 : Array Value) (hw : own_HW a0 Z) (ws : List Jvm.Cond) (r0 r1 : Addr) (x2 : Int32) (c3 : ClassId) (t4 : List Value) (x5 x6 : Int32) (h0 : Heap) (n0 : Nat) (O0 : Old Z n0 h0) (f1 : Fld Z h0 r0 cs8 "value" "[B" (.ref r1)) (f3 : Arv Z h0 r1 c3 .byte x2 t4 vI0) (f5 : Exa Z h0 r0 cs8) (f6 : Sta Z Z.heap cs8 cs9 "Z" (.int x5)) (hc7 : ¬ (x5 = (0 : Int32))) (f8 : Fld Z h0 r0 cs8 "coder" "B" (.int x6)) :
    own_MF l mN14 jdk_42_method_54_code 1 (some .int) ws rR1_0_0_13 Z h0 #[(.ref r0)] (Q34_1 Z x2 x6 h0 n0) := by
  refine own_open (plainFor_of_name pn_java_lang_String) (L0 := #[lR r0]) (fun _ => by first | (simp [entryFrame, mkF, argsToLocals, Value.category]; done) | rfl) ?_
  intro p e s m below meth c s₁ hx hby hml hret hnn hZ hown X0 e0
  have N0 := Fr.nil n0; have w := @ww Z a0 hw
  obtain ⟨T2, X2, e2, st2⟩ := getF X0 hx hZ hown (host := "") (Or.inl (w 29 rfl)) Via.refl e0 f1 (g := (mkF m 1 #[lR r0] [(.ref r0)])) rfl rfl (hb hby d34_1)
  obtain ⟨clq4, Arq4, qq4, Sq4, Nq4, Hq4, Gq4⟩ := id f3
  obtain ⟨_, T9, Lc9, X9, hQ9, st9⟩ := own_cV X2 hx hZ hown e2 (rm35_1 l Z a0 hw [] r0 x5 x6 h0 n0 O0 f6 hc7 f8) f5 (w 228 rfl) (w 229 rfl) (w 231 rfl) (w 230 rfl) (w 232 rfl) (w 3 rfl) (by decide) (W := 1) (by decide) (by decide) (by decide) (by decide) (g := (mkF m 6 #[lR r0] [(.ref r0), (.int x2)])) rfl (by rw [hml]; rfl) (argsL := []) (rest := [(.int x2)]) (lenOf pd___B rfl) rfl (own_W rfl) (hb hby d34_6)
  obtain ⟨rfl, N9q, E9⟩ := hQ9
  have N9 := Fr.app N0 N9q
  refine ⟨some (.int (x2 >>> ((nar .byte x6) &&& 31))), _, _, _, _, nofun, X9, by decide, by decide, ?_, fun fs hr => ?_⟩
  · rw [E9]; exact ⟨rfl, N9, rfl⟩
  · show SG p e below s₁ (mkF m 0 #[lR r0] []) _
    refine qaN X0 hx hby d34_0 ?_
    refine st2 _ ?_
    refine X2.arraylength hx (by rw [e2]; exact Arq4.1) (State.isArrayOf_alike hZ.alike Arq4.2.1) (g := (mkF m 4 #[lR r0] [(.ref r1)])) rfl rfl (hb hby d34_4) _ ?_
    rw [len_of Sq4 Nq4]
    refine qaN X2 hx hby d34_5 ?_
    refine st9 _ ?_
    refine XS.ishr X9.here hx rfl (hb hby d34_9) rfl ?_
    exact retOut X9 hx (i := .ireturn) hret rfl (Or.inl ⟨rfl, Or.inl rfl, _, rfl⟩) (hb hby d34_10) hr
theorem pd___I : parseMethodDescriptor "()I" = some ⟨[], some .int⟩ := by decide +kernel
theorem d33_13 : DK cB33 13 (.istore_n 2) 1 := by decide +kernel
theorem d33_14 : DK cB33 14 (.aload_n 0) 1 := by decide +kernel
theorem d33_15 : DK cB33 15 (.aload_n 0) 1 := by decide +kernel
theorem d33_16 : DK cB33 16 (.getfield 79) 3 := by decide +kernel
theorem d33_19 : DK cB33 19 (.iload_n 2) 1 := by decide +kernel
theorem d33_20 : DK cB33 20 (.iadd) 1 := by decide +kernel
theorem d33_21 : DK cB33 21 (.invokevirtual 100) 3 := by decide +kernel
theorem d36_0 : DK cB36 0 (.aload_n 0) 1 := by decide +kernel
theorem d36_1 : DK cB36 1 (.getfield 15) 3 := by decide +kernel
theorem d36_4 : DK cB36 4 (.arraylength) 1 := by decide +kernel
theorem d36_5 : DK cB36 5 (.aload_n 0) 1 := by decide +kernel
theorem d36_6 : DK cB36 6 (.getfield 22) 3 := by decide +kernel
theorem d36_9 : DK cB36 9 (.ishr) 1 := by decide +kernel
theorem d36_10 : DK cB36 10 (.istore_n 2) 1 := by decide +kernel
theorem d36_11 : DK cB36 11 (.iload_n 1) 1 := by decide +kernel
theorem d36_12 : DK cB36 12 (.iload_n 2) 1 := by decide +kernel
theorem d36_13 : DK cB36 13 (.isub) 1 := by decide +kernel
theorem d36_14 : DK cB36 14 (.ifCond .le 24) 3 := by decide +kernel
theorem d36_17 : DK cB36 17 (.aload_n 0) 1 := by decide +kernel
theorem d36_18 : DK cB36 18 (.aload_n 0) 1 := by decide +kernel
theorem d36_19 : DK cB36 19 (.getfield 15) 3 := by decide +kernel
theorem d36_22 : DK cB36 22 (.aload_n 0) 1 := by decide +kernel
theorem d36_23 : DK cB36 23 (.iload_n 1) 1 := by decide +kernel
theorem d36_24 : DK cB36 24 (.invokevirtual 104) 3 := by decide +kernel
theorem d37_0 : DK cB37 0 (.aload_n 0) 1 := by decide +kernel
theorem d37_1 : DK cB37 1 (.getfield 15) 3 := by decide +kernel
theorem d37_4 : DK cB37 4 (.arraylength) 1 := by decide +kernel
theorem d37_5 : DK cB37 5 (.istore_n 2) 1 := by decide +kernel
theorem d37_6 : DK cB37 6 (.iload_n 1) 1 := by decide +kernel
theorem d37_7 : DK cB37 7 (.aload_n 0) 1 := by decide +kernel
theorem d37_8 : DK cB37 8 (.getfield 22) 3 := by decide +kernel
theorem d37_11 : DK cB37 11 (.ishl) 1 := by decide +kernel
theorem d37_12 : DK cB37 12 (.istore_n 3) 1 := by decide +kernel
theorem d37_13 : DK cB37 13 (.iload_n 3) 1 := by decide +kernel
theorem d37_14 : DK cB37 14 (.iload_n 2) 1 := by decide +kernel
theorem d37_15 : DK cB37 15 (.isub) 1 := by decide +kernel
theorem d37_16 : DK cB37 16 (.istore 4) 2 := by decide +kernel
theorem d37_18 : DK cB37 18 (.iload_n 2) 1 := by decide +kernel
theorem d37_19 : DK cB37 19 (.iload 4) 2 := by decide +kernel
theorem d37_21 : DK cB37 21 (.iload_n 2) 1 := by decide +kernel
theorem d37_22 : DK cB37 22 (.iconst 2) 1 := by decide +kernel
theorem d37_23 : DK cB37 23 (.aload_n 0) 1 := by decide +kernel
theorem d37_24 : DK cB37 24 (.getfield 22) 3 := by decide +kernel
theorem d37_27 : DK cB37 27 (.ishl) 1 := by decide +kernel
theorem d37_28 : DK cB37 28 (.iadd) 1 := by decide +kernel
theorem d37_29 : DK cB37 29 (.invokestatic 114) 3 := by decide +kernel
theorem d38_0 : DK cB38 0 (.iload_n 0) 1 := by decide +kernel
theorem d38_1 : DK cB38 1 (.iload_n 1) 1 := by decide +kernel
theorem d38_2 : DK cB38 2 (.iload_n 2) 1 := by decide +kernel
theorem d38_3 : DK cB38 3 (.invokestatic 194) 3 := by decide +kernel
theorem d14_0 : DK cB14 0 (.iload_n 0) 1 := by decide +kernel
theorem d14_1 : DK cB14 1 (.iload_n 1) 1 := by decide +kernel
theorem d14_2 : DK cB14 2 (.if_icmp .lt 7) 3 := by decide +kernel
theorem d14_9 : DK cB14 9 (.iload_n 1) 1 := by decide +kernel
theorem d14_10 : DK cB14 10 (.ireturn) 1 := by decide +kernel
def Q14_1 (Z : State)  (h0 : Heap) (n0 : Nat) (v : Option Value) (h : Heap) (L : List Loc) : Prop := v = some vI18 ∧ Fr n0 L ∧ h = h0
theorem rm14_1 (l : Launch) (Z : State) (a0 : Array Value) (hw : own_HW a0 Z) (ws : List Jvm.Cond)  (h0 : Heap) (n0 : Nat) (O0 : Old Z n0 h0) :
    own_MF l mN15 jdk_29_method_65_code 2 (some .int) ws rR0_0_0_0 Z h0 #[vI9, vI18] (Q14_1 Z  h0 n0) := by
  refine own_open (Jvm.Free.JP.mathPlain rfl (by decide +kernel)) (L0 := #[lV vI9, lV vI18]) (fun _ => by first | (simp [entryFrame, mkF, argsToLocals, Value.category]; done) | rfl) ?_
  intro p e s m below meth c s₁ hx hby hml hret hnn hZ hown X0 e0
  have N0 := Fr.nil n0
  refine ⟨some vI18, _, _, _, _, nofun, X0, by decide, by decide, ?_, fun fs hr => ?_⟩
  · rw [e0]; exact ⟨rfl, N0, rfl⟩
  · show SG p e below s₁ (mkF m 0 #[lV vI9, lV vI18] []) _
    refine qiN X0 hx hby d14_0 ?_
    refine qiN X0 hx hby d14_1 ?_
    refine XS.icmpYes X0.here hx rfl (pc0 := 2) (pc' := 9) rfl (hb hby d14_2) rfl (tlt (by decide : (9 : Int32) < (18 : Int32))).1 (by decide) (by decide) ?_
    refine qiN X0 hx hby d14_9 ?_
    exact retOut X0 hx (i := .ireturn) hret rfl (Or.inl ⟨rfl, Or.inl rfl, _, rfl⟩) (hb hby d14_10) hr
theorem pd__II_I : parseMethodDescriptor "(II)I" = some ⟨[.int, .int], some .int⟩ := by decide +kernel
theorem d38_6 : DK cB38 6 (.iadd) 1 := by decide +kernel
theorem d38_7 : DK cB38 7 (.istore_n 3) 1 := by decide +kernel
theorem d38_8 : DK cB38 8 (.iconst 0) 1 := by decide +kernel
theorem d38_9 : DK cB38 9 (.iload_n 3) 1 := by decide +kernel
theorem d38_10 : DK cB38 10 (.if_icmp .ge 11) 3 := by decide +kernel
theorem d38_13 : DK cB38 13 (.iload_n 3) 1 := by decide +kernel
theorem d38_14 : DK cB38 14 (.ldc 200) 2 := by decide +kernel
theorem d38_16 : DK cB38 16 (.if_icmp .gt 5) 3 := by decide +kernel
theorem d38_19 : DK cB38 19 (.iload_n 3) 1 := by decide +kernel
theorem d38_20 : DK cB38 20 (.ireturn) 1 := by decide +kernel
theorem pn_jdk_internal_util_ArraysSupport : plainName "jdk/internal/util/ArraysSupport" = true := by first | (simp [plainName, overriddenIn]; done) | decide +kernel
def Q38_1 (Z : State)  (h0 : Heap) (n0 : Nat) (v : Option Value) (h : Heap) (L : List Loc) : Prop := v = some vI34 ∧ Fr n0 L ∧ h = h0
theorem rm38_1 (l : Launch) (Z : State) (a0 : Array Value) (hw : own_HW a0 Z) (ws : List Jvm.Cond)  (h0 : Heap) (n0 : Nat) (O0 : Old Z n0 h0) :
    own_MF l mN16 jdk_48_method_27_code 4 (some .int) ws rR1_0_0_14 Z h0 #[vI16, vI9, vI18] (Q38_1 Z  h0 n0) := by
  refine own_open (plainFor_of_name pn_jdk_internal_util_ArraysSupport) (L0 := #[lV vI16, lV vI9, lV vI18, lU]) (fun _ => by first | (simp [entryFrame, mkF, argsToLocals, Value.category]; done) | rfl) ?_
  intro p e s m below meth c s₁ hx hby hml hret hnn hZ hown X0 e0
  have N0 := Fr.nil n0; have w := @ww Z a0 hw
  obtain ⟨_, T1, Lc1, X1, hQ1, st1⟩ := own_cS X0 hx hZ hown e0 (rm14_1 l Z a0 hw [] h0 n0 O0) (w 249 rfl) (w 80 rfl) (w 81 rfl) (w 82 rfl) (by decide) (W := 1) (by decide) (by decide) (by decide) (by decide) (g := (mkF m 3 #[lV vI16, lV vI9, lV vI18, lU] [vI18, vI9, vI16])) rfl (by rw [hml]; rfl) (argsL := [vI9, vI18]) (rest := [vI16]) (lenOf pd__II_I rfl) rfl (own_W rfl) (hb hby d38_3)
  obtain ⟨rfl, N1q, E1⟩ := hQ1
  have N1 := Fr.app N0 N1q
  refine ⟨some vI34, _, _, _, _, nofun, X1, by decide, by decide, ?_, fun fs hr => ?_⟩
  · rw [E1]; exact ⟨rfl, N1, rfl⟩
  · show SG p e below s₁ (mkF m 0 #[lV vI16, lV vI9, lV vI18, lU] []) _
    refine qiN X0 hx hby d38_0 ?_
    refine qiN X0 hx hby d38_1 ?_
    refine qiN X0 hx hby d38_2 ?_
    refine st1 _ ?_
    refine XS.iadd X1.here hx rfl (hb hby d38_6) rfl ?_
    refine XS.istoreN X1.here hx rfl (hb hby d38_7) rfl (l' := #[lV vI16, lV vI9, lV vI18, lV vI34]) rfl ?_
    refine qc X1 hx hby d38_8 ?_
    refine qiN X1 hx hby d38_9 ?_
    refine XS.icmpNo X1.here hx rfl (hb hby d38_10) rfl (tlt (by decide : (0 : Int32) < (34 : Int32))).2.1 ?_
    refine qiN X1 hx hby d38_13 ?_
    refine X1.ldcInt hx hown (mvT hZ (w 250 rfl)) (g := (mkF m 14 #[lV vI16, lV vI9, lV vI18, lV vI34] [vI34])) rfl (hb hby d38_14) _ ?_
    refine XS.icmpNo X1.here hx rfl (hb hby d38_16) rfl (flt (by decide : ¬ ((2147483639 : Int32) < (34 : Int32)))).2.2.1 ?_
    refine qiN X1 hx hby d38_19 ?_
    exact retOut X1 hx (i := .ireturn) hret rfl (Or.inl ⟨rfl, Or.inl rfl, _, rfl⟩) (hb hby d38_20) hr
theorem pd__III_I : parseMethodDescriptor "(III)I" = some ⟨[.int, .int, .int], some .int⟩ := by decide +kernel
theorem d37_32 : DK cB37 32 (.istore 5) 2 := by decide +kernel
theorem d37_34 : DK cB37 34 (.iload 5) 2 := by decide +kernel
theorem d37_36 : DK cB37 36 (.ldc 39) 2 := by decide +kernel
theorem d37_38 : DK cB37 38 (.if_icmp .ne 13) 3 := by decide +kernel
theorem d37_51 : DK cB37 51 (.iload 5) 2 := by decide +kernel
theorem d37_53 : DK cB37 53 (.aload_n 0) 1 := by decide +kernel
theorem d37_54 : DK cB37 54 (.getfield 22) 3 := by decide +kernel
theorem d37_57 : DK cB37 57 (.ishr) 1 := by decide +kernel
theorem d37_58 : DK cB37 58 (.ireturn) 1 := by decide +kernel
def Q37_1 (Z : State)  (h0 : Heap) (n0 : Nat) (v : Option Value) (h : Heap) (L : List Loc) : Prop := v = some vI34 ∧ Fr n0 L ∧ h = h0
theorem rm37_1 (l : Launch) (Z : State) (a0 : Array Value) (hw : own_HW a0 Z) (ws : List Jvm.Cond) (r0 r1 : Addr) (c2 : ClassId) (h0 : Heap) (n0 : Nat) (O0 : Old Z n0 h0) (f1 : Fld Z h0 r0 cs22 "value" "[B" (.ref r1)) (f3 : Arv Z h0 r1 c2 .byte (16 : Int32) [vI0, vI0, vI0, vI0, vI0, vI0, vI0, vI0, vI0, vI0, vI0, vI0, vI0, vI0, vI0, vI0] vI0) (f5 : Fld Z h0 r0 cs22 "coder" "B" vI0) :
    own_MF l mN17 jdk_68_method_10_code 6 (some .int) ws rR2_0_0_29 Z h0 #[(.ref r0), vI25] (Q37_1 Z  h0 n0) := by
  refine own_open (plainFor_of_name pn_java_lang_AbstractStringBuilder) (L0 := #[lR r0, lV vI25, lU, lU, lU, lU]) (fun _ => by first | (simp [entryFrame, mkF, argsToLocals, Value.category]; done) | rfl) ?_
  intro p e s m below meth c s₁ hx hby hml hret hnn hZ hown X0 e0
  have N0 := Fr.nil n0; have w := @ww Z a0 hw
  obtain ⟨T2, X2, e2, st2⟩ := getF X0 hx hZ hown (host := "") (Or.inl (w 206 rfl)) Via.refl e0 f1 (g := (mkF m 1 #[lR r0, lV vI25, lU, lU, lU, lU] [(.ref r0)])) rfl rfl (hb hby d37_1)
  obtain ⟨clq4, Arq4, qq4, Sq4, Nq4, Hq4, Gq4⟩ := id f3
  obtain ⟨T6, X6, e6, st6⟩ := getF X2 hx hZ hown (host := "") (Or.inl (w 208 rfl)) Via.refl e2 f5 (g := (mkF m 8 #[lR r0, lV vI25, lV vI16, lU, lU, lU] [(.ref r0), vI25])) rfl rfl (hb hby d37_8)
  obtain ⟨T7, X7, e7, st7⟩ := getF X6 hx hZ hown (host := "") (Or.inl (w 208 rfl)) Via.refl e6 f5 (g := (mkF m 24 #[lR r0, lV vI25, lV vI16, lV vI25, lV vI9, lU] [(.ref r0), vI2, vI16, vI9, vI16])) rfl rfl (hb hby d37_24)
  obtain ⟨_, T8, Lc8, X8, hQ8, st8⟩ := own_cS X7 hx hZ hown e7 (rm38_1 l Z a0 hw [] h0 n0 O0) (w 245 rfl) (w 246 rfl) (w 247 rfl) (w 248 rfl) (by decide) (W := 0) (by decide) (by decide) (by decide) (by decide) (g := (mkF m 29 #[lR r0, lV vI25, lV vI16, lV vI25, lV vI9, lU] [vI18, vI9, vI16])) rfl (by rw [hml]; rfl) (argsL := [vI16, vI9, vI18]) (rest := []) (lenOf pd__III_I rfl) rfl (own_W rfl) (hb hby d37_29)
  obtain ⟨rfl, N8q, E8⟩ := hQ8
  have N8 := Fr.app N0 N8q
  obtain ⟨T9, X9, e9, st9⟩ := getF X8 hx hZ hown (host := "") (Or.inl (w 208 rfl)) Via.refl E8 f5 (g := (mkF m 54 #[lR r0, lV vI25, lV vI16, lV vI25, lV vI9, lV vI34] [(.ref r0), vI34])) rfl rfl (hb hby d37_54)
  refine ⟨some vI34, _, _, _, _, nofun, X9, by decide, by decide, ?_, fun fs hr => ?_⟩
  · rw [e9]; exact ⟨rfl, N8, rfl⟩
  · show SG p e below s₁ (mkF m 0 #[lR r0, lV vI25, lU, lU, lU, lU] []) _
    refine qaN X0 hx hby d37_0 ?_
    refine st2 _ ?_
    refine X2.arraylength hx (by rw [e2]; exact Arq4.1) (State.isArrayOf_alike hZ.alike Arq4.2.1) (g := (mkF m 4 #[lR r0, lV vI25, lU, lU, lU, lU] [(.ref r1)])) rfl rfl (hb hby d37_4) _ ?_
    rw [len_of Sq4 Nq4]
    refine XS.istoreN X2.here hx rfl (hb hby d37_5) rfl (l' := #[lR r0, lV vI25, lV vI16, lU, lU, lU]) rfl ?_
    refine qiN X2 hx hby d37_6 ?_
    refine qaN X2 hx hby d37_7 ?_
    refine st6 _ ?_
    refine XS.ishl X6.here hx rfl (hb hby d37_11) rfl ?_
    refine XS.istoreN X6.here hx rfl (hb hby d37_12) rfl (l' := #[lR r0, lV vI25, lV vI16, lV vI25, lU, lU]) rfl ?_
    refine qiN X6 hx hby d37_13 ?_
    refine qiN X6 hx hby d37_14 ?_
    refine XS.isub X6.here hx rfl (hb hby d37_15) rfl ?_
    refine XS.istore X6.here hx rfl (hb hby d37_16) rfl (l' := #[lR r0, lV vI25, lV vI16, lV vI25, lV vI9, lU]) rfl ?_
    refine qiN X6 hx hby d37_18 ?_
    refine qi X6 hx hby d37_19 ?_
    refine qiN X6 hx hby d37_21 ?_
    refine qc X6 hx hby d37_22 ?_
    refine qaN X6 hx hby d37_23 ?_
    refine st7 _ ?_
    refine XS.ishl X7.here hx rfl (hb hby d37_27) rfl ?_
    refine XS.iadd X7.here hx rfl (hb hby d37_28) rfl ?_
    refine st8 _ ?_
    refine XS.istore X8.here hx rfl (hb hby d37_32) rfl (l' := #[lR r0, lV vI25, lV vI16, lV vI25, lV vI9, lV vI34]) rfl ?_
    refine qi X8 hx hby d37_34 ?_
    refine X8.ldcInt hx hown (mvT hZ (w 251 rfl)) (g := (mkF m 36 #[lR r0, lV vI25, lV vI16, lV vI25, lV vI9, lV vI34] [vI34])) rfl (hb hby d37_36) _ ?_
    show SG p e below T8 (mkF m 38 #[lR r0, lV vI25, lV vI16, lV vI25, lV vI9, lV vI34] [vI2147483647, vI34]) _
    refine XS.icmpYes X8.here hx rfl (pc0 := 38) (pc' := 51) rfl (hb hby d37_38) rfl (feq (by decide : ¬ ((34 : Int32) = (2147483647 : Int32)))).2 (by decide) (by decide) ?_
    refine qi X8 hx hby d37_51 ?_
    refine qaN X8 hx hby d37_53 ?_
    refine st9 _ ?_
    refine XS.ishr X9.here hx rfl (hb hby d37_57) rfl ?_
    exact retOut X9 hx (i := .ireturn) hret rfl (Or.inl ⟨rfl, Or.inl rfl, _, rfl⟩) (hb hby d37_58) hr
theorem pd__I_I : parseMethodDescriptor "(I)I" = some ⟨[.int], some .int⟩ := by decide +kernel
theorem own_selfsel {s : State} {args : Array Value} {C : String} {y : MethodName} (hsel : (Jvm.Cond.selects C y y).before args s = true) (hpriv : s.PrivateAt y) (hinst : (Jvm.Cond.instanceMethod y).before args s = true) (hy : y.cls ≠ "java/lang/invoke/MethodHandle" ∧ y.cls ≠ "java/lang/invoke/VarHandle") : (Jvm.Cond.selects y.cls y y).before args s = true := by
  obtain ⟨c2, r2, m2, -, -, q3, -, kP, hkP, hkPi⟩ := Cond.selects_spec hsel
  exact selects_self_of_private (findClass_of_methodNamed q3) hkP hkPi hpriv hinst hy
theorem d36_27 : DK cB36 27 (.aload_n 0) 1 := by decide +kernel
theorem d36_28 : DK cB36 28 (.getfield 22) 3 := by decide +kernel
theorem d36_31 : DK cB36 31 (.ishl) 1 := by decide +kernel
theorem d36_32 : DK cB36 32 (.invokestatic 108) 3 := by decide +kernel
theorem d39_0 : DK cB39 0 (.iload_n 1) 1 := by decide +kernel
theorem d39_1 : DK cB39 1 (.aload_n 0) 1 := by decide +kernel
theorem d39_2 : DK cB39 2 (.arraylength) 1 := by decide +kernel
theorem d39_3 : DK cB39 3 (.if_icmp .ne 11) 3 := by decide +kernel
theorem d39_14 : DK cB39 14 (.iload_n 1) 1 := by decide +kernel
theorem d39_15 : DK cB39 15 (.newarray .byte) 2 := by decide +kernel
theorem d39_17 : DK cB39 17 (.astore_n 2) 1 := by decide +kernel
theorem d39_18 : DK cB39 18 (.aload_n 0) 1 := by decide +kernel
theorem d39_19 : DK cB39 19 (.iconst 0) 1 := by decide +kernel
theorem d39_20 : DK cB39 20 (.aload_n 2) 1 := by decide +kernel
theorem d39_21 : DK cB39 21 (.iconst 0) 1 := by decide +kernel
theorem d39_22 : DK cB39 22 (.aload_n 0) 1 := by decide +kernel
theorem d39_23 : DK cB39 23 (.arraylength) 1 := by decide +kernel
theorem d39_24 : DK cB39 24 (.iload_n 1) 1 := by decide +kernel
theorem d39_25 : DK cB39 25 (.invokestatic 304) 3 := by decide +kernel
theorem d23_0 : DK cB23 0 (.iload_n 0) 1 := by decide +kernel
theorem d23_1 : DK cB23 1 (.iload_n 1) 1 := by decide +kernel
theorem d23_2 : DK cB23 2 (.if_icmp .gt 7) 3 := by decide +kernel
theorem d23_5 : DK cB23 5 (.iload_n 0) 1 := by decide +kernel
theorem d23_6 : DK cB23 6 (.goto 4) 3 := by decide +kernel
theorem d23_10 : DK cB23 10 (.ireturn) 1 := by decide +kernel
def Q23_1 (Z : State) (x0 : Int32) (h0 : Heap) (n0 : Nat) (v : Option Value) (h : Heap) (L : List Loc) : Prop := v = some (.int x0) ∧ Fr n0 L ∧ h = h0
theorem rm23_1 (l : Launch) (Z : State) (a0 : Array Value) (hw : own_HW a0 Z) (ws : List Jvm.Cond) (x0 x1 : Int32) (h0 : Heap) (n0 : Nat) (O0 : Old Z n0 h0) (hc1 : ¬ (x1 < x0)) :
    own_MF l mN18 jdk_29_method_69_code 2 (some .int) ws rR0_0_0_0 Z h0 #[(.int x0), (.int x1)] (Q23_1 Z x0 h0 n0) := by
  refine own_open (Jvm.Free.JP.mathPlain rfl (by decide +kernel)) (L0 := #[lI x0, lI x1]) (fun _ => by first | (simp [entryFrame, mkF, argsToLocals, Value.category]; done) | rfl) ?_
  intro p e s m below meth c s₁ hx hby hml hret hnn hZ hown X0 e0
  have N0 := Fr.nil n0
  refine ⟨some (.int x0), _, _, _, _, nofun, X0, by decide, by decide, ?_, fun fs hr => ?_⟩
  · rw [e0]; exact ⟨rfl, N0, rfl⟩
  · show SG p e below s₁ (mkF m 0 #[lI x0, lI x1] []) _
    refine qiN X0 hx hby d23_0 ?_
    refine qiN X0 hx hby d23_1 ?_
    refine XS.icmpNo X0.here hx rfl (hb hby d23_2) rfl (flt hc1).2.2.1 ?_
    refine qiN X0 hx hby d23_5 ?_
    refine XS.goto X0.here hx rfl (pc0 := 6) (pc' := 10) rfl (hb hby d23_6) (by decide) (by decide) ?_
    exact retOut X0 hx (i := .ireturn) hret rfl (Or.inl ⟨rfl, Or.inl rfl, _, rfl⟩) (hb hby d23_10) hr
theorem d39_28 : DK cB39 28 (.invokestatic 150) 3 := by decide +kernel
theorem d39_31 : DK cB39 31 (.aload_n 2) 1 := by decide +kernel
theorem d39_32 : DK cB39 32 (.areturn) 1 := by decide +kernel
theorem pn_java_util_Arrays : plainName "java/util/Arrays" = true := by first | (simp [plainName, overriddenIn]; done) | decide +kernel
def Q39_1 (Z : State)  (h0 : Heap) (n0 : Nat) (v : Option Value) (h : Heap) (L : List Loc) : Prop := ∃ (b3 : Addr) (k3 : ClassId), v = some (.ref b3) ∧ Fr n0 L ∧ Keep h0 h [] ∧ h0.size ≤ b3 ∧ Arv Z h b3 k3 .byte (34 : Int32) [vI0, vI0, vI0, vI0, vI0, vI0, vI0, vI0, vI0, vI0, vI0, vI0, vI0, vI0, vI0, vI0, vI0, vI0, vI0, vI0, vI0, vI0, vI0, vI0, vI0, vI0, vI0, vI0, vI0, vI0, vI0, vI0, vI0, vI0] vI0 ∧ Exa Z h b3 "[B"
theorem rm39_1 (l : Launch) (Z : State) (a0 : Array Value) (hw : own_HW a0 Z) (ws : List Jvm.Cond) (r0 : Addr) (c1 : ClassId) (h0 : Heap) (n0 : Nat) (O0 : Old Z n0 h0) (f1 : Arv Z h0 r0 c1 .byte (16 : Int32) [vI0, vI0, vI0, vI0, vI0, vI0, vI0, vI0, vI0, vI0, vI0, vI0, vI0, vI0, vI0, vI0] vI0) :
    own_MF l mN19 jdk_65_method_121_code 3 (some (.array .byte)) ws rR1_1_34_24 Z h0 #[(.ref r0), vI34] (Q39_1 Z  h0 n0) := by
  refine own_open (plainFor_of_name pn_java_util_Arrays) (L0 := #[lR r0, lV vI34, lU]) (fun _ => by first | (simp [entryFrame, mkF, argsToLocals, Value.category]; done) | rfl) ?_
  intro p e s m below meth c s₁ hx hby hml hret hnn hZ hown X0 e0
  have N0 := Fr.nil n0; have w := @ww Z a0 hw
  obtain ⟨clq2, Arq2, qq2, Sq2, Nq2, Hq2, Gq2⟩ := id f1
  obtain ⟨T3, h3, k3, X3, e3, E3, A3, B3, st3⟩ := newPE X0 hx hZ (w 20 rfl) e0 (g := (mkF m 15 #[lR r0, lV vI34, lU] [vI34])) rfl (hb hby d39_15) rfl (by decide) (cap := 34) (by decide) (by decide) (by decide) (by decide) (ad := "[B") rfl
  obtain ⟨b3, g3⟩ : ∃ z, z = h0.size := ⟨_, rfl⟩
  rw [← g3] at A3 B3 st3
  have V3 : Arv Z h3 b3 k3 .byte (34 : Int32) [vI0, vI0, vI0, vI0, vI0, vI0, vI0, vI0, vI0, vI0, vI0, vI0, vI0, vI0, vI0, vI0, vI0, vI0, vI0, vI0, vI0, vI0, vI0, vI0, vI0, vI0, vI0, vI0, vI0, vI0, vI0, vI0, vI0, vI0] vI0 := (Arv.new A3 (by decide)).pad (pad_rep [] vI0 34)
  have f4 := (f1.ext E3)
  obtain ⟨clq5, Arq5, qq5, Sq5, Nq5, Hq5, Gq5⟩ := id f4
  have o6 := Old.ext O0 E3
  obtain ⟨_, T7, Lc7, X7, hQ7, st7⟩ := own_cS X3 hx hZ hown e3 (rm23_1 l Z a0 hw [] (16 : Int32) (34 : Int32) h3 n0 o6 (by decide)) (w 145 rfl) (w 146 rfl) (w 81 rfl) (w 147 rfl) (by decide) (W := 4) (by decide) (by decide) (by decide) (by decide) (g := (mkF m 25 #[lR r0, lV vI34, lR b3] [vI34, vI16, vI0, (.ref b3), vI0, (.ref r0)])) rfl (by rw [hml]; rfl) (argsL := [vI16, vI34]) (rest := [vI0, (.ref b3), vI0, (.ref r0)]) (lenOf pd__II_I rfl) rfl (own_W rfl) (hb hby d39_25)
  obtain ⟨rfl, N7q, E7⟩ := hQ7
  have N7 := Fr.app N0 N7q
  have zz8 : n0 ≤ h0.size := by rw [← O0.1]; exact O0.2.1
  have g9 := Nat.le_trans zz8 (Nat.le_of_eq g3.symm)
  obtain ⟨T10, h10, L10, X10, e10, N10, K10, B10, st10⟩ := cpA X7 hx hZ hown (w 148 rfl) (w 151 rfl) (w 149 rfl) (w 150 rfl) E7 f4 V3 (us := [vI0, vI0, vI0, vI0, vI0, vI0, vI0, vI0, vI0, vI0, vI0, vI0, vI0, vI0, vI0, vI0]) (Or.inl ⟨rfl, rfl⟩) (by decide) (by decide) (by decide) (by decide) (by decide) rfl (by decide) N7 g9 (g := (mkF m 28 #[lR r0, lV vI34, lR b3] [vI16, vI0, (.ref b3), vI0, (.ref r0)])) rfl (by rw [hml]; rfl) rfl (hb hby d39_28) (by decide) (W := 0) (own_W rfl) (by decide)
  have V10 : Arv Z h10 b3 k3 .byte (34 : Int32) [vI0, vI0, vI0, vI0, vI0, vI0, vI0, vI0, vI0, vI0, vI0, vI0, vI0, vI0, vI0, vI0, vI0, vI0, vI0, vI0, vI0, vI0, vI0, vI0, vI0, vI0, vI0, vI0, vI0, vI0, vI0, vI0, vI0, vI0] vI0 := B10
  have f11 := (B3.keep K10)
  have kp12 : Keep h0 h3 [] := (Keep.refl h0 []).ext E3
  have kp13 : Keep h0 h10 [] := kp12.trans K10 (allS (Or.inr (Nat.le_of_eq g3.symm)) all0)
  refine ⟨some (.ref b3), _, _, _, _, nofun, X10, by decide, by decide, ?_, fun fs hr => ?_⟩
  · rw [e10]; exact ⟨b3, k3, rfl, N10, kp13, (Nat.le_of_eq g3.symm), V10, f11⟩
  · show SG p e below s₁ (mkF m 0 #[lR r0, lV vI34, lU] []) _
    refine qiN X0 hx hby d39_0 ?_
    refine qaN X0 hx hby d39_1 ?_
    refine X0.arraylength hx (by rw [e0]; exact Arq2.1) (State.isArrayOf_alike hZ.alike Arq2.2.1) (g := (mkF m 2 #[lR r0, lV vI34, lU] [(.ref r0), vI34])) rfl rfl (hb hby d39_2) _ ?_
    rw [len_of Sq2 Nq2]
    refine XS.icmpYes X0.here hx rfl (pc0 := 3) (pc' := 14) rfl (hb hby d39_3) rfl (feq (by decide : ¬ ((34 : Int32) = (16 : Int32)))).2 (by decide) (by decide) ?_
    refine qiN X0 hx hby d39_14 ?_
    refine st3 _ ?_
    refine XS.astoreN X3.here hx rfl (hb hby d39_17) rfl rfl (l' := #[lR r0, lV vI34, lR b3]) rfl ?_
    refine qaN X3 hx hby d39_18 ?_
    refine qc X3 hx hby d39_19 ?_
    refine qaN X3 hx hby d39_20 ?_
    refine qc X3 hx hby d39_21 ?_
    refine qaN X3 hx hby d39_22 ?_
    refine X3.arraylength hx (by rw [e3]; exact Arq5.1) (State.isArrayOf_alike hZ.alike Arq5.2.1) (g := (mkF m 23 #[lR r0, lV vI34, lR b3] [(.ref r0), vI0, (.ref b3), vI0, (.ref r0)])) rfl rfl (hb hby d39_23) _ ?_
    rw [len_of Sq5 Nq5]
    refine qiN X3 hx hby d39_24 ?_
    refine st7 _ ?_
    refine st10 _ ?_
    refine qaN X10 hx hby d39_31 ?_
    exact retOut X10 hx (i := .areturn) hret rfl (Or.inr (Or.inr (Or.inr (Or.inr ⟨rfl, rfl, rfl⟩)))) (hb hby d39_32) hr
theorem pd___BI__B : parseMethodDescriptor "([BI)[B" = some ⟨[(.array .byte), .int], some (.array .byte)⟩ := by decide +kernel
theorem d36_35 : DK cB36 35 (.putfield 15) 3 := by decide +kernel
theorem d36_38 : DK cB36 38 (.return_) 1 := by decide +kernel
def Q36_1 (Z : State) (r0 : Addr) (h0 : Heap) (n0 : Nat) (v : Option Value) (h : Heap) (L : List Loc) : Prop := ∃ (b12_0 : Addr) (k12_0 : ClassId), v = none ∧ Fr n0 L ∧ Keep h0 h [r0] ∧ Fld Z h r0 cs22 "value" "[B" (.ref b12_0) ∧ Fld Z h r0 cs22 "coder" "B" vI0 ∧ Fld Z h r0 cs22 "count" "I" vI0 ∧ h0.size ≤ b12_0 ∧ Arv Z h b12_0 k12_0 .byte (34 : Int32) [vI0, vI0, vI0, vI0, vI0, vI0, vI0, vI0, vI0, vI0, vI0, vI0, vI0, vI0, vI0, vI0, vI0, vI0, vI0, vI0, vI0, vI0, vI0, vI0, vI0, vI0, vI0, vI0, vI0, vI0, vI0, vI0, vI0, vI0] vI0 ∧ Exa Z h b12_0 "[B"
theorem rm36_1 (l : Launch) (Z : State) (a0 : Array Value) (hw : own_HW a0 Z) (ws : List Jvm.Cond) (r0 r1 : Addr) (c2 : ClassId) (h0 : Heap) (n0 : Nat) (O0 : Old Z n0 h0) (f1 : Fld Z h0 r0 cs22 "value" "[B" (.ref r1)) (f3 : Arv Z h0 r1 c2 .byte (16 : Int32) [vI0, vI0, vI0, vI0, vI0, vI0, vI0, vI0, vI0, vI0, vI0, vI0, vI0, vI0, vI0, vI0] vI0) (f5 : Fld Z h0 r0 cs22 "coder" "B" vI0) (f8 : Exa Z h0 r0 cs23) (g18 : n0 ≤ r0) (f20 : Fld Z h0 r0 cs22 "count" "I" vI0) (l23 : r0 < h0.size) :
    own_MF l mN20 jdk_68_method_9_code 3 none ws rR3_1_34_48 Z h0 #[(.ref r0), vI25] (Q36_1 Z r0 h0 n0) := by
  refine own_open (plainFor_of_name pn_java_lang_AbstractStringBuilder) (L0 := #[lR r0, lV vI25, lU]) (fun _ => by first | (simp [entryFrame, mkF, argsToLocals, Value.category]; done) | rfl) ?_
  intro p e s m below meth c s₁ hx hby hml hret hnn hZ hown X0 e0
  have N0 := Fr.nil n0; have w := @ww Z a0 hw
  obtain ⟨T2, X2, e2, st2⟩ := getF X0 hx hZ hown (host := "") (Or.inl (w 206 rfl)) Via.refl e0 f1 (g := (mkF m 1 #[lR r0, lV vI25, lU] [(.ref r0)])) rfl rfl (hb hby d36_1)
  obtain ⟨clq4, Arq4, qq4, Sq4, Nq4, Hq4, Gq4⟩ := id f3
  obtain ⟨T6, X6, e6, st6⟩ := getF X2 hx hZ hown (host := "") (Or.inl (w 208 rfl)) Via.refl e2 f5 (g := (mkF m 6 #[lR r0, lV vI25, lU] [(.ref r0), vI16])) rfl rfl (hb hby d36_6)
  obtain ⟨T7, X7, e7, st7⟩ := getF X6 hx hZ hown (host := "") (Or.inl (w 206 rfl)) Via.refl e6 f1 (g := (mkF m 19 #[lR r0, lV vI25, lV vI16] [(.ref r0), (.ref r0)])) rfl rfl (hb hby d36_19)
  obtain ⟨cqq10, qq10, qq10'⟩ := f8.cell
  obtain ⟨_, T9, Lc9, X9, hQ9, st9⟩ := own_fin (X7.privateBack hx (y := mN17) hown (mvT hZ (w 240 rfl)) (mvT hZ (w 241 rfl)) (own_selfsel (mvT hZ (w 243 rfl)) (Cond.privateMethod_at (mvP hZ (w 242 rfl) (args := #[]))) (mvT hZ (w 241 rfl)) (by decide)) (Cond.privateMethod_at (mvP hZ (w 242 rfl) (args := #[]))) (mvT hZ (w 244 rfl)) (by decide) (backOf (W := 2) (rm37_1 l Z a0 hw [] r0 r1 c2 h0 n0 O0 f1 f3 f5) hZ (w 244 rfl) (w 202 rfl) (by decide) (by decide)) (g := (mkF m 24 #[lR r0, lV vI25, lV vI16] [vI25, (.ref r0), (.ref r1), (.ref r0)])) rfl (by rw [hml]; rfl) (Steps.refl _) (a := r0) (by rw [e7]; exact qq10) qq10' (argsL := [vI25]) (rest := [(.ref r1), (.ref r0)]) (lenOf pd__I_I rfl) rfl (own_W rfl) (hb hby d36_24) (fun _ _ => ⟨rfl, e7, (by decide : 0 + 0 ≤ _), (by decide : 0 + 0 ≤ _)⟩))
  obtain ⟨rfl, N9q, E9⟩ := hQ9
  have N9 := Fr.app N0 N9q
  obtain ⟨T11, X11, e11, st11⟩ := getF X9 hx hZ hown (host := "") (Or.inl (w 208 rfl)) Via.refl E9 f5 (g := (mkF m 28 #[lR r0, lV vI25, lV vI16] [(.ref r0), vI34, (.ref r1), (.ref r0)])) rfl rfl (hb hby d36_28)
  obtain ⟨_, T12, Lc12, X12, hQ12, st12⟩ := own_cS X11 hx hZ hown e11 (rm39_1 l Z a0 hw [] r1 c2 h0 n0 O0 f3) (w 252 rfl) (w 253 rfl) (w 132 rfl) (w 254 rfl) (by decide) (W := 1) (by decide) (by decide) (by decide) (by decide) (g := (mkF m 32 #[lR r0, lV vI25, lV vI16] [vI34, (.ref r1), (.ref r0)])) rfl (by rw [hml]; rfl) (argsL := [(.ref r1), vI34]) (rest := [(.ref r0)]) (lenOf pd___BI__B rfl) rfl (own_W rfl) (hb hby d36_32)
  obtain ⟨b12_0, k12_0, rfl, N12q, K12, f13, f14, f15⟩ := hQ12
  have N12 := Fr.app N9 N12q
  have f16 := (f8.keep K12)
  have f17 := (f1.keep K12 nin0)
  obtain ⟨T19, h19, X19, e19, W19, st19⟩ := putF X12 hx hZ hown (host := "") (Or.inl (w 206 rfl)) Via.refl rfl f17 f16 (Or.inl (w 207 rfl)) (w 193 rfl) (ty := (.array .byte)) (by decide) rfl rfl (g := (mkF m 35 #[lR r0, lV vI25, lV vI16] [(.ref b12_0), (.ref r0)])) rfl rfl (hb hby d36_35)
  have Fw19 := f17.same W19
  have N19 := Fr.snoc X19 N12 g18
  have f21 := ((f20.keep K12 nin0).other W19 (Or.inr (slot_ne (Or.inl (w 234 rfl)) (Or.inl (w 207 rfl)) (by decide) (t := .int) (t' := (.array .byte)) (by decide) (by decide))))
  have f22 := ((f5.keep K12 nin0).other W19 (Or.inr (slot_ne (Or.inl (w 209 rfl)) (Or.inl (w 207 rfl)) (by decide) (t := .byte) (t' := (.array .byte)) (by decide) (by decide))))
  have n24 := Nat.ne_of_lt (Nat.lt_of_lt_of_le l23 f13)
  have f25 := (f14.other W19 (Ne.symm n24))
  have f26 := (f15.wr W19)
  have kp27 : Keep h0 T12.heap [r0] := (Keep.refl h0 [r0]).trans K12 all0
  have kp28 : Keep h0 h19 [r0] := kp27.wr W19 (Or.inl (List.mem_of_getElem? (i := 0) rfl))
  refine ⟨none, _, _, _, _, (fun _ => rfl), X19, by decide, by decide, ?_, fun fs hr => ?_⟩
  · rw [e19]; exact ⟨b12_0, k12_0, rfl, N19, kp28, Fw19, f22, f21, f13, f25, f26⟩
  · show SG p e below s₁ (mkF m 0 #[lR r0, lV vI25, lU] []) _
    refine qaN X0 hx hby d36_0 ?_
    refine st2 _ ?_
    refine X2.arraylength hx (by rw [e2]; exact Arq4.1) (State.isArrayOf_alike hZ.alike Arq4.2.1) (g := (mkF m 4 #[lR r0, lV vI25, lU] [(.ref r1)])) rfl rfl (hb hby d36_4) _ ?_
    rw [len_of Sq4 Nq4]
    refine qaN X2 hx hby d36_5 ?_
    refine st6 _ ?_
    refine XS.ishr X6.here hx rfl (hb hby d36_9) rfl ?_
    refine XS.istoreN X6.here hx rfl (hb hby d36_10) rfl (l' := #[lR r0, lV vI25, lV vI16]) rfl ?_
    refine qiN X6 hx hby d36_11 ?_
    refine qiN X6 hx hby d36_12 ?_
    refine XS.isub X6.here hx rfl (hb hby d36_13) rfl ?_
    refine XS.ifNo X6.here hx rfl (hb hby d36_14) rfl ((if0 _ _).trans (tlt (by decide : (0 : Int32) < (9 : Int32))).2.2.2) ?_
    refine qaN X6 hx hby d36_17 ?_
    refine qaN X6 hx hby d36_18 ?_
    refine st7 _ ?_
    refine qaN X7 hx hby d36_22 ?_
    refine qiN X7 hx hby d36_23 ?_
    refine st9.trans ?_
    refine qaN X9 hx hby d36_27 ?_
    refine st11 _ ?_
    refine XS.ishl X11.here hx rfl (hb hby d36_31) rfl ?_
    refine st12 _ ?_
    refine st19 _ ?_
    exact X19.returnOut hx hret (hb hby d36_38) hr
theorem d33_24 : DK cB33 24 (.aload_n 0) 1 := by decide +kernel
theorem d33_25 : DK cB33 25 (.aload_n 0) 1 := by decide +kernel
theorem d33_26 : DK cB33 26 (.getfield 79) 3 := by decide +kernel
theorem d33_29 : DK cB33 29 (.aload_n 1) 1 := by decide +kernel
theorem d33_30 : DK cB33 30 (.invokevirtual 208) 3 := by decide +kernel
theorem d40_0 : DK cB40 0 (.aload_n 0) 1 := by decide +kernel
theorem d40_1 : DK cB40 1 (.aload_n 2) 1 := by decide +kernel
theorem d40_2 : DK cB40 2 (.invokevirtual 397) 3 := by decide +kernel
theorem d41_0 : DK cB41 0 (.getstatic 18) 3 := by decide +kernel
theorem d41_3 : DK cB41 3 (.ifCond .eq 18) 3 := by decide +kernel
theorem d41_6 : DK cB41 6 (.aload_n 0) 1 := by decide +kernel
theorem d41_7 : DK cB41 7 (.getfield 22) 3 := by decide +kernel
theorem d41_10 : DK cB41 10 (.aload_n 1) 1 := by decide +kernel
theorem d41_11 : DK cB41 11 (.invokevirtual 40) 3 := by decide +kernel
theorem d41_14 : DK cB41 14 (.if_icmp .eq 7) 3 := by decide +kernel
theorem d41_21 : DK cB41 21 (.return_) 1 := by decide +kernel
def Q41_1 (Z : State)  (h0 : Heap) (n0 : Nat) (v : Option Value) (h : Heap) (L : List Loc) : Prop := v = none ∧ Fr n0 L ∧ h = h0
theorem rm41_1 (l : Launch) (Z : State) (a0 : Array Value) (hw : own_HW a0 Z) (ws : List Jvm.Cond) (r0 r1 : Addr) (x2 x3 x4 : Int32) (h0 : Heap) (n0 : Nat) (O0 : Old Z n0 h0) (f1 : Sta Z Z.heap cs8 cs9 "Z" (.int x2)) (hc4 : ¬ (x2 = (0 : Int32))) (f5 : Fld Z h0 r0 cs22 "coder" "B" (.int x3)) (f7 : Exa Z h0 r1 cs8) (f8 : Fld Z h0 r1 cs8 "coder" "B" (.int x4)) (hc10 : x3 = (nar .byte x4)) :
    own_MF l mN21 jdk_68_method_71_code 2 none ws rR1_0_0_13 Z h0 #[(.ref r0), (.ref r1)] (Q41_1 Z  h0 n0) := by
  refine own_open (plainFor_of_name pn_java_lang_AbstractStringBuilder) (L0 := #[lR r0, lR r1]) (fun _ => by first | (simp [entryFrame, mkF, argsToLocals, Value.category]; done) | rfl) ?_
  intro p e s m below meth c s₁ hx hby hml hret hnn hZ hown X0 e0
  have N0 := Fr.nil n0; have w := @ww Z a0 hw
  have f2 := f1.ext O0.2
  obtain ⟨T3, X3, e3, st3⟩ := getS2 X0 hx hZ hown (host := "") (Or.inl (w 205 rfl)) Via.refl e0 f2 (g := (mkF m 0 #[lR r0, lR r1] [])) rfl (hb hby d41_0)
  obtain ⟨T6, X6, e6, st6⟩ := getF X3 hx hZ hown (host := "") (Or.inl (w 208 rfl)) Via.refl e3 f5 (g := (mkF m 7 #[lR r0, lR r1] [(.ref r0)])) rfl rfl (hb hby d41_7)
  obtain ⟨_, T9, Lc9, X9, hQ9, st9⟩ := own_cV X6 hx hZ hown e6 (rm35_1 l Z a0 hw [] r1 x2 x4 h0 n0 O0 f1 hc4 f8) f7 (w 265 rfl) (w 229 rfl) (w 231 rfl) (w 230 rfl) (w 232 rfl) (w 3 rfl) (by decide) (W := 1) (by decide) (by decide) (by decide) (by decide) (g := (mkF m 11 #[lR r0, lR r1] [(.ref r1), (.int x3)])) rfl (by rw [hml]; rfl) (argsL := []) (rest := [(.int x3)]) (lenOf pd___B rfl) rfl (own_W rfl) (hb hby d41_11)
  obtain ⟨rfl, N9q, E9⟩ := hQ9
  have N9 := Fr.app N0 N9q
  refine ⟨none, _, _, _, _, (fun _ => rfl), X9, by decide, by decide, ?_, fun fs hr => ?_⟩
  · rw [E9]; exact ⟨rfl, N9, rfl⟩
  · show SG p e below s₁ (mkF m 0 #[lR r0, lR r1] []) _
    refine st3 _ ?_
    refine XS.ifNo X3.here hx rfl (hb hby d41_3) rfl ((if0 _ _).trans (feq hc4).1) ?_
    refine qaN X3 hx hby d41_6 ?_
    refine st6 _ ?_
    refine qaN X6 hx hby d41_10 ?_
    refine st9 _ ?_
    refine XS.icmpYes X9.here hx rfl (pc0 := 14) (pc' := 21) rfl (hb hby d41_14) rfl (teq hc10).1 (by decide) (by decide) ?_
    exact X9.returnOut hx hret (hb hby d41_21) hr
theorem pd__Ljava_lang_String__V : parseMethodDescriptor "(Ljava/lang/String;)V" = some ⟨[(.object "java/lang/String")], none⟩ := by decide +kernel
theorem d40_5 : DK cB40 5 (.aload_n 2) 1 := by decide +kernel
theorem d40_6 : DK cB40 6 (.aload_n 0) 1 := by decide +kernel
theorem d40_7 : DK cB40 7 (.getfield 15) 3 := by decide +kernel
theorem d40_10 : DK cB40 10 (.iload_n 1) 1 := by decide +kernel
theorem d40_11 : DK cB40 11 (.aload_n 0) 1 := by decide +kernel
theorem d40_12 : DK cB40 12 (.getfield 22) 3 := by decide +kernel
theorem d40_15 : DK cB40 15 (.invokevirtual 399) 3 := by decide +kernel
theorem d42_0 : DK cB42 0 (.aload_n 0) 1 := by decide +kernel
theorem d42_1 : DK cB42 1 (.invokevirtual 335) 3 := by decide +kernel
theorem d42_4 : DK cB42 4 (.iload_n 3) 1 := by decide +kernel
theorem d42_5 : DK cB42 5 (.if_icmp .ne 23) 3 := by decide +kernel
theorem d42_8 : DK cB42 8 (.aload_n 0) 1 := by decide +kernel
theorem d42_9 : DK cB42 9 (.getfield 9) 3 := by decide +kernel
theorem d42_12 : DK cB42 12 (.iconst 0) 1 := by decide +kernel
theorem d42_13 : DK cB42 13 (.aload_n 1) 1 := by decide +kernel
theorem d42_14 : DK cB42 14 (.iload_n 2) 1 := by decide +kernel
theorem d42_15 : DK cB42 15 (.iload_n 3) 1 := by decide +kernel
theorem d42_16 : DK cB42 16 (.ishl) 1 := by decide +kernel
theorem d42_17 : DK cB42 17 (.aload_n 0) 1 := by decide +kernel
theorem d42_18 : DK cB42 18 (.getfield 9) 3 := by decide +kernel
theorem d42_21 : DK cB42 21 (.arraylength) 1 := by decide +kernel
theorem d42_22 : DK cB42 22 (.invokestatic 212) 3 := by decide +kernel
theorem own_usAll {vs : List Value} {dv : Value} {nn : Int32} (h : vs.length = nn.toNatClampNeg) : vs = (List.range nn.toNatClampNeg).map fun i => vs.getD ((0 : Int32).toNatClampNeg + i) dv := by
  rw [← h]
  refine List.ext_getElem? fun i => ?_
  by_cases hi : i < vs.length
  · simp [List.getElem?_range hi, show (0 : Int32).toNatClampNeg = 0 from rfl, hi]
  · rw [List.getElem?_eq_none (by omega), List.getElem?_eq_none (by rw [List.length_map, List.length_range]; omega)]
theorem own_cpx {Z : State} {h : Heap} {a : Addr} {k : ClassId} {ty : FieldType} {z : Int32} {A B : List Value} {d : Value} {p q n m : Nat} (h1 : p = n) (h2 : p + q = m) (V : Arv Z h a k ty z (A.take p ++ B ++ A.drop (p + q)) d) : Arv Z h a k ty z (A.take n ++ B ++ A.drop m) d := by
  subst h1 h2; exact V
theorem d42_25 : DK cB42 25 (.goto 18) 3 := by decide +kernel
theorem d42_43 : DK cB42 43 (.return_) 1 := by decide +kernel
def Q42_1 (Z : State) (r1 : Addr) (x2 x3 x7 : Int32) (t9 : List Value) (x10 : Int32) (c11 : ClassId) (t12 : List Value) (h0 : Heap) (n0 : Nat) (v : Option Value) (h : Heap) (L : List Loc) : Prop := v = none ∧ Fr n0 L ∧ Keep h0 h [r1] ∧ Arv Z h r1 c11 .byte x10 (t12.take ((x2 <<< (x3 &&& 31))).toNatClampNeg ++ t9 ++ t12.drop (((x2 <<< (x3 &&& 31))).toNatClampNeg + (x7).toNatClampNeg)) vI0
theorem rm42_1 (l : Launch) (Z : State) (a0 : Array Value) (hw : own_HW a0 Z) (ws : List Jvm.Cond) (r0 r1 : Addr) (x2 x3 : Int32) (x4 x5 : Int32) (r6 : Addr) (x7 : Int32) (c8 : ClassId) (t9 : List Value) (x10 : Int32) (c11 : ClassId) (t12 : List Value) (h0 : Heap) (n0 : Nat) (O0 : Old Z n0 h0) (f1 : Exa Z h0 r0 cs8) (f2 : Sta Z Z.heap cs8 cs9 "Z" (.int x4)) (hc3 : ¬ (x4 = (0 : Int32))) (f4 : Fld Z h0 r0 cs8 "coder" "B" (.int x5)) (hc6 : (nar .byte x5) = x3) (f7 : Fld Z h0 r0 cs8 "value" "[B" (.ref r6)) (f10 : Arv Z h0 r6 c8 .byte x7 t9 vI0) (f12 : Arv Z h0 r1 c11 .byte x10 t12 vI0) (hc13 : t9.length = (x7).toNatClampNeg) (hc14 : t12.length = (x10).toNatClampNeg) (hc15 : ¬ ((x2 <<< (x3 &&& 31)) < 0)) (hc16 : ¬ (x7 < 0)) (hc17 : ((x2 <<< (x3 &&& 31))).toNatClampNeg + (x7).toNatClampNeg ≤ (x10).toNatClampNeg) (g18 : n0 ≤ r1) :
    own_MF l mN22 jdk_42_method_147_code 4 none ws rR1_0_0_24 Z h0 #[(.ref r0), (.ref r1), (.int x2), (.int x3)] (Q42_1 Z r1 x2 x3 x7 t9 x10 c11 t12 h0 n0) := by
  refine own_open (plainFor_of_name pn_java_lang_String) (L0 := #[lR r0, lR r1, lI x2, lI x3]) (fun _ => by first | (simp [entryFrame, mkF, argsToLocals, Value.category]; done) | rfl) ?_
  intro p e s m below meth c s₁ hx hby hml hret hnn hZ hown X0 e0
  have N0 := Fr.nil n0; have w := @ww Z a0 hw
  obtain ⟨_, T5, Lc5, X5, hQ5, st5⟩ := own_cV X0 hx hZ hown e0 (rm35_1 l Z a0 hw [] r0 x4 x5 h0 n0 O0 f2 hc3 f4) f1 (w 228 rfl) (w 229 rfl) (w 231 rfl) (w 230 rfl) (w 232 rfl) (w 3 rfl) (by decide) (W := 0) (by decide) (by decide) (by decide) (by decide) (g := (mkF m 1 #[lR r0, lR r1, lI x2, lI x3] [(.ref r0)])) rfl (by rw [hml]; rfl) (argsL := []) (rest := []) (lenOf pd___B rfl) rfl (own_W rfl) (hb hby d42_1)
  obtain ⟨rfl, N5q, E5⟩ := hQ5
  have N5 := Fr.app N0 N5q
  obtain ⟨T8, X8, e8, st8⟩ := getF X5 hx hZ hown (host := "") (Or.inl (w 29 rfl)) Via.refl E5 f7 (g := (mkF m 9 #[lR r0, lR r1, lI x2, lI x3] [(.ref r0)])) rfl rfl (hb hby d42_9)
  obtain ⟨T9, X9, e9, st9⟩ := getF X8 hx hZ hown (host := "") (Or.inl (w 29 rfl)) Via.refl e8 f7 (g := (mkF m 18 #[lR r0, lR r1, lI x2, lI x3] [(.ref r0), (.int (x2 <<< (x3 &&& 31))), (.ref r1), vI0, (.ref r6)])) rfl rfl (hb hby d42_18)
  obtain ⟨clq11, Arq11, qq11, Sq11, Nq11, Hq11, Gq11⟩ := id f10
  obtain ⟨T19, h19, L19, X19, e19, N19, K19, B19, st19⟩ := cpA X9 hx hZ hown (w 271 rfl) (w 151 rfl) (w 149 rfl) (w 150 rfl) e9 f10 f12 (us := t9) (Or.inl ⟨rfl, rfl⟩) (by decide) hc15 hc16 (Nat.le_of_eq (Nat.zero_add _)) hc17 (own_usAll hc13) (by rw [hc14]; exact hc17) N5 g18 (g := (mkF m 22 #[lR r0, lR r1, lI x2, lI x3] [(.int x7), (.int (x2 <<< (x3 &&& 31))), (.ref r1), vI0, (.ref r6)])) rfl (by rw [hml]; rfl) rfl (hb hby d42_22) (by decide) (W := 0) (own_W rfl) (by decide)
  have V19 : Arv Z h19 r1 c11 .byte x10 (t12.take ((x2 <<< (x3 &&& 31))).toNatClampNeg ++ t9 ++ t12.drop (((x2 <<< (x3 &&& 31))).toNatClampNeg + (x7).toNatClampNeg)) vI0 := B19
  have kp20 : Keep h0 h19 [r1] := (Keep.refl h0 [r1]).trans K19 (allS (Or.inl (List.mem_of_getElem? (i := 0) rfl)) all0)
  refine ⟨none, _, _, _, _, (fun _ => rfl), X19, by decide, by decide, ?_, fun fs hr => ?_⟩
  · rw [e19]; exact ⟨rfl, N19, kp20, V19⟩
  · show SG p e below s₁ (mkF m 0 #[lR r0, lR r1, lI x2, lI x3] []) _
    refine qaN X0 hx hby d42_0 ?_
    refine st5 _ ?_
    refine qiN X5 hx hby d42_4 ?_
    refine XS.icmpNo X5.here hx rfl (hb hby d42_5) rfl (teq hc6).2 ?_
    refine qaN X5 hx hby d42_8 ?_
    refine st8 _ ?_
    refine qc X8 hx hby d42_12 ?_
    refine qaN X8 hx hby d42_13 ?_
    refine qiN X8 hx hby d42_14 ?_
    refine qiN X8 hx hby d42_15 ?_
    refine XS.ishl X8.here hx rfl (hb hby d42_16) rfl ?_
    refine qaN X8 hx hby d42_17 ?_
    refine st9 _ ?_
    refine X9.arraylength hx (by rw [e9]; exact Arq11.1) (State.isArrayOf_alike hZ.alike Arq11.2.1) (g := (mkF m 21 #[lR r0, lR r1, lI x2, lI x3] [(.ref r6), (.int (x2 <<< (x3 &&& 31))), (.ref r1), vI0, (.ref r6)])) rfl rfl (hb hby d42_21) _ ?_
    rw [len_of Sq11 Nq11]
    refine st19 _ ?_
    refine XS.goto X19.here hx rfl (pc0 := 25) (pc' := 43) rfl (hb hby d42_25) (by decide) (by decide) ?_
    exact X19.returnOut hx hret (hb hby d42_43) hr
theorem pd___BIB_V : parseMethodDescriptor "([BIB)V" = some ⟨[(.array .byte), .int, .byte], none⟩ := by decide +kernel
theorem d40_18 : DK cB40 18 (.return_) 1 := by decide +kernel
def Q40_1 (Z : State) (x1 x4 : Int32) (r6 : Addr) (x8 : Int32) (t10 : List Value) (x11 : Int32) (c12 : ClassId) (t13 : List Value) (h0 : Heap) (n0 : Nat) (v : Option Value) (h : Heap) (L : List Loc) : Prop := v = none ∧ Fr n0 L ∧ Keep h0 h [r6] ∧ Arv Z h r6 c12 .byte x11 (t13.take ((x1 <<< (x4 &&& 31))).toNatClampNeg ++ t10 ++ t13.drop (((x1 <<< (x4 &&& 31))).toNatClampNeg + (x8).toNatClampNeg)) vI0
theorem rm40_1 (l : Launch) (Z : State) (a0 : Array Value) (hw : own_HW a0 Z) (ws : List Jvm.Cond) (r0 : Addr) (x1 : Int32) (r2 : Addr) (x3 x4 x5 : Int32) (r6 r7 : Addr) (x8 : Int32) (c9 : ClassId) (t10 : List Value) (x11 : Int32) (c12 : ClassId) (t13 : List Value) (h0 : Heap) (n0 : Nat) (O0 : Old Z n0 h0) (f1 : Exa Z h0 r0 cs23) (f2 : Sta Z Z.heap cs8 cs9 "Z" (.int x3)) (hc3 : ¬ (x3 = (0 : Int32))) (f4 : Fld Z h0 r0 cs22 "coder" "B" (.int x4)) (f5 : Exa Z h0 r2 cs8) (f6 : Fld Z h0 r2 cs8 "coder" "B" (.int x5)) (hc7 : x4 = (nar .byte x5)) (f10 : Fld Z h0 r0 cs22 "value" "[B" (.ref r6)) (hc13 : (nar .byte x5) = x4) (f14 : Fld Z h0 r2 cs8 "value" "[B" (.ref r7)) (f15 : Arv Z h0 r7 c9 .byte x8 t10 vI0) (f16 : Arv Z h0 r6 c12 .byte x11 t13 vI0) (hc17 : t10.length = (x8).toNatClampNeg) (hc18 : t13.length = (x11).toNatClampNeg) (hc19 : ¬ ((x1 <<< (x4 &&& 31)) < 0)) (hc20 : ¬ (x8 < 0)) (hc21 : ((x1 <<< (x4 &&& 31))).toNatClampNeg + (x8).toNatClampNeg ≤ (x11).toNatClampNeg) (g22 : n0 ≤ r6) :
    own_MF l mN23 jdk_68_method_73_code 3 none ws rR2_0_0_39 Z h0 #[(.ref r0), (.int x1), (.ref r2)] (Q40_1 Z x1 x4 r6 x8 t10 x11 c12 t13 h0 n0) := by
  refine own_open (plainFor_of_name pn_java_lang_AbstractStringBuilder) (L0 := #[lR r0, lI x1, lR r2]) (fun _ => by first | (simp [entryFrame, mkF, argsToLocals, Value.category]; done) | rfl) ?_
  intro p e s m below meth c s₁ hx hby hml hret hnn hZ hown X0 e0
  have N0 := Fr.nil n0; have w := @ww Z a0 hw
  obtain ⟨cqq9, qq9, qq9'⟩ := f1.cell
  obtain ⟨_, T8, Lc8, X8, hQ8, st8⟩ := own_fin (X0.privateBack hx (y := mN21) hown (mvT hZ (w 260 rfl)) (mvT hZ (w 261 rfl)) (own_selfsel (mvT hZ (w 263 rfl)) (Cond.privateMethod_at (mvP hZ (w 262 rfl) (args := #[]))) (mvT hZ (w 261 rfl)) (by decide)) (Cond.privateMethod_at (mvP hZ (w 262 rfl) (args := #[]))) (mvT hZ (w 264 rfl)) (by decide) (backOf (W := 0) (rm41_1 l Z a0 hw [] r0 r2 x3 x4 x5 h0 n0 O0 f2 hc3 f4 f5 f6 hc7) hZ (w 264 rfl) (w 202 rfl) (by decide) (by decide)) (g := (mkF m 2 #[lR r0, lI x1, lR r2] [(.ref r2), (.ref r0)])) rfl (by rw [hml]; rfl) (Steps.refl _) (a := r0) (by rw [e0]; exact qq9) qq9' (argsL := [(.ref r2)]) (rest := []) (lenOf pd__Ljava_lang_String__V rfl) rfl (own_W rfl) (hb hby d40_2) (fun _ _ => ⟨rfl, e0, (by decide : 0 + 0 ≤ _), (by decide : 0 + 0 ≤ _)⟩))
  obtain ⟨rfl, N8q, E8⟩ := hQ8
  have N8 := Fr.app N0 N8q
  obtain ⟨T11, X11, e11, st11⟩ := getF X8 hx hZ hown (host := "") (Or.inl (w 206 rfl)) Via.refl E8 f10 (g := (mkF m 7 #[lR r0, lI x1, lR r2] [(.ref r0), (.ref r2)])) rfl rfl (hb hby d40_7)
  obtain ⟨T12, X12, e12, st12⟩ := getF X11 hx hZ hown (host := "") (Or.inl (w 208 rfl)) Via.refl e11 f4 (g := (mkF m 12 #[lR r0, lI x1, lR r2] [(.ref r0), (.int x1), (.ref r6), (.ref r2)])) rfl rfl (hb hby d40_12)
  obtain ⟨_, T23, Lc23, X23, hQ23, st23⟩ := own_cV X12 hx hZ hown e12 (rm42_1 l Z a0 hw [] r2 r6 x1 x4 x3 x5 r7 x8 c9 t10 x11 c12 t13 h0 n0 O0 f5 f2 hc3 f6 hc13 f14 f15 f16 hc17 hc18 hc19 hc20 hc21 g22) f5 (w 266 rfl) (w 267 rfl) (w 269 rfl) (w 268 rfl) (w 270 rfl) (w 3 rfl) (by decide) (W := 0) (by decide) (by decide) (by decide) (by decide) (g := (mkF m 15 #[lR r0, lI x1, lR r2] [(.int x4), (.int x1), (.ref r6), (.ref r2)])) rfl (by rw [hml]; rfl) (argsL := [(.ref r6), (.int x1), (.int x4)]) (rest := []) (lenOf pd___BIB_V rfl) rfl (own_W rfl) (hb hby d40_15)
  obtain ⟨rfl, N23q, K23, f24⟩ := hQ23
  have N23 := Fr.app N8 N23q
  have kp25 : Keep h0 T23.heap [r6] := (Keep.refl h0 [r6]).trans K23 (allS (Or.inl (List.mem_of_getElem? (i := 0) rfl)) all0)
  refine ⟨none, _, _, _, _, (fun _ => rfl), X23, by decide, by decide, ?_, fun fs hr => ?_⟩
  · exact ⟨rfl, N23, kp25, f24⟩
  · show SG p e below s₁ (mkF m 0 #[lR r0, lI x1, lR r2] []) _
    refine qaN X0 hx hby d40_0 ?_
    refine qaN X0 hx hby d40_1 ?_
    refine st8.trans ?_
    refine qaN X8 hx hby d40_5 ?_
    refine qaN X8 hx hby d40_6 ?_
    refine st11 _ ?_
    refine qiN X11 hx hby d40_10 ?_
    refine qaN X11 hx hby d40_11 ?_
    refine st12 _ ?_
    refine st23 _ ?_
    exact X23.returnOut hx hret (hb hby d40_18) hr
theorem pd__ILjava_lang_String__V : parseMethodDescriptor "(ILjava/lang/String;)V" = some ⟨[.int, (.object "java/lang/String")], none⟩ := by decide +kernel
theorem d33_33 : DK cB33 33 (.aload_n 0) 1 := by decide +kernel
theorem d33_34 : DK cB33 34 (.dup) 1 := by decide +kernel
theorem d33_35 : DK cB33 35 (.getfield 79) 3 := by decide +kernel
theorem d33_38 : DK cB33 38 (.iload_n 2) 1 := by decide +kernel
theorem d33_39 : DK cB33 39 (.iadd) 1 := by decide +kernel
theorem d33_40 : DK cB33 40 (.putfield 79) 3 := by decide +kernel
theorem d33_43 : DK cB33 43 (.aload_n 0) 1 := by decide +kernel
theorem d33_44 : DK cB33 44 (.areturn) 1 := by decide +kernel
def Q33_1 (Z : State) (r0 : Addr) (h0 : Heap) (n0 : Nat) (v : Option Value) (h : Heap) (L : List Loc) : Prop := ∃ (b16_0 : Addr) (k16_0 : ClassId), v = some (.ref r0) ∧ Fr n0 L ∧ Keep h0 h [r0] ∧ Fld Z h r0 cs22 "value" "[B" (.ref b16_0) ∧ Fld Z h r0 cs22 "coder" "B" vI0 ∧ Fld Z h r0 cs22 "count" "I" vI25 ∧ h0.size ≤ b16_0 ∧ Exa Z h b16_0 "[B" ∧ Arv Z h b16_0 k16_0 .byte (34 : Int32) [vI73, vI110, vI116, vI101, vI114, vI110, vI97, vI108, vI67, vI97, vI108, vI108, vI68, vI101, vI116, vI97, vI105, vI108, vI115, vI32, vI91, vI107, vI101, vI121, vI61, vI0, vI0, vI0, vI0, vI0, vI0, vI0, vI0, vI0] vI0
theorem rm33_1 (l : Launch) (Z : State) (a0 : Array Value) (hw : own_HW a0 Z) (ws : List Jvm.Cond) (r0 r1 r2 : Addr) (c3 : ClassId) (x4 : Int32) (r5 : Addr) (c6 : ClassId) (h0 : Heap) (n0 : Nat) (O0 : Old Z n0 h0) (f1 : Exa Z h0 r1 cs8) (f2 : Fld Z h0 r1 cs8 "value" "[B" (.ref r2)) (f3 : Arv Z h0 r2 c3 .byte (25 : Int32) [vI73, vI110, vI116, vI101, vI114, vI110, vI97, vI108, vI67, vI97, vI108, vI108, vI68, vI101, vI116, vI97, vI105, vI108, vI115, vI32, vI91, vI107, vI101, vI121, vI61] vI0) (f4 : Sta Z Z.heap cs8 cs9 "Z" (.int x4)) (hc5 : ¬ (x4 = (0 : Int32))) (f6 : Fld Z h0 r1 cs8 "coder" "B" vI0) (f8 : Fld Z h0 r0 cs22 "count" "I" vI0) (f10 : Exa Z h0 r0 cs23) (f11 : Fld Z h0 r0 cs22 "value" "[B" (.ref r5)) (f12 : Arv Z h0 r5 c6 .byte (16 : Int32) [vI0, vI0, vI0, vI0, vI0, vI0, vI0, vI0, vI0, vI0, vI0, vI0, vI0, vI0, vI0, vI0] vI0) (f13 : Fld Z h0 r0 cs22 "coder" "B" vI0) (g14 : n0 ≤ r0) (l15 : r0 < h0.size) (n27 : r1 ≠ r0) (n30 : r2 ≠ r0) :
    own_MF l mN24 jdk_68_method_22_code 3 (some (.object cs22)) ws rR4_1_34_62 Z h0 #[(.ref r0), (.ref r1)] (Q33_1 Z r0 h0 n0) := by
  refine own_open (plainFor_of_name pn_java_lang_AbstractStringBuilder) (L0 := #[lR r0, lR r1, lU]) (fun _ => by first | (simp [entryFrame, mkF, argsToLocals, Value.category]; done) | rfl) ?_
  intro p e s m below meth c s₁ hx hby hml hret hnn hZ hown X0 e0
  have N0 := Fr.nil n0; have w := @ww Z a0 hw
  obtain ⟨_, T7, Lc7, X7, hQ7, st7⟩ := own_cV X0 hx hZ hown e0 (rm34_1 l Z a0 hw [] r1 r2 (25 : Int32) c3 ([vI73, vI110, vI116, vI101, vI114, vI110, vI97, vI108, vI67, vI97, vI108, vI108, vI68, vI101, vI116, vI97, vI105, vI108, vI115, vI32, vI91, vI107, vI101, vI121, vI61]) x4 (0 : Int32) h0 n0 O0 f2 f3 f1 f4 hc5 f6) f1 (w 223 rfl) (w 224 rfl) (w 226 rfl) (w 225 rfl) (w 227 rfl) (w 3 rfl) (by decide) (W := 0) (by decide) (by decide) (by decide) (by decide) (g := (mkF m 10 #[lR r0, lR r1, lU] [(.ref r1)])) rfl (by rw [hml]; rfl) (argsL := []) (rest := []) (lenOf pd___I rfl) rfl (own_W rfl) (hb hby d33_10)
  obtain ⟨rfl, N7q, E7⟩ := hQ7
  have N7 := Fr.app N0 N7q
  obtain ⟨T9, X9, e9, st9⟩ := getF X7 hx hZ hown (host := "") (Or.inl (w 233 rfl)) Via.refl E7 f8 (g := (mkF m 16 #[lR r0, lR r1, lV vI25] [(.ref r0), (.ref r0)])) rfl rfl (hb hby d33_16)
  obtain ⟨cqq17, qq17, qq17'⟩ := f10.cell
  obtain ⟨_, T16, Lc16, X16, hQ16, st16⟩ := own_fin (X9.privateBack hx (y := mN20) hown (mvT hZ (w 235 rfl)) (mvT hZ (w 236 rfl)) (own_selfsel (mvT hZ (w 238 rfl)) (Cond.privateMethod_at (mvP hZ (w 237 rfl) (args := #[]))) (mvT hZ (w 236 rfl)) (by decide)) (Cond.privateMethod_at (mvP hZ (w 237 rfl) (args := #[]))) (mvT hZ (w 239 rfl)) (by decide) (backOf (W := 0) (rm36_1 l Z a0 hw [] r0 r5 c6 h0 n0 O0 f11 f12 f13 f10 g14 f8 l15) hZ (w 239 rfl) (w 202 rfl) (by decide) (by decide)) (g := (mkF m 21 #[lR r0, lR r1, lV vI25] [vI25, (.ref r0)])) rfl (by rw [hml]; rfl) (Steps.refl _) (a := r0) (by rw [e9]; exact qq17) qq17' (argsL := [vI25]) (rest := []) (lenOf pd__I_V rfl) rfl (own_W rfl) (hb hby d33_21) (fun _ _ => ⟨rfl, e9, (by decide : 0 + 1 ≤ _), (by decide : 0 + 34 ≤ _)⟩))
  obtain ⟨b16_0, k16_0, rfl, N16q, K16, f18, f19, f20, f21, f22, f23⟩ := hQ16
  have N16 := Fr.app N7 N16q
  obtain ⟨T24, X24, e24, st24⟩ := getF X16 hx hZ hown (host := "") (Or.inl (w 233 rfl)) Via.refl rfl f20 (g := (mkF m 26 #[lR r0, lR r1, lV vI25] [(.ref r0), (.ref r0)])) rfl rfl (hb hby d33_26)
  have f25 := (f10.keep K16)
  have f26 := (f1.keep K16)
  have f28 := (f6.keep K16 (ninS n27 nin0))
  have f29 := (f2.keep K16 (ninS n27 nin0))
  have f31 := (f3.keep K16 (ninS n30 nin0))
  have zz32 : n0 ≤ h0.size := by rw [← O0.1]; exact O0.2.1
  have g33 := Nat.le_trans zz32 f21
  have o34 := Old.keep O0 K16 (allS g14 all0)
  obtain ⟨cqq36, qq36, qq36'⟩ := f25.cell
  obtain ⟨_, T35, Lc35, X35, hQ35, st35⟩ := own_fin (X24.privateBack hx (y := mN23) hown (mvT hZ (w 255 rfl)) (mvT hZ (w 256 rfl)) (own_selfsel (mvT hZ (w 258 rfl)) (Cond.privateMethod_at (mvP hZ (w 257 rfl) (args := #[]))) (mvT hZ (w 256 rfl)) (by decide)) (Cond.privateMethod_at (mvP hZ (w 257 rfl) (args := #[]))) (mvT hZ (w 259 rfl)) (by decide) (backOf (W := 0) (rm40_1 l Z a0 hw [] r0 (0 : Int32) r1 x4 (0 : Int32) (0 : Int32) b16_0 r2 (25 : Int32) c3 ([vI73, vI110, vI116, vI101, vI114, vI110, vI97, vI108, vI67, vI97, vI108, vI108, vI68, vI101, vI116, vI97, vI105, vI108, vI115, vI32, vI91, vI107, vI101, vI121, vI61]) (34 : Int32) k16_0 ([vI0, vI0, vI0, vI0, vI0, vI0, vI0, vI0, vI0, vI0, vI0, vI0, vI0, vI0, vI0, vI0, vI0, vI0, vI0, vI0, vI0, vI0, vI0, vI0, vI0, vI0, vI0, vI0, vI0, vI0, vI0, vI0, vI0, vI0]) T16.heap n0 o34 f25 f4 hc5 f19 f26 f28 (by decide) f18 (by decide) f29 f31 f22 (by decide) (by decide) (by decide) (by decide) (by decide) g33) hZ (w 259 rfl) (w 202 rfl) (by decide) (by decide)) (g := (mkF m 30 #[lR r0, lR r1, lV vI25] [(.ref r1), vI0, (.ref r0)])) rfl (by rw [hml]; rfl) (Steps.refl _) (a := r0) (by rw [e24]; exact qq36) qq36' (argsL := [vI0, (.ref r1)]) (rest := []) (lenOf pd__ILjava_lang_String__V rfl) rfl (own_W rfl) (hb hby d33_30) (fun _ _ => ⟨rfl, e24, (by decide : 1 + 0 ≤ _), (by decide : 34 + 0 ≤ _)⟩))
  obtain ⟨rfl, N35q, K35, f37⟩ := hQ35
  have N35 := Fr.app N16 N35q
  have f38 : Arv Z T35.heap b16_0 k16_0 .byte (34 : Int32) [vI73, vI110, vI116, vI101, vI114, vI110, vI97, vI108, vI67, vI97, vI108, vI108, vI68, vI101, vI116, vI97, vI105, vI108, vI115, vI32, vI91, vI107, vI101, vI121, vI61, vI0, vI0, vI0, vI0, vI0, vI0, vI0, vI0, vI0] vI0 := own_cpx (by decide : (((0 : Int32) <<< ((0 : Int32) &&& 31))).toNatClampNeg = 0) (by decide : (((0 : Int32) <<< ((0 : Int32) &&& 31))).toNatClampNeg + ((25 : Int32)).toNatClampNeg = 25) f37
  have n39 := Nat.ne_of_lt (Nat.lt_of_lt_of_le l15 f21)
  have f40 := (f20.keep K35 (ninS n39 nin0))
  obtain ⟨T41, X41, e41, st41⟩ := getF X35 hx hZ hown (host := "") (Or.inl (w 233 rfl)) Via.refl rfl f40 (g := (mkF m 35 #[lR r0, lR r1, lV vI25] [(.ref r0), (.ref r0)])) rfl rfl (hb hby d33_35)
  have f42 := (f25.keep K35)
  obtain ⟨T43, h43, X43, e43, W43, st43⟩ := putF X41 hx hZ hown (host := "") (Or.inl (w 233 rfl)) Via.refl e41 f40 f42 (Or.inl (w 234 rfl)) (w 193 rfl) (ty := .int) (by decide) rfl rfl (g := (mkF m 40 #[lR r0, lR r1, lV vI25] [vI25, (.ref r0)])) rfl rfl (hb hby d33_40)
  have Fw43 := f40.same W43
  have N43 := Fr.snoc X43 N35 g14
  have f44 := ((f18.keep K35 (ninS n39 nin0)).other W43 (Or.inr (slot_ne (Or.inl (w 207 rfl)) (Or.inl (w 234 rfl)) (by decide) (t := (.array .byte)) (t' := .int) (by decide) (by decide))))
  have f45 := ((f19.keep K35 (ninS n39 nin0)).other W43 (Or.inr (slot_ne (Or.inl (w 209 rfl)) (Or.inl (w 234 rfl)) (by decide) (t := .byte) (t' := .int) (by decide) (by decide))))
  have f46 := ((f23.keep K35).wr W43)
  have f47 := (f38.other W43 (Ne.symm n39))
  have kp48 : Keep h0 T16.heap [r0] := (Keep.refl h0 [r0]).trans K16 (allS (Or.inl (List.mem_of_getElem? (i := 0) rfl)) all0)
  have kp49 : Keep h0 T35.heap [r0] := kp48.trans K35 (allS (Or.inr f21) all0)
  have kp50 : Keep h0 h43 [r0] := kp49.wr W43 (Or.inl (List.mem_of_getElem? (i := 0) rfl))
  refine ⟨some (.ref r0), _, _, _, _, nofun, X43, by decide, by decide, ?_, fun fs hr => ?_⟩
  · rw [e43]; exact ⟨b16_0, k16_0, rfl, N43, kp50, f44, f45, Fw43, f21, f46, f47⟩
  · show SG p e below s₁ (mkF m 0 #[lR r0, lR r1, lU] []) _
    refine qaN X0 hx hby d33_0 ?_
    refine XS.ifnonnullYes X0.here hx rfl (pc0 := 1) (pc' := 9) rfl (hb hby d33_1) rfl (by decide) (by decide) ?_
    refine qaN X0 hx hby d33_9 ?_
    refine st7 _ ?_
    refine XS.istoreN X7.here hx rfl (hb hby d33_13) rfl (l' := #[lR r0, lR r1, lV vI25]) rfl ?_
    refine qaN X7 hx hby d33_14 ?_
    refine qaN X7 hx hby d33_15 ?_
    refine st9 _ ?_
    refine qiN X9 hx hby d33_19 ?_
    refine XS.iadd X9.here hx rfl (hb hby d33_20) rfl ?_
    refine st16.trans ?_
    refine qaN X16 hx hby d33_24 ?_
    refine qaN X16 hx hby d33_25 ?_
    refine st24 _ ?_
    refine qaN X24 hx hby d33_29 ?_
    refine st35.trans ?_
    refine qaN X35 hx hby d33_33 ?_
    refine qd X35 hx hby d33_34 ?_
    refine st41 _ ?_
    refine qiN X41 hx hby d33_38 ?_
    refine XS.iadd X41.here hx rfl (hb hby d33_39) rfl ?_
    refine st43 _ ?_
    refine qaN X43 hx hby d33_43 ?_
    exact retOut X43 hx (i := .areturn) hret rfl (Or.inr (Or.inr (Or.inr (Or.inr ⟨rfl, rfl, rfl⟩)))) (hb hby d33_44) hr
theorem pd__Ljava_lang_String__Ljava_lang_AbstractStringBuilder_ : parseMethodDescriptor "(Ljava/lang/String;)Ljava/lang/AbstractStringBuilder;" = some ⟨[(.object "java/lang/String")], some (.object "java/lang/AbstractStringBuilder")⟩ := by decide +kernel
theorem own_sameOwn {Z : State} {a0 : Array Value} {C : String} {y0 y' y : MethodName} (hsel : (Jvm.Cond.selects C y0 y').before a0 Z = true) (hc : y'.cls = y.cls) (hinst : (Jvm.Cond.instanceMethod y).before a0 Z = true) (hy : y.cls ≠ "java/lang/invoke/MethodHandle" ∧ y.cls ≠ "java/lang/invoke/VarHandle") : (Jvm.Cond.sameMethod y.cls y.cls y.name y.desc).before a0 Z = true := by
  obtain ⟨c2, r2, m2, -, -, q3, -, kP, hkP, hkPi⟩ := Cond.selects_spec hsel
  obtain ⟨mk, methM, hnamed, hmethM, -, -⟩ := Cond.instanceMethod_spec hinst
  have hfound : Z.methodFound? y.cls y.name y.desc = some mk := State.methodFound?_of_named hnamed hy
  have f1 := findClass_of_methodNamed hnamed
  have f2 := findClass_of_methodNamed q3
  rw [hc, f1] at f2
  have e : mk.cls = m2.cls := Option.some.inj f2
  rw [← e] at hkP
  have hn2 : Z.methodNamed? ⟨y.cls, y.name, y.desc⟩ = some mk := hnamed
  simp only [Cond.before, Cond.holds, Cond.value, f1, hfound, hn2, hkP]
  simp [hkPi]
theorem d32_5 : DK cB32 5 (.pop) 1 := by decide +kernel
theorem d32_6 : DK cB32 6 (.aload_n 0) 1 := by decide +kernel
theorem d32_7 : DK cB32 7 (.areturn) 1 := by decide +kernel
def Q32_1 (Z : State) (r0 : Addr) (h0 : Heap) (n0 : Nat) (v : Option Value) (h : Heap) (L : List Loc) : Prop := ∃ (b16_0 : Addr) (k16_0 : ClassId), v = some (.ref r0) ∧ Fr n0 L ∧ Keep h0 h [r0] ∧ Fld Z h r0 cs22 "value" "[B" (.ref b16_0) ∧ Fld Z h r0 cs22 "coder" "B" vI0 ∧ Fld Z h r0 cs22 "count" "I" vI25 ∧ h0.size ≤ b16_0 ∧ Exa Z h b16_0 "[B" ∧ Arv Z h b16_0 k16_0 .byte (34 : Int32) [vI73, vI110, vI116, vI101, vI114, vI110, vI97, vI108, vI67, vI97, vI108, vI108, vI68, vI101, vI116, vI97, vI105, vI108, vI115, vI32, vI91, vI107, vI101, vI121, vI61, vI0, vI0, vI0, vI0, vI0, vI0, vI0, vI0, vI0] vI0
theorem rm32_1 (l : Launch) (Z : State) (a0 : Array Value) (hw : own_HW a0 Z) (ws : List Jvm.Cond) (r0 r1 r2 : Addr) (c3 : ClassId) (x4 : Int32) (r5 : Addr) (c6 : ClassId) (h0 : Heap) (n0 : Nat) (O0 : Old Z n0 h0) (f1 : Exa Z h0 r1 cs8) (f2 : Fld Z h0 r1 cs8 "value" "[B" (.ref r2)) (f3 : Arv Z h0 r2 c3 .byte (25 : Int32) [vI73, vI110, vI116, vI101, vI114, vI110, vI97, vI108, vI67, vI97, vI108, vI108, vI68, vI101, vI116, vI97, vI105, vI108, vI115, vI32, vI91, vI107, vI101, vI121, vI61] vI0) (f4 : Sta Z Z.heap cs8 cs9 "Z" (.int x4)) (hc5 : ¬ (x4 = (0 : Int32))) (f6 : Fld Z h0 r1 cs8 "coder" "B" vI0) (f7 : Fld Z h0 r0 cs22 "count" "I" vI0) (f8 : Exa Z h0 r0 cs23) (f9 : Fld Z h0 r0 cs22 "value" "[B" (.ref r5)) (f10 : Arv Z h0 r5 c6 .byte (16 : Int32) [vI0, vI0, vI0, vI0, vI0, vI0, vI0, vI0, vI0, vI0, vI0, vI0, vI0, vI0, vI0, vI0] vI0) (f11 : Fld Z h0 r0 cs22 "coder" "B" vI0) (g12 : n0 ≤ r0) (l13 : r0 < h0.size) (n14 : r1 ≠ r0) (n15 : r2 ≠ r0) :
    own_MF l mN25 jdk_67_method_7_code 2 (some (.object cs23)) ws rR5_1_34_76 Z h0 #[(.ref r0), (.ref r1)] (Q32_1 Z r0 h0 n0) := by
  refine own_open (plainFor_of_name pn_java_lang_StringBuilder) (L0 := #[lR r0, lR r1]) (fun _ => by first | (simp [entryFrame, mkF, argsToLocals, Value.category]; done) | rfl) ?_
  intro p e s m below meth c s₁ hx hby hml hret hnn hZ hown X0 e0
  have N0 := Fr.nil n0; have w := @ww Z a0 hw
  obtain ⟨_, T16, Lc16, X16, hQ16, st16⟩ := own_fin (superBack X0 hx hZ (y := mN24) hown (w 218 rfl) (own_sameOwn (y := mN24) (w 238 rfl) rfl (w 219 rfl) (by decide)) (w 219 rfl) (w 220 rfl) (by decide) (backOf (W := 0) (rm33_1 l Z a0 hw [] r0 r1 r2 c3 x4 r5 c6 h0 n0 O0 f1 f2 f3 f4 hc5 f6 f7 f8 f9 f10 f11 g12 l13 n14 n15) hZ (w 222 rfl) (w 202 rfl) (by decide) (by decide)) e0 (Ins.self f8) (g := (mkF m 2 #[lR r0, lR r1] [(.ref r1), (.ref r0)])) rfl (by rw [hml]; rfl) (w 222 rfl) (argsL := [(.ref r1)]) (rest := []) (lenOf pd__Ljava_lang_String__Ljava_lang_AbstractStringBuilder_ rfl) rfl (own_W rfl) (hb hby d32_2) (fun _ _ => ⟨rfl, e0, (by decide : 0 + 1 ≤ _), (by decide : 0 + 34 ≤ _)⟩))
  obtain ⟨b16_0, k16_0, rfl, N16q, K16, f17, f18, f19, f20, f21, f22⟩ := hQ16
  have N16 := Fr.app N0 N16q
  have kp23 : Keep h0 T16.heap [r0] := (Keep.refl h0 [r0]).trans K16 (allS (Or.inl (List.mem_of_getElem? (i := 0) rfl)) all0)
  refine ⟨some (.ref r0), _, _, _, _, nofun, X16, by decide, by decide, ?_, fun fs hr => ?_⟩
  · exact ⟨b16_0, k16_0, rfl, N16, kp23, f17, f18, f19, f20, f21, f22⟩
  · show SG p e below s₁ (mkF m 0 #[lR r0, lR r1] []) _
    refine qaN X0 hx hby d32_0 ?_
    refine qaN X0 hx hby d32_1 ?_
    refine st16.trans ?_
    refine XS.pop X16.here hx rfl (hb hby d32_5) rfl rfl ?_
    refine qaN X16 hx hby d32_6 ?_
    exact retOut X16 hx (i := .areturn) hret rfl (Or.inr (Or.inr (Or.inr (Or.inr ⟨rfl, rfl, rfl⟩)))) (hb hby d32_7) hr
theorem pd__Ljava_lang_String__Ljava_lang_StringBuilder_ : parseMethodDescriptor "(Ljava/lang/String;)Ljava/lang/StringBuilder;" = some ⟨[(.object "java/lang/String")], some (.object "java/lang/StringBuilder")⟩ := by decide +kernel
theorem d29_12 : DK cB29 12 (.aload_n 0) 1 := by decide +kernel
theorem d29_13 : DK cB29 13 (.getfield 7) 3 := by decide +kernel
theorem d29_16 : DK cB29 16 (.invokevirtual 28) 3 := by decide +kernel
def Q36_2 (Z : State)  (h0 : Heap) (n0 : Nat) (v : Option Value) (h : Heap) (L : List Loc) : Prop := v = none ∧ Fr n0 L ∧ h = h0
theorem rm36_2 (l : Launch) (Z : State) (a0 : Array Value) (hw : own_HW a0 Z) (ws : List Jvm.Cond) (r0 : Addr) (x1 : Int32) (r2 : Addr) (x3 : Int32) (c4 : ClassId) (t5 : List Value) (x6 : Int32) (h0 : Heap) (n0 : Nat) (O0 : Old Z n0 h0) (f1 : Fld Z h0 r0 cs22 "value" "[B" (.ref r2)) (f3 : Arv Z h0 r2 c4 .byte x3 t5 vI0) (f5 : Fld Z h0 r0 cs22 "coder" "B" (.int x6)) (hc7 : ¬ ((0 : Int32) < (x1 - (x3 >>> (x6 &&& 31))))) :
    own_MF l mN20 jdk_68_method_9_code 3 none ws rR0_0_0_0 Z h0 #[(.ref r0), (.int x1)] (Q36_2 Z  h0 n0) := by
  refine own_open (plainFor_of_name pn_java_lang_AbstractStringBuilder) (L0 := #[lR r0, lI x1, lU]) (fun _ => by first | (simp [entryFrame, mkF, argsToLocals, Value.category]; done) | rfl) ?_
  intro p e s m below meth c s₁ hx hby hml hret hnn hZ hown X0 e0
  have N0 := Fr.nil n0
  obtain ⟨T2, X2, e2, st2⟩ := getF X0 hx hZ hown (host := "") (Or.inl (ww hw 206 rfl)) Via.refl e0 f1 (g := (mkF m 1 #[lR r0, lI x1, lU] [(.ref r0)])) rfl rfl (hb hby d36_1)
  obtain ⟨clq4, Arq4, qq4, Sq4, Nq4, Hq4, Gq4⟩ := id f3
  obtain ⟨T6, X6, e6, st6⟩ := getF X2 hx hZ hown (host := "") (Or.inl (ww hw 208 rfl)) Via.refl e2 f5 (g := (mkF m 6 #[lR r0, lI x1, lU] [(.ref r0), (.int x3)])) rfl rfl (hb hby d36_6)
  refine ⟨none, _, _, _, _, (fun _ => rfl), X6, by decide, by decide, ?_, fun fs hr => ?_⟩
  · rw [e6]; exact ⟨rfl, N0, rfl⟩
  · show SG p e below s₁ (mkF m 0 #[lR r0, lI x1, lU] []) _
    refine qaN X0 hx hby d36_0 ?_
    refine st2 _ ?_
    refine X2.arraylength hx (by rw [e2]; exact Arq4.1) (State.isArrayOf_alike hZ.alike Arq4.2.1) (g := (mkF m 4 #[lR r0, lI x1, lU] [(.ref r2)])) rfl rfl (hb hby d36_4) _ ?_
    rw [len_of Sq4 Nq4]
    refine qaN X2 hx hby d36_5 ?_
    refine st6 _ ?_
    refine XS.ishr X6.here hx rfl (hb hby d36_9) rfl ?_
    refine XS.istoreN X6.here hx rfl (hb hby d36_10) rfl (l' := #[lR r0, lI x1, .val (.int (x3 >>> (x6 &&& 31)))]) rfl ?_
    refine qiN X6 hx hby d36_11 ?_
    refine qiN X6 hx hby d36_12 ?_
    refine XS.isub X6.here hx rfl (hb hby d36_13) rfl ?_
    refine XS.ifYes X6.here hx rfl (pc0 := 14) (pc' := 38) rfl (hb hby d36_14) rfl ((if0 _ _).trans (flt hc7).2.2.2) (by decide) (by decide) ?_
    exact X6.returnOut hx hret (hb hby d36_38) hr
def Q33_2 (Z : State) (r0 : Addr) (x3 : Int32) (t5 : List Value) (x7 x8 : Int32) (r9 : Addr) (x10 : Int32) (c11 : ClassId) (t12 : List Value) (x13 : Int32) (h0 : Heap) (n0 : Nat) (v : Option Value) (h : Heap) (L : List Loc) : Prop := v = some (.ref r0) ∧ Fr n0 L ∧ Keep h0 h [r9, r0] ∧ Arv Z h r9 c11 .byte x10 (t12.take ((x8 <<< (x13 &&& 31))).toNatClampNeg ++ t5 ++ t12.drop (((x8 <<< (x13 &&& 31))).toNatClampNeg + (x3).toNatClampNeg)) vI0 ∧ Fld Z h r0 cs22 "count" "I" (.int (x8 + (x3 >>> ((nar .byte x7) &&& 31)))) ∧ Fld Z h r0 cs22 "value" "[B" (.ref r9) ∧ Fld Z h r0 cs22 "coder" "B" (.int x13)
theorem rm33_2 (l : Launch) (Z : State) (a0 : Array Value) (hw : own_HW a0 Z) (ws : List Jvm.Cond) (r0 r1 r2 : Addr) (x3 : Int32) (c4 : ClassId) (t5 : List Value) (x6 x7 x8 : Int32) (r9 : Addr) (x10 : Int32) (c11 : ClassId) (t12 : List Value) (x13 : Int32) (h0 : Heap) (n0 : Nat) (O0 : Old Z n0 h0) (f1 : Exa Z h0 r1 cs8) (f2 : Fld Z h0 r1 cs8 "value" "[B" (.ref r2)) (f3 : Arv Z h0 r2 c4 .byte x3 t5 vI0) (f4 : Sta Z Z.heap cs8 cs9 "Z" (.int x6)) (hc5 : ¬ (x6 = (0 : Int32))) (f6 : Fld Z h0 r1 cs8 "coder" "B" (.int x7)) (f8 : Fld Z h0 r0 cs22 "count" "I" (.int x8)) (f10 : Exa Z h0 r0 cs23) (f11 : Fld Z h0 r0 cs22 "value" "[B" (.ref r9)) (f12 : Arv Z h0 r9 c11 .byte x10 t12 vI0) (f13 : Fld Z h0 r0 cs22 "coder" "B" (.int x13)) (hc14 : ¬ ((0 : Int32) < ((x8 + (x3 >>> ((nar .byte x7) &&& 31))) - (x10 >>> (x13 &&& 31))))) (hc18 : x13 = (nar .byte x7)) (hc19 : (nar .byte x7) = x13) (hc20 : t5.length = (x3).toNatClampNeg) (hc21 : t12.length = (x10).toNatClampNeg) (hc22 : ¬ ((x8 <<< (x13 &&& 31)) < 0)) (hc23 : ¬ (x3 < 0)) (hc24 : ((x8 <<< (x13 &&& 31))).toNatClampNeg + (x3).toNatClampNeg ≤ (x10).toNatClampNeg) (g25 : n0 ≤ r9) (n29 : r0 ≠ r9) (g33 : n0 ≤ r0) :
    own_MF l mN24 jdk_68_method_22_code 3 (some (.object cs22)) ws rR3_0_0_53 Z h0 #[(.ref r0), (.ref r1)] (Q33_2 Z r0 x3 t5 x7 x8 r9 x10 c11 t12 x13 h0 n0) := by
  refine own_open (plainFor_of_name pn_java_lang_AbstractStringBuilder) (L0 := #[lR r0, lR r1, lU]) (fun _ => by first | (simp [entryFrame, mkF, argsToLocals, Value.category]; done) | rfl) ?_
  intro p e s m below meth c s₁ hx hby hml hret hnn hZ hown X0 e0
  have N0 := Fr.nil n0; have w := @ww Z a0 hw
  obtain ⟨_, T7, Lc7, X7, hQ7, st7⟩ := own_cV X0 hx hZ hown e0 (rm34_1 l Z a0 hw [] r1 r2 x3 c4 t5 x6 x7 h0 n0 O0 f2 f3 f1 f4 hc5 f6) f1 (w 223 rfl) (w 224 rfl) (w 226 rfl) (w 225 rfl) (w 227 rfl) (w 3 rfl) (by decide) (W := 0) (by decide) (by decide) (by decide) (by decide) (g := (mkF m 10 #[lR r0, lR r1, lU] [(.ref r1)])) rfl (by rw [hml]; rfl) (argsL := []) (rest := []) (lenOf pd___I rfl) rfl (own_W rfl) (hb hby d33_10)
  obtain ⟨rfl, N7q, E7⟩ := hQ7
  have N7 := Fr.app N0 N7q
  obtain ⟨T9, X9, e9, st9⟩ := getF X7 hx hZ hown (host := "") (Or.inl (w 233 rfl)) Via.refl E7 f8 (g := (mkF m 16 #[lR r0, lR r1, .val (.int (x3 >>> ((nar .byte x7) &&& 31)))] [(.ref r0), (.ref r0)])) rfl rfl (hb hby d33_16)
  obtain ⟨cqq16, qq16, qq16'⟩ := f10.cell
  obtain ⟨_, T15, Lc15, X15, hQ15, st15⟩ := own_fin (X9.privateBack hx (y := mN20) hown (mvT hZ (w 235 rfl)) (mvT hZ (w 236 rfl)) (own_selfsel (mvT hZ (w 238 rfl)) (Cond.privateMethod_at (mvP hZ (w 237 rfl) (args := #[]))) (mvT hZ (w 236 rfl)) (by decide)) (Cond.privateMethod_at (mvP hZ (w 237 rfl) (args := #[]))) (mvT hZ (w 239 rfl)) (by decide) (backOf (W := 0) (rm36_2 l Z a0 hw [] r0 (x8 + (x3 >>> ((nar .byte x7) &&& 31))) r9 x10 c11 t12 x13 h0 n0 O0 f11 f12 f13 hc14) hZ (w 239 rfl) (w 202 rfl) (by decide) (by decide)) (g := (mkF m 21 #[lR r0, lR r1, .val (.int (x3 >>> ((nar .byte x7) &&& 31)))] [(.int (x8 + (x3 >>> ((nar .byte x7) &&& 31)))), (.ref r0)])) rfl (by rw [hml]; rfl) (Steps.refl _) (a := r0) (by rw [e9]; exact qq16) qq16' (argsL := [(.int (x8 + (x3 >>> ((nar .byte x7) &&& 31))))]) (rest := []) (lenOf pd__I_V rfl) rfl (own_W rfl) (hb hby d33_21) (fun _ _ => ⟨rfl, e9, (by decide : 0 + 0 ≤ _), (by decide : 0 + 0 ≤ _)⟩))
  obtain ⟨rfl, N15q, E15⟩ := hQ15
  have N15 := Fr.app N7 N15q
  obtain ⟨T17, X17, e17, st17⟩ := getF X15 hx hZ hown (host := "") (Or.inl (w 233 rfl)) Via.refl E15 f8 (g := (mkF m 26 #[lR r0, lR r1, .val (.int (x3 >>> ((nar .byte x7) &&& 31)))] [(.ref r0), (.ref r0)])) rfl rfl (hb hby d33_26)
  obtain ⟨cqq27, qq27, qq27'⟩ := f10.cell
  obtain ⟨_, T26, Lc26, X26, hQ26, st26⟩ := own_fin (X17.privateBack hx (y := mN23) hown (mvT hZ (w 255 rfl)) (mvT hZ (w 256 rfl)) (own_selfsel (mvT hZ (w 258 rfl)) (Cond.privateMethod_at (mvP hZ (w 257 rfl) (args := #[]))) (mvT hZ (w 256 rfl)) (by decide)) (Cond.privateMethod_at (mvP hZ (w 257 rfl) (args := #[]))) (mvT hZ (w 259 rfl)) (by decide) (backOf (W := 0) (rm40_1 l Z a0 hw [] r0 x8 r1 x6 x13 x7 r9 r2 x3 c4 t5 x10 c11 t12 h0 n0 O0 f10 f4 hc5 f13 f1 f6 hc18 f11 hc19 f2 f3 f12 hc20 hc21 hc22 hc23 hc24 g25) hZ (w 259 rfl) (w 202 rfl) (by decide) (by decide)) (g := (mkF m 30 #[lR r0, lR r1, .val (.int (x3 >>> ((nar .byte x7) &&& 31)))] [(.ref r1), (.int x8), (.ref r0)])) rfl (by rw [hml]; rfl) (Steps.refl _) (a := r0) (by rw [e17]; exact qq27) qq27' (argsL := [(.int x8), (.ref r1)]) (rest := []) (lenOf pd__ILjava_lang_String__V rfl) rfl (own_W rfl) (hb hby d33_30) (fun _ _ => ⟨rfl, e17, (by decide : 0 + 0 ≤ _), (by decide : 0 + 0 ≤ _)⟩))
  obtain ⟨rfl, N26q, K26, f28⟩ := hQ26
  have N26 := Fr.app N15 N26q
  have f30 := (f8.keep K26 (ninS n29 nin0))
  obtain ⟨T31, X31, e31, st31⟩ := getF X26 hx hZ hown (host := "") (Or.inl (w 233 rfl)) Via.refl rfl f30 (g := (mkF m 35 #[lR r0, lR r1, .val (.int (x3 >>> ((nar .byte x7) &&& 31)))] [(.ref r0), (.ref r0)])) rfl rfl (hb hby d33_35)
  have f32 := (f10.keep K26)
  obtain ⟨T34, h34, X34, e34, W34, st34⟩ := putF X31 hx hZ hown (host := "") (Or.inl (w 233 rfl)) Via.refl e31 f30 f32 (Or.inl (w 234 rfl)) (w 193 rfl) (ty := .int) (by decide) rfl rfl (g := (mkF m 40 #[lR r0, lR r1, .val (.int (x3 >>> ((nar .byte x7) &&& 31)))] [(.int (x8 + (x3 >>> ((nar .byte x7) &&& 31)))), (.ref r0)])) rfl rfl (hb hby d33_40)
  have Fw34 := f30.same W34
  have N34 := Fr.snoc X34 N26 g33
  have f35 := (f28.other W34 (Ne.symm n29))
  have f36 := ((f11.keep K26 (ninS n29 nin0)).other W34 (Or.inr (slot_ne (Or.inl (w 207 rfl)) (Or.inl (w 234 rfl)) (by decide) (t := (.array .byte)) (t' := .int) (by decide) (by decide))))
  have f37 := ((f13.keep K26 (ninS n29 nin0)).other W34 (Or.inr (slot_ne (Or.inl (w 209 rfl)) (Or.inl (w 234 rfl)) (by decide) (t := .byte) (t' := .int) (by decide) (by decide))))
  have kp38 : Keep h0 T26.heap [r9, r0] := (Keep.refl h0 [r9, r0]).trans K26 (allS (Or.inl (List.mem_of_getElem? (i := 0) rfl)) all0)
  have kp39 : Keep h0 h34 [r9, r0] := kp38.wr W34 (Or.inl (List.mem_of_getElem? (i := 1) rfl))
  refine ⟨some (.ref r0), _, _, _, _, nofun, X34, by decide, by decide, ?_, fun fs hr => ?_⟩
  · rw [e34]; exact ⟨rfl, N34, kp39, f35, Fw34, f36, f37⟩
  · show SG p e below s₁ (mkF m 0 #[lR r0, lR r1, lU] []) _
    refine qaN X0 hx hby d33_0 ?_
    refine XS.ifnonnullYes X0.here hx rfl (pc0 := 1) (pc' := 9) rfl (hb hby d33_1) rfl (by decide) (by decide) ?_
    refine qaN X0 hx hby d33_9 ?_
    refine st7 _ ?_
    refine XS.istoreN X7.here hx rfl (hb hby d33_13) rfl (l' := #[lR r0, lR r1, .val (.int (x3 >>> ((nar .byte x7) &&& 31)))]) rfl ?_
    refine qaN X7 hx hby d33_14 ?_
    refine qaN X7 hx hby d33_15 ?_
    refine st9 _ ?_
    refine qiN X9 hx hby d33_19 ?_
    refine XS.iadd X9.here hx rfl (hb hby d33_20) rfl ?_
    refine st15.trans ?_
    refine qaN X15 hx hby d33_24 ?_
    refine qaN X15 hx hby d33_25 ?_
    refine st17 _ ?_
    refine qaN X17 hx hby d33_29 ?_
    refine st26.trans ?_
    refine qaN X26 hx hby d33_33 ?_
    refine qd X26 hx hby d33_34 ?_
    refine st31 _ ?_
    refine qiN X31 hx hby d33_38 ?_
    refine XS.iadd X31.here hx rfl (hb hby d33_39) rfl ?_
    refine st34 _ ?_
    refine qaN X34 hx hby d33_43 ?_
    exact retOut X34 hx (i := .areturn) hret rfl (Or.inr (Or.inr (Or.inr (Or.inr ⟨rfl, rfl, rfl⟩)))) (hb hby d33_44) hr
def Q32_2 (Z : State) (r0 : Addr) (x3 : Int32) (t5 : List Value) (x7 x8 : Int32) (r9 : Addr) (x10 : Int32) (c11 : ClassId) (t12 : List Value) (x13 : Int32) (h0 : Heap) (n0 : Nat) (v : Option Value) (h : Heap) (L : List Loc) : Prop := v = some (.ref r0) ∧ Fr n0 L ∧ Keep h0 h [r9, r0] ∧ Arv Z h r9 c11 .byte x10 (t12.take ((x8 <<< (x13 &&& 31))).toNatClampNeg ++ t5 ++ t12.drop (((x8 <<< (x13 &&& 31))).toNatClampNeg + (x3).toNatClampNeg)) vI0 ∧ Fld Z h r0 cs22 "count" "I" (.int (x8 + (x3 >>> ((nar .byte x7) &&& 31)))) ∧ Fld Z h r0 cs22 "value" "[B" (.ref r9) ∧ Fld Z h r0 cs22 "coder" "B" (.int x13)
theorem rm32_2 (l : Launch) (Z : State) (a0 : Array Value) (hw : own_HW a0 Z) (ws : List Jvm.Cond) (r0 r1 r2 : Addr) (x3 : Int32) (c4 : ClassId) (t5 : List Value) (x6 x7 x8 : Int32) (r9 : Addr) (x10 : Int32) (c11 : ClassId) (t12 : List Value) (x13 : Int32) (h0 : Heap) (n0 : Nat) (O0 : Old Z n0 h0) (f1 : Exa Z h0 r1 cs8) (f2 : Fld Z h0 r1 cs8 "value" "[B" (.ref r2)) (f3 : Arv Z h0 r2 c4 .byte x3 t5 vI0) (f4 : Sta Z Z.heap cs8 cs9 "Z" (.int x6)) (hc5 : ¬ (x6 = (0 : Int32))) (f6 : Fld Z h0 r1 cs8 "coder" "B" (.int x7)) (f7 : Fld Z h0 r0 cs22 "count" "I" (.int x8)) (f8 : Exa Z h0 r0 cs23) (f9 : Fld Z h0 r0 cs22 "value" "[B" (.ref r9)) (f10 : Arv Z h0 r9 c11 .byte x10 t12 vI0) (f11 : Fld Z h0 r0 cs22 "coder" "B" (.int x13)) (hc12 : ¬ ((0 : Int32) < ((x8 + (x3 >>> ((nar .byte x7) &&& 31))) - (x10 >>> (x13 &&& 31))))) (hc13 : x13 = (nar .byte x7)) (hc14 : (nar .byte x7) = x13) (hc15 : t5.length = (x3).toNatClampNeg) (hc16 : t12.length = (x10).toNatClampNeg) (hc17 : ¬ ((x8 <<< (x13 &&& 31)) < 0)) (hc18 : ¬ (x3 < 0)) (hc19 : ((x8 <<< (x13 &&& 31))).toNatClampNeg + (x3).toNatClampNeg ≤ (x10).toNatClampNeg) (g20 : n0 ≤ r9) (n21 : r0 ≠ r9) (g22 : n0 ≤ r0) :
    own_MF l mN25 jdk_67_method_7_code 2 (some (.object cs23)) ws rR4_0_0_67 Z h0 #[(.ref r0), (.ref r1)] (Q32_2 Z r0 x3 t5 x7 x8 r9 x10 c11 t12 x13 h0 n0) := by
  refine own_open (plainFor_of_name pn_java_lang_StringBuilder) (L0 := #[lR r0, lR r1]) (fun _ => by first | (simp [entryFrame, mkF, argsToLocals, Value.category]; done) | rfl) ?_
  intro p e s m below meth c s₁ hx hby hml hret hnn hZ hown X0 e0
  have N0 := Fr.nil n0; have w := @ww Z a0 hw
  obtain ⟨_, T23, Lc23, X23, hQ23, st23⟩ := own_fin (superBack X0 hx hZ (y := mN24) hown (w 218 rfl) (own_sameOwn (y := mN24) (w 238 rfl) rfl (w 219 rfl) (by decide)) (w 219 rfl) (w 220 rfl) (by decide) (backOf (W := 0) (rm33_2 l Z a0 hw [] r0 r1 r2 x3 c4 t5 x6 x7 x8 r9 x10 c11 t12 x13 h0 n0 O0 f1 f2 f3 f4 hc5 f6 f7 f8 f9 f10 f11 hc12 hc13 hc14 hc15 hc16 hc17 hc18 hc19 g20 n21 g22) hZ (w 222 rfl) (w 202 rfl) (by decide) (by decide)) e0 (Ins.self f8) (g := (mkF m 2 #[lR r0, lR r1] [(.ref r1), (.ref r0)])) rfl (by rw [hml]; rfl) (w 222 rfl) (argsL := [(.ref r1)]) (rest := []) (lenOf pd__Ljava_lang_String__Ljava_lang_AbstractStringBuilder_ rfl) rfl (own_W rfl) (hb hby d32_2) (fun _ _ => ⟨rfl, e0, (by decide : 0 + 0 ≤ _), (by decide : 0 + 0 ≤ _)⟩))
  obtain ⟨rfl, N23q, K23, f24, f25, f26, f27⟩ := hQ23
  have N23 := Fr.app N0 N23q
  have kp28 : Keep h0 T23.heap [r9, r0] := (Keep.refl h0 [r9, r0]).trans K23 (allS (Or.inl (List.mem_of_getElem? (i := 0) rfl)) (allS (Or.inl (List.mem_of_getElem? (i := 1) rfl)) all0))
  refine ⟨some (.ref r0), _, _, _, _, nofun, X23, by decide, by decide, ?_, fun fs hr => ?_⟩
  · exact ⟨rfl, N23, kp28, f24, f25, f26, f27⟩
  · show SG p e below s₁ (mkF m 0 #[lR r0, lR r1] []) _
    refine qaN X0 hx hby d32_0 ?_
    refine qaN X0 hx hby d32_1 ?_
    refine st23.trans ?_
    refine XS.pop X23.here hx rfl (hb hby d32_5) rfl rfl ?_
    refine qaN X23 hx hby d32_6 ?_
    exact retOut X23 hx (i := .areturn) hret rfl (Or.inr (Or.inr (Or.inr (Or.inr ⟨rfl, rfl, rfl⟩)))) (hb hby d32_7) hr
theorem d29_19 : DK cB29 19 (.ldc 32) 2 := by decide +kernel
theorem d29_21 : DK cB29 21 (.invokevirtual 28) 3 := by decide +kernel
def Q14_2 (Z : State)  (h0 : Heap) (n0 : Nat) (v : Option Value) (h : Heap) (L : List Loc) : Prop := v = some vI36 ∧ Fr n0 L ∧ h = h0
theorem rm14_2 (l : Launch) (Z : State) (a0 : Array Value) (hw : own_HW a0 Z) (ws : List Jvm.Cond)  (h0 : Heap) (n0 : Nat) (O0 : Old Z n0 h0) :
    own_MF l mN15 jdk_29_method_65_code 2 (some .int) ws rR0_0_0_0 Z h0 #[vI7, vI36] (Q14_2 Z  h0 n0) := by
  refine own_open (Jvm.Free.JP.mathPlain rfl (by decide +kernel)) (L0 := #[lV vI7, lV vI36]) (fun _ => by first | (simp [entryFrame, mkF, argsToLocals, Value.category]; done) | rfl) ?_
  intro p e s m below meth c s₁ hx hby hml hret hnn hZ hown X0 e0
  have N0 := Fr.nil n0
  refine ⟨some vI36, _, _, _, _, nofun, X0, by decide, by decide, ?_, fun fs hr => ?_⟩
  · rw [e0]; exact ⟨rfl, N0, rfl⟩
  · show SG p e below s₁ (mkF m 0 #[lV vI7, lV vI36] []) _
    refine qiN X0 hx hby d14_0 ?_
    refine qiN X0 hx hby d14_1 ?_
    refine XS.icmpYes X0.here hx rfl (pc0 := 2) (pc' := 9) rfl (hb hby d14_2) rfl (tlt (by decide : (7 : Int32) < (36 : Int32))).1 (by decide) (by decide) ?_
    refine qiN X0 hx hby d14_9 ?_
    exact retOut X0 hx (i := .ireturn) hret rfl (Or.inl ⟨rfl, Or.inl rfl, _, rfl⟩) (hb hby d14_10) hr
def Q38_2 (Z : State)  (h0 : Heap) (n0 : Nat) (v : Option Value) (h : Heap) (L : List Loc) : Prop := v = some vI70 ∧ Fr n0 L ∧ h = h0
theorem rm38_2 (l : Launch) (Z : State) (a0 : Array Value) (hw : own_HW a0 Z) (ws : List Jvm.Cond)  (h0 : Heap) (n0 : Nat) (O0 : Old Z n0 h0) :
    own_MF l mN16 jdk_48_method_27_code 4 (some .int) ws rR1_0_0_14 Z h0 #[vI34, vI7, vI36] (Q38_2 Z  h0 n0) := by
  refine own_open (plainFor_of_name pn_jdk_internal_util_ArraysSupport) (L0 := #[lV vI34, lV vI7, lV vI36, lU]) (fun _ => by first | (simp [entryFrame, mkF, argsToLocals, Value.category]; done) | rfl) ?_
  intro p e s m below meth c s₁ hx hby hml hret hnn hZ hown X0 e0
  have N0 := Fr.nil n0; have w := @ww Z a0 hw
  obtain ⟨_, T1, Lc1, X1, hQ1, st1⟩ := own_cS X0 hx hZ hown e0 (rm14_2 l Z a0 hw [] h0 n0 O0) (w 249 rfl) (w 80 rfl) (w 81 rfl) (w 82 rfl) (by decide) (W := 1) (by decide) (by decide) (by decide) (by decide) (g := (mkF m 3 #[lV vI34, lV vI7, lV vI36, lU] [vI36, vI7, vI34])) rfl (by rw [hml]; rfl) (argsL := [vI7, vI36]) (rest := [vI34]) (lenOf pd__II_I rfl) rfl (own_W rfl) (hb hby d38_3)
  obtain ⟨rfl, N1q, E1⟩ := hQ1
  have N1 := Fr.app N0 N1q
  refine ⟨some vI70, _, _, _, _, nofun, X1, by decide, by decide, ?_, fun fs hr => ?_⟩
  · rw [E1]; exact ⟨rfl, N1, rfl⟩
  · show SG p e below s₁ (mkF m 0 #[lV vI34, lV vI7, lV vI36, lU] []) _
    refine qiN X0 hx hby d38_0 ?_
    refine qiN X0 hx hby d38_1 ?_
    refine qiN X0 hx hby d38_2 ?_
    refine st1 _ ?_
    refine XS.iadd X1.here hx rfl (hb hby d38_6) rfl ?_
    refine XS.istoreN X1.here hx rfl (hb hby d38_7) rfl (l' := #[lV vI34, lV vI7, lV vI36, lV vI70]) rfl ?_
    refine qc X1 hx hby d38_8 ?_
    refine qiN X1 hx hby d38_9 ?_
    refine XS.icmpNo X1.here hx rfl (hb hby d38_10) rfl (tlt (by decide : (0 : Int32) < (70 : Int32))).2.1 ?_
    refine qiN X1 hx hby d38_13 ?_
    refine X1.ldcInt hx hown (mvT hZ (w 250 rfl)) (g := (mkF m 14 #[lV vI34, lV vI7, lV vI36, lV vI70] [vI70])) rfl (hb hby d38_14) _ ?_
    refine XS.icmpNo X1.here hx rfl (hb hby d38_16) rfl (flt (by decide : ¬ ((2147483639 : Int32) < (70 : Int32)))).2.2.1 ?_
    refine qiN X1 hx hby d38_19 ?_
    exact retOut X1 hx (i := .ireturn) hret rfl (Or.inl ⟨rfl, Or.inl rfl, _, rfl⟩) (hb hby d38_20) hr
def Q37_2 (Z : State)  (h0 : Heap) (n0 : Nat) (v : Option Value) (h : Heap) (L : List Loc) : Prop := v = some vI70 ∧ Fr n0 L ∧ h = h0
theorem rm37_2 (l : Launch) (Z : State) (a0 : Array Value) (hw : own_HW a0 Z) (ws : List Jvm.Cond) (r0 r1 : Addr) (c2 : ClassId) (x3 x4 : Int32) (h0 : Heap) (n0 : Nat) (O0 : Old Z n0 h0) (f1 : Fld Z h0 r0 cs22 "value" "[B" (.ref r1)) (f3 : Arv Z h0 r1 c2 .byte (34 : Int32) [vI73, vI110, vI116, vI101, vI114, vI110, vI97, vI108, vI67, vI97, vI108, vI108, vI68, vI101, vI116, vI97, vI105, vI108, vI115, vI32, vI91, vI107, vI101, vI121, vI61, (.int x3), (.int x4), vI0, vI0, vI0, vI0, vI0, vI0, vI0] vI0) (f5 : Fld Z h0 r0 cs22 "coder" "B" vI0) :
    own_MF l mN17 jdk_68_method_10_code 6 (some .int) ws rR2_0_0_29 Z h0 #[(.ref r0), vI41] (Q37_2 Z  h0 n0) := by
  refine own_open (plainFor_of_name pn_java_lang_AbstractStringBuilder) (L0 := #[lR r0, lV vI41, lU, lU, lU, lU]) (fun _ => by first | (simp [entryFrame, mkF, argsToLocals, Value.category]; done) | rfl) ?_
  intro p e s m below meth c s₁ hx hby hml hret hnn hZ hown X0 e0
  have N0 := Fr.nil n0; have w := @ww Z a0 hw
  obtain ⟨T2, X2, e2, st2⟩ := getF X0 hx hZ hown (host := "") (Or.inl (w 206 rfl)) Via.refl e0 f1 (g := (mkF m 1 #[lR r0, lV vI41, lU, lU, lU, lU] [(.ref r0)])) rfl rfl (hb hby d37_1)
  obtain ⟨clq4, Arq4, qq4, Sq4, Nq4, Hq4, Gq4⟩ := id f3
  obtain ⟨T6, X6, e6, st6⟩ := getF X2 hx hZ hown (host := "") (Or.inl (w 208 rfl)) Via.refl e2 f5 (g := (mkF m 8 #[lR r0, lV vI41, lV vI34, lU, lU, lU] [(.ref r0), vI41])) rfl rfl (hb hby d37_8)
  obtain ⟨T7, X7, e7, st7⟩ := getF X6 hx hZ hown (host := "") (Or.inl (w 208 rfl)) Via.refl e6 f5 (g := (mkF m 24 #[lR r0, lV vI41, lV vI34, lV vI41, lV vI7, lU] [(.ref r0), vI2, vI34, vI7, vI34])) rfl rfl (hb hby d37_24)
  obtain ⟨_, T8, Lc8, X8, hQ8, st8⟩ := own_cS X7 hx hZ hown e7 (rm38_2 l Z a0 hw [] h0 n0 O0) (w 245 rfl) (w 246 rfl) (w 247 rfl) (w 248 rfl) (by decide) (W := 0) (by decide) (by decide) (by decide) (by decide) (g := (mkF m 29 #[lR r0, lV vI41, lV vI34, lV vI41, lV vI7, lU] [vI36, vI7, vI34])) rfl (by rw [hml]; rfl) (argsL := [vI34, vI7, vI36]) (rest := []) (lenOf pd__III_I rfl) rfl (own_W rfl) (hb hby d37_29)
  obtain ⟨rfl, N8q, E8⟩ := hQ8
  have N8 := Fr.app N0 N8q
  obtain ⟨T9, X9, e9, st9⟩ := getF X8 hx hZ hown (host := "") (Or.inl (w 208 rfl)) Via.refl E8 f5 (g := (mkF m 54 #[lR r0, lV vI41, lV vI34, lV vI41, lV vI7, lV vI70] [(.ref r0), vI70])) rfl rfl (hb hby d37_54)
  refine ⟨some vI70, _, _, _, _, nofun, X9, by decide, by decide, ?_, fun fs hr => ?_⟩
  · rw [e9]; exact ⟨rfl, N8, rfl⟩
  · show SG p e below s₁ (mkF m 0 #[lR r0, lV vI41, lU, lU, lU, lU] []) _
    refine qaN X0 hx hby d37_0 ?_
    refine st2 _ ?_
    refine X2.arraylength hx (by rw [e2]; exact Arq4.1) (State.isArrayOf_alike hZ.alike Arq4.2.1) (g := (mkF m 4 #[lR r0, lV vI41, lU, lU, lU, lU] [(.ref r1)])) rfl rfl (hb hby d37_4) _ ?_
    rw [len_of Sq4 Nq4]
    refine XS.istoreN X2.here hx rfl (hb hby d37_5) rfl (l' := #[lR r0, lV vI41, lV vI34, lU, lU, lU]) rfl ?_
    refine qiN X2 hx hby d37_6 ?_
    refine qaN X2 hx hby d37_7 ?_
    refine st6 _ ?_
    refine XS.ishl X6.here hx rfl (hb hby d37_11) rfl ?_
    refine XS.istoreN X6.here hx rfl (hb hby d37_12) rfl (l' := #[lR r0, lV vI41, lV vI34, lV vI41, lU, lU]) rfl ?_
    refine qiN X6 hx hby d37_13 ?_
    refine qiN X6 hx hby d37_14 ?_
    refine XS.isub X6.here hx rfl (hb hby d37_15) rfl ?_
    refine XS.istore X6.here hx rfl (hb hby d37_16) rfl (l' := #[lR r0, lV vI41, lV vI34, lV vI41, lV vI7, lU]) rfl ?_
    refine qiN X6 hx hby d37_18 ?_
    refine qi X6 hx hby d37_19 ?_
    refine qiN X6 hx hby d37_21 ?_
    refine qc X6 hx hby d37_22 ?_
    refine qaN X6 hx hby d37_23 ?_
    refine st7 _ ?_
    refine XS.ishl X7.here hx rfl (hb hby d37_27) rfl ?_
    refine XS.iadd X7.here hx rfl (hb hby d37_28) rfl ?_
    refine st8 _ ?_
    refine XS.istore X8.here hx rfl (hb hby d37_32) rfl (l' := #[lR r0, lV vI41, lV vI34, lV vI41, lV vI7, lV vI70]) rfl ?_
    refine qi X8 hx hby d37_34 ?_
    refine X8.ldcInt hx hown (mvT hZ (w 251 rfl)) (g := (mkF m 36 #[lR r0, lV vI41, lV vI34, lV vI41, lV vI7, lV vI70] [vI70])) rfl (hb hby d37_36) _ ?_
    show SG p e below T8 (mkF m 38 #[lR r0, lV vI41, lV vI34, lV vI41, lV vI7, lV vI70] [vI2147483647, vI70]) _
    refine XS.icmpYes X8.here hx rfl (pc0 := 38) (pc' := 51) rfl (hb hby d37_38) rfl (feq (by decide : ¬ ((70 : Int32) = (2147483647 : Int32)))).2 (by decide) (by decide) ?_
    refine qi X8 hx hby d37_51 ?_
    refine qaN X8 hx hby d37_53 ?_
    refine st9 _ ?_
    refine XS.ishr X9.here hx rfl (hb hby d37_57) rfl ?_
    exact retOut X9 hx (i := .ireturn) hret rfl (Or.inl ⟨rfl, Or.inl rfl, _, rfl⟩) (hb hby d37_58) hr
def Q39_2 (Z : State) (x2 x3 : Int32) (h0 : Heap) (n0 : Nat) (v : Option Value) (h : Heap) (L : List Loc) : Prop := ∃ (b3 : Addr) (k3 : ClassId), v = some (.ref b3) ∧ Fr n0 L ∧ Keep h0 h [] ∧ h0.size ≤ b3 ∧ Arv Z h b3 k3 .byte (70 : Int32) [vI73, vI110, vI116, vI101, vI114, vI110, vI97, vI108, vI67, vI97, vI108, vI108, vI68, vI101, vI116, vI97, vI105, vI108, vI115, vI32, vI91, vI107, vI101, vI121, vI61, (.int x2), (.int x3), vI0, vI0, vI0, vI0, vI0, vI0, vI0, vI0, vI0, vI0, vI0, vI0, vI0, vI0, vI0, vI0, vI0, vI0, vI0, vI0, vI0, vI0, vI0, vI0, vI0, vI0, vI0, vI0, vI0, vI0, vI0, vI0, vI0, vI0, vI0, vI0, vI0, vI0, vI0, vI0, vI0, vI0, vI0] vI0 ∧ Exa Z h b3 "[B"
theorem rm39_2 (l : Launch) (Z : State) (a0 : Array Value) (hw : own_HW a0 Z) (ws : List Jvm.Cond) (r0 : Addr) (c1 : ClassId) (x2 x3 : Int32) (h0 : Heap) (n0 : Nat) (O0 : Old Z n0 h0) (f1 : Arv Z h0 r0 c1 .byte (34 : Int32) [vI73, vI110, vI116, vI101, vI114, vI110, vI97, vI108, vI67, vI97, vI108, vI108, vI68, vI101, vI116, vI97, vI105, vI108, vI115, vI32, vI91, vI107, vI101, vI121, vI61, (.int x2), (.int x3), vI0, vI0, vI0, vI0, vI0, vI0, vI0] vI0) :
    own_MF l mN19 jdk_65_method_121_code 3 (some (.array .byte)) ws rR1_1_70_24 Z h0 #[(.ref r0), vI70] (Q39_2 Z x2 x3 h0 n0) := by
  refine own_open (plainFor_of_name pn_java_util_Arrays) (L0 := #[lR r0, lV vI70, lU]) (fun _ => by first | (simp [entryFrame, mkF, argsToLocals, Value.category]; done) | rfl) ?_
  intro p e s m below meth c s₁ hx hby hml hret hnn hZ hown X0 e0
  have N0 := Fr.nil n0; have w := @ww Z a0 hw
  obtain ⟨clq2, Arq2, qq2, Sq2, Nq2, Hq2, Gq2⟩ := id f1
  obtain ⟨T3, h3, k3, X3, e3, E3, A3, B3, st3⟩ := newPE X0 hx hZ (w 20 rfl) e0 (g := (mkF m 15 #[lR r0, lV vI70, lU] [vI70])) rfl (hb hby d39_15) rfl (by decide) (cap := 70) (by decide) (by decide) (by decide) (by decide) (ad := "[B") rfl
  obtain ⟨b3, g3⟩ : ∃ z, z = h0.size := ⟨_, rfl⟩
  rw [← g3] at A3 B3 st3
  have V3 : Arv Z h3 b3 k3 .byte (70 : Int32) [vI0, vI0, vI0, vI0, vI0, vI0, vI0, vI0, vI0, vI0, vI0, vI0, vI0, vI0, vI0, vI0, vI0, vI0, vI0, vI0, vI0, vI0, vI0, vI0, vI0, vI0, vI0, vI0, vI0, vI0, vI0, vI0, vI0, vI0, vI0, vI0, vI0, vI0, vI0, vI0, vI0, vI0, vI0, vI0, vI0, vI0, vI0, vI0, vI0, vI0, vI0, vI0, vI0, vI0, vI0, vI0, vI0, vI0, vI0, vI0, vI0, vI0, vI0, vI0, vI0, vI0, vI0, vI0, vI0, vI0] vI0 := (Arv.new A3 (by decide)).pad (pad_rep [] vI0 70)
  have f4 := (f1.ext E3)
  obtain ⟨clq5, Arq5, qq5, Sq5, Nq5, Hq5, Gq5⟩ := id f4
  have o6 := Old.ext O0 E3
  obtain ⟨_, T7, Lc7, X7, hQ7, st7⟩ := own_cS X3 hx hZ hown e3 (rm23_1 l Z a0 hw [] (34 : Int32) (70 : Int32) h3 n0 o6 (by decide)) (w 145 rfl) (w 146 rfl) (w 81 rfl) (w 147 rfl) (by decide) (W := 4) (by decide) (by decide) (by decide) (by decide) (g := (mkF m 25 #[lR r0, lV vI70, lR b3] [vI70, vI34, vI0, (.ref b3), vI0, (.ref r0)])) rfl (by rw [hml]; rfl) (argsL := [vI34, vI70]) (rest := [vI0, (.ref b3), vI0, (.ref r0)]) (lenOf pd__II_I rfl) rfl (own_W rfl) (hb hby d39_25)
  obtain ⟨rfl, N7q, E7⟩ := hQ7
  have N7 := Fr.app N0 N7q
  have zz8 : n0 ≤ h0.size := by rw [← O0.1]; exact O0.2.1
  have g9 := Nat.le_trans zz8 (Nat.le_of_eq g3.symm)
  obtain ⟨T10, h10, L10, X10, e10, N10, K10, B10, st10⟩ := cpA X7 hx hZ hown (w 148 rfl) (w 151 rfl) (w 149 rfl) (w 150 rfl) E7 f4 V3 (us := [vI73, vI110, vI116, vI101, vI114, vI110, vI97, vI108, vI67, vI97, vI108, vI108, vI68, vI101, vI116, vI97, vI105, vI108, vI115, vI32, vI91, vI107, vI101, vI121, vI61, (.int x2), (.int x3), vI0, vI0, vI0, vI0, vI0, vI0, vI0]) (Or.inl ⟨rfl, rfl⟩) (by decide) (by decide) (by decide) (by decide) (by decide) rfl (by decide) N7 g9 (g := (mkF m 28 #[lR r0, lV vI70, lR b3] [vI34, vI0, (.ref b3), vI0, (.ref r0)])) rfl (by rw [hml]; rfl) rfl (hb hby d39_28) (by decide) (W := 0) (own_W rfl) (by decide)
  have V10 : Arv Z h10 b3 k3 .byte (70 : Int32) [vI73, vI110, vI116, vI101, vI114, vI110, vI97, vI108, vI67, vI97, vI108, vI108, vI68, vI101, vI116, vI97, vI105, vI108, vI115, vI32, vI91, vI107, vI101, vI121, vI61, (.int x2), (.int x3), vI0, vI0, vI0, vI0, vI0, vI0, vI0, vI0, vI0, vI0, vI0, vI0, vI0, vI0, vI0, vI0, vI0, vI0, vI0, vI0, vI0, vI0, vI0, vI0, vI0, vI0, vI0, vI0, vI0, vI0, vI0, vI0, vI0, vI0, vI0, vI0, vI0, vI0, vI0, vI0, vI0, vI0, vI0] vI0 := B10
  have f11 := (B3.keep K10)
  have kp12 : Keep h0 h3 [] := (Keep.refl h0 []).ext E3
  have kp13 : Keep h0 h10 [] := kp12.trans K10 (allS (Or.inr (Nat.le_of_eq g3.symm)) all0)
  refine ⟨some (.ref b3), _, _, _, _, nofun, X10, by decide, by decide, ?_, fun fs hr => ?_⟩
  · rw [e10]; exact ⟨b3, k3, rfl, N10, kp13, (Nat.le_of_eq g3.symm), V10, f11⟩
  · show SG p e below s₁ (mkF m 0 #[lR r0, lV vI70, lU] []) _
    refine qiN X0 hx hby d39_0 ?_
    refine qaN X0 hx hby d39_1 ?_
    refine X0.arraylength hx (by rw [e0]; exact Arq2.1) (State.isArrayOf_alike hZ.alike Arq2.2.1) (g := (mkF m 2 #[lR r0, lV vI70, lU] [(.ref r0), vI70])) rfl rfl (hb hby d39_2) _ ?_
    rw [len_of Sq2 Nq2]
    refine XS.icmpYes X0.here hx rfl (pc0 := 3) (pc' := 14) rfl (hb hby d39_3) rfl (feq (by decide : ¬ ((70 : Int32) = (34 : Int32)))).2 (by decide) (by decide) ?_
    refine qiN X0 hx hby d39_14 ?_
    refine st3 _ ?_
    refine XS.astoreN X3.here hx rfl (hb hby d39_17) rfl rfl (l' := #[lR r0, lV vI70, lR b3]) rfl ?_
    refine qaN X3 hx hby d39_18 ?_
    refine qc X3 hx hby d39_19 ?_
    refine qaN X3 hx hby d39_20 ?_
    refine qc X3 hx hby d39_21 ?_
    refine qaN X3 hx hby d39_22 ?_
    refine X3.arraylength hx (by rw [e3]; exact Arq5.1) (State.isArrayOf_alike hZ.alike Arq5.2.1) (g := (mkF m 23 #[lR r0, lV vI70, lR b3] [(.ref r0), vI0, (.ref b3), vI0, (.ref r0)])) rfl rfl (hb hby d39_23) _ ?_
    rw [len_of Sq5 Nq5]
    refine qiN X3 hx hby d39_24 ?_
    refine st7 _ ?_
    refine st10 _ ?_
    refine qaN X10 hx hby d39_31 ?_
    exact retOut X10 hx (i := .areturn) hret rfl (Or.inr (Or.inr (Or.inr (Or.inr ⟨rfl, rfl, rfl⟩)))) (hb hby d39_32) hr
def Q36_3 (Z : State) (r0 : Addr) (x3 x4 : Int32) (h0 : Heap) (n0 : Nat) (v : Option Value) (h : Heap) (L : List Loc) : Prop := ∃ (b12_0 : Addr) (k12_0 : ClassId), v = none ∧ Fr n0 L ∧ Keep h0 h [r0] ∧ Fld Z h r0 cs22 "value" "[B" (.ref b12_0) ∧ Fld Z h r0 cs22 "coder" "B" vI0 ∧ Fld Z h r0 cs22 "count" "I" vI27 ∧ h0.size ≤ b12_0 ∧ Arv Z h b12_0 k12_0 .byte (70 : Int32) [vI73, vI110, vI116, vI101, vI114, vI110, vI97, vI108, vI67, vI97, vI108, vI108, vI68, vI101, vI116, vI97, vI105, vI108, vI115, vI32, vI91, vI107, vI101, vI121, vI61, (.int x3), (.int x4), vI0, vI0, vI0, vI0, vI0, vI0, vI0, vI0, vI0, vI0, vI0, vI0, vI0, vI0, vI0, vI0, vI0, vI0, vI0, vI0, vI0, vI0, vI0, vI0, vI0, vI0, vI0, vI0, vI0, vI0, vI0, vI0, vI0, vI0, vI0, vI0, vI0, vI0, vI0, vI0, vI0, vI0, vI0] vI0 ∧ Exa Z h b12_0 "[B"
theorem rm36_3 (l : Launch) (Z : State) (a0 : Array Value) (hw : own_HW a0 Z) (ws : List Jvm.Cond) (r0 r1 : Addr) (c2 : ClassId) (x3 x4 : Int32) (h0 : Heap) (n0 : Nat) (O0 : Old Z n0 h0) (f1 : Fld Z h0 r0 cs22 "value" "[B" (.ref r1)) (f3 : Arv Z h0 r1 c2 .byte (34 : Int32) [vI73, vI110, vI116, vI101, vI114, vI110, vI97, vI108, vI67, vI97, vI108, vI108, vI68, vI101, vI116, vI97, vI105, vI108, vI115, vI32, vI91, vI107, vI101, vI121, vI61, (.int x3), (.int x4), vI0, vI0, vI0, vI0, vI0, vI0, vI0] vI0) (f5 : Fld Z h0 r0 cs22 "coder" "B" vI0) (f8 : Exa Z h0 r0 cs23) (g18 : n0 ≤ r0) (f20 : Fld Z h0 r0 cs22 "count" "I" vI27) (l23 : r0 < h0.size) :
    own_MF l mN20 jdk_68_method_9_code 3 none ws rR3_1_70_48 Z h0 #[(.ref r0), vI41] (Q36_3 Z r0 x3 x4 h0 n0) := by
  refine own_open (plainFor_of_name pn_java_lang_AbstractStringBuilder) (L0 := #[lR r0, lV vI41, lU]) (fun _ => by first | (simp [entryFrame, mkF, argsToLocals, Value.category]; done) | rfl) ?_
  intro p e s m below meth c s₁ hx hby hml hret hnn hZ hown X0 e0
  have N0 := Fr.nil n0; have w := @ww Z a0 hw
  obtain ⟨T2, X2, e2, st2⟩ := getF X0 hx hZ hown (host := "") (Or.inl (w 206 rfl)) Via.refl e0 f1 (g := (mkF m 1 #[lR r0, lV vI41, lU] [(.ref r0)])) rfl rfl (hb hby d36_1)
  obtain ⟨clq4, Arq4, qq4, Sq4, Nq4, Hq4, Gq4⟩ := id f3
  obtain ⟨T6, X6, e6, st6⟩ := getF X2 hx hZ hown (host := "") (Or.inl (w 208 rfl)) Via.refl e2 f5 (g := (mkF m 6 #[lR r0, lV vI41, lU] [(.ref r0), vI34])) rfl rfl (hb hby d36_6)
  obtain ⟨T7, X7, e7, st7⟩ := getF X6 hx hZ hown (host := "") (Or.inl (w 206 rfl)) Via.refl e6 f1 (g := (mkF m 19 #[lR r0, lV vI41, lV vI34] [(.ref r0), (.ref r0)])) rfl rfl (hb hby d36_19)
  obtain ⟨cqq10, qq10, qq10'⟩ := f8.cell
  obtain ⟨_, T9, Lc9, X9, hQ9, st9⟩ := own_fin (X7.privateBack hx (y := mN17) hown (mvT hZ (w 240 rfl)) (mvT hZ (w 241 rfl)) (own_selfsel (mvT hZ (w 243 rfl)) (Cond.privateMethod_at (mvP hZ (w 242 rfl) (args := #[]))) (mvT hZ (w 241 rfl)) (by decide)) (Cond.privateMethod_at (mvP hZ (w 242 rfl) (args := #[]))) (mvT hZ (w 244 rfl)) (by decide) (backOf (W := 2) (rm37_2 l Z a0 hw [] r0 r1 c2 x3 x4 h0 n0 O0 f1 f3 f5) hZ (w 244 rfl) (w 202 rfl) (by decide) (by decide)) (g := (mkF m 24 #[lR r0, lV vI41, lV vI34] [vI41, (.ref r0), (.ref r1), (.ref r0)])) rfl (by rw [hml]; rfl) (Steps.refl _) (a := r0) (by rw [e7]; exact qq10) qq10' (argsL := [vI41]) (rest := [(.ref r1), (.ref r0)]) (lenOf pd__I_I rfl) rfl (own_W rfl) (hb hby d36_24) (fun _ _ => ⟨rfl, e7, (by decide : 0 + 0 ≤ _), (by decide : 0 + 0 ≤ _)⟩))
  obtain ⟨rfl, N9q, E9⟩ := hQ9
  have N9 := Fr.app N0 N9q
  obtain ⟨T11, X11, e11, st11⟩ := getF X9 hx hZ hown (host := "") (Or.inl (w 208 rfl)) Via.refl E9 f5 (g := (mkF m 28 #[lR r0, lV vI41, lV vI34] [(.ref r0), vI70, (.ref r1), (.ref r0)])) rfl rfl (hb hby d36_28)
  obtain ⟨_, T12, Lc12, X12, hQ12, st12⟩ := own_cS X11 hx hZ hown e11 (rm39_2 l Z a0 hw [] r1 c2 x3 x4 h0 n0 O0 f3) (w 252 rfl) (w 253 rfl) (w 132 rfl) (w 254 rfl) (by decide) (W := 1) (by decide) (by decide) (by decide) (by decide) (g := (mkF m 32 #[lR r0, lV vI41, lV vI34] [vI70, (.ref r1), (.ref r0)])) rfl (by rw [hml]; rfl) (argsL := [(.ref r1), vI70]) (rest := [(.ref r0)]) (lenOf pd___BI__B rfl) rfl (own_W rfl) (hb hby d36_32)
  obtain ⟨b12_0, k12_0, rfl, N12q, K12, f13, f14, f15⟩ := hQ12
  have N12 := Fr.app N9 N12q
  have f16 := (f8.keep K12)
  have f17 := (f1.keep K12 nin0)
  obtain ⟨T19, h19, X19, e19, W19, st19⟩ := putF X12 hx hZ hown (host := "") (Or.inl (w 206 rfl)) Via.refl rfl f17 f16 (Or.inl (w 207 rfl)) (w 193 rfl) (ty := (.array .byte)) (by decide) rfl rfl (g := (mkF m 35 #[lR r0, lV vI41, lV vI34] [(.ref b12_0), (.ref r0)])) rfl rfl (hb hby d36_35)
  have Fw19 := f17.same W19
  have N19 := Fr.snoc X19 N12 g18
  have f21 := ((f20.keep K12 nin0).other W19 (Or.inr (slot_ne (Or.inl (w 234 rfl)) (Or.inl (w 207 rfl)) (by decide) (t := .int) (t' := (.array .byte)) (by decide) (by decide))))
  have f22 := ((f5.keep K12 nin0).other W19 (Or.inr (slot_ne (Or.inl (w 209 rfl)) (Or.inl (w 207 rfl)) (by decide) (t := .byte) (t' := (.array .byte)) (by decide) (by decide))))
  have n24 := Nat.ne_of_lt (Nat.lt_of_lt_of_le l23 f13)
  have f25 := (f14.other W19 (Ne.symm n24))
  have f26 := (f15.wr W19)
  have kp27 : Keep h0 T12.heap [r0] := (Keep.refl h0 [r0]).trans K12 all0
  have kp28 : Keep h0 h19 [r0] := kp27.wr W19 (Or.inl (List.mem_of_getElem? (i := 0) rfl))
  refine ⟨none, _, _, _, _, (fun _ => rfl), X19, by decide, by decide, ?_, fun fs hr => ?_⟩
  · rw [e19]; exact ⟨b12_0, k12_0, rfl, N19, kp28, Fw19, f22, f21, f13, f25, f26⟩
  · show SG p e below s₁ (mkF m 0 #[lR r0, lV vI41, lU] []) _
    refine qaN X0 hx hby d36_0 ?_
    refine st2 _ ?_
    refine X2.arraylength hx (by rw [e2]; exact Arq4.1) (State.isArrayOf_alike hZ.alike Arq4.2.1) (g := (mkF m 4 #[lR r0, lV vI41, lU] [(.ref r1)])) rfl rfl (hb hby d36_4) _ ?_
    rw [len_of Sq4 Nq4]
    refine qaN X2 hx hby d36_5 ?_
    refine st6 _ ?_
    refine XS.ishr X6.here hx rfl (hb hby d36_9) rfl ?_
    refine XS.istoreN X6.here hx rfl (hb hby d36_10) rfl (l' := #[lR r0, lV vI41, lV vI34]) rfl ?_
    refine qiN X6 hx hby d36_11 ?_
    refine qiN X6 hx hby d36_12 ?_
    refine XS.isub X6.here hx rfl (hb hby d36_13) rfl ?_
    refine XS.ifNo X6.here hx rfl (hb hby d36_14) rfl ((if0 _ _).trans (tlt (by decide : (0 : Int32) < (7 : Int32))).2.2.2) ?_
    refine qaN X6 hx hby d36_17 ?_
    refine qaN X6 hx hby d36_18 ?_
    refine st7 _ ?_
    refine qaN X7 hx hby d36_22 ?_
    refine qiN X7 hx hby d36_23 ?_
    refine st9.trans ?_
    refine qaN X9 hx hby d36_27 ?_
    refine st11 _ ?_
    refine XS.ishl X11.here hx rfl (hb hby d36_31) rfl ?_
    refine st12 _ ?_
    refine st19 _ ?_
    exact X19.returnOut hx hret (hb hby d36_38) hr
def Q33_3 (Z : State) (r0 : Addr) (x7 x8 : Int32) (h0 : Heap) (n0 : Nat) (v : Option Value) (h : Heap) (L : List Loc) : Prop := ∃ (b16_0 : Addr) (k16_0 : ClassId), v = some (.ref r0) ∧ Fr n0 L ∧ Keep h0 h [r0] ∧ Fld Z h r0 cs22 "value" "[B" (.ref b16_0) ∧ Fld Z h r0 cs22 "coder" "B" vI0 ∧ Fld Z h r0 cs22 "count" "I" vI41 ∧ h0.size ≤ b16_0 ∧ Exa Z h b16_0 "[B" ∧ Arv Z h b16_0 k16_0 .byte (70 : Int32) [vI73, vI110, vI116, vI101, vI114, vI110, vI97, vI108, vI67, vI97, vI108, vI108, vI68, vI101, vI116, vI97, vI105, vI108, vI115, vI32, vI91, vI107, vI101, vI121, vI61, (.int x7), (.int x8), vI44, vI32, vI97, vI117, vI116, vI104, vI111, vI114, vI105, vI116, vI105, vI101, vI115, vI61, vI0, vI0, vI0, vI0, vI0, vI0, vI0, vI0, vI0, vI0, vI0, vI0, vI0, vI0, vI0, vI0, vI0, vI0, vI0, vI0, vI0, vI0, vI0, vI0, vI0, vI0, vI0, vI0, vI0] vI0
theorem rm33_3 (l : Launch) (Z : State) (a0 : Array Value) (hw : own_HW a0 Z) (ws : List Jvm.Cond) (r0 r1 r2 : Addr) (c3 : ClassId) (x4 : Int32) (r5 : Addr) (c6 : ClassId) (x7 x8 : Int32) (h0 : Heap) (n0 : Nat) (O0 : Old Z n0 h0) (f1 : Exa Z h0 r1 cs8) (f2 : Fld Z h0 r1 cs8 "value" "[B" (.ref r2)) (f3 : Arv Z h0 r2 c3 .byte (14 : Int32) [vI44, vI32, vI97, vI117, vI116, vI104, vI111, vI114, vI105, vI116, vI105, vI101, vI115, vI61] vI0) (f4 : Sta Z Z.heap cs8 cs9 "Z" (.int x4)) (hc5 : ¬ (x4 = (0 : Int32))) (f6 : Fld Z h0 r1 cs8 "coder" "B" vI0) (f8 : Fld Z h0 r0 cs22 "count" "I" vI27) (f10 : Exa Z h0 r0 cs23) (f11 : Fld Z h0 r0 cs22 "value" "[B" (.ref r5)) (f12 : Arv Z h0 r5 c6 .byte (34 : Int32) [vI73, vI110, vI116, vI101, vI114, vI110, vI97, vI108, vI67, vI97, vI108, vI108, vI68, vI101, vI116, vI97, vI105, vI108, vI115, vI32, vI91, vI107, vI101, vI121, vI61, (.int x7), (.int x8), vI0, vI0, vI0, vI0, vI0, vI0, vI0] vI0) (f13 : Fld Z h0 r0 cs22 "coder" "B" vI0) (g14 : n0 ≤ r0) (l15 : r0 < h0.size) (n27 : r1 ≠ r0) (n30 : r2 ≠ r0) :
    own_MF l mN24 jdk_68_method_22_code 3 (some (.object cs22)) ws rR4_1_70_62 Z h0 #[(.ref r0), (.ref r1)] (Q33_3 Z r0 x7 x8 h0 n0) := by
  refine own_open (plainFor_of_name pn_java_lang_AbstractStringBuilder) (L0 := #[lR r0, lR r1, lU]) (fun _ => by first | (simp [entryFrame, mkF, argsToLocals, Value.category]; done) | rfl) ?_
  intro p e s m below meth c s₁ hx hby hml hret hnn hZ hown X0 e0
  have N0 := Fr.nil n0; have w := @ww Z a0 hw
  obtain ⟨_, T7, Lc7, X7, hQ7, st7⟩ := own_cV X0 hx hZ hown e0 (rm34_1 l Z a0 hw [] r1 r2 (14 : Int32) c3 ([vI44, vI32, vI97, vI117, vI116, vI104, vI111, vI114, vI105, vI116, vI105, vI101, vI115, vI61]) x4 (0 : Int32) h0 n0 O0 f2 f3 f1 f4 hc5 f6) f1 (w 223 rfl) (w 224 rfl) (w 226 rfl) (w 225 rfl) (w 227 rfl) (w 3 rfl) (by decide) (W := 0) (by decide) (by decide) (by decide) (by decide) (g := (mkF m 10 #[lR r0, lR r1, lU] [(.ref r1)])) rfl (by rw [hml]; rfl) (argsL := []) (rest := []) (lenOf pd___I rfl) rfl (own_W rfl) (hb hby d33_10)
  obtain ⟨rfl, N7q, E7⟩ := hQ7
  have N7 := Fr.app N0 N7q
  obtain ⟨T9, X9, e9, st9⟩ := getF X7 hx hZ hown (host := "") (Or.inl (w 233 rfl)) Via.refl E7 f8 (g := (mkF m 16 #[lR r0, lR r1, lV vI14] [(.ref r0), (.ref r0)])) rfl rfl (hb hby d33_16)
  obtain ⟨cqq17, qq17, qq17'⟩ := f10.cell
  obtain ⟨_, T16, Lc16, X16, hQ16, st16⟩ := own_fin (X9.privateBack hx (y := mN20) hown (mvT hZ (w 235 rfl)) (mvT hZ (w 236 rfl)) (own_selfsel (mvT hZ (w 238 rfl)) (Cond.privateMethod_at (mvP hZ (w 237 rfl) (args := #[]))) (mvT hZ (w 236 rfl)) (by decide)) (Cond.privateMethod_at (mvP hZ (w 237 rfl) (args := #[]))) (mvT hZ (w 239 rfl)) (by decide) (backOf (W := 0) (rm36_3 l Z a0 hw [] r0 r5 c6 x7 x8 h0 n0 O0 f11 f12 f13 f10 g14 f8 l15) hZ (w 239 rfl) (w 202 rfl) (by decide) (by decide)) (g := (mkF m 21 #[lR r0, lR r1, lV vI14] [vI41, (.ref r0)])) rfl (by rw [hml]; rfl) (Steps.refl _) (a := r0) (by rw [e9]; exact qq17) qq17' (argsL := [vI41]) (rest := []) (lenOf pd__I_V rfl) rfl (own_W rfl) (hb hby d33_21) (fun _ _ => ⟨rfl, e9, (by decide : 0 + 1 ≤ _), (by decide : 0 + 70 ≤ _)⟩))
  obtain ⟨b16_0, k16_0, rfl, N16q, K16, f18, f19, f20, f21, f22, f23⟩ := hQ16
  have N16 := Fr.app N7 N16q
  obtain ⟨T24, X24, e24, st24⟩ := getF X16 hx hZ hown (host := "") (Or.inl (w 233 rfl)) Via.refl rfl f20 (g := (mkF m 26 #[lR r0, lR r1, lV vI14] [(.ref r0), (.ref r0)])) rfl rfl (hb hby d33_26)
  have f25 := (f10.keep K16)
  have f26 := (f1.keep K16)
  have f28 := (f6.keep K16 (ninS n27 nin0))
  have f29 := (f2.keep K16 (ninS n27 nin0))
  have f31 := (f3.keep K16 (ninS n30 nin0))
  have zz32 : n0 ≤ h0.size := by rw [← O0.1]; exact O0.2.1
  have g33 := Nat.le_trans zz32 f21
  have o34 := Old.keep O0 K16 (allS g14 all0)
  obtain ⟨cqq36, qq36, qq36'⟩ := f25.cell
  obtain ⟨_, T35, Lc35, X35, hQ35, st35⟩ := own_fin (X24.privateBack hx (y := mN23) hown (mvT hZ (w 255 rfl)) (mvT hZ (w 256 rfl)) (own_selfsel (mvT hZ (w 258 rfl)) (Cond.privateMethod_at (mvP hZ (w 257 rfl) (args := #[]))) (mvT hZ (w 256 rfl)) (by decide)) (Cond.privateMethod_at (mvP hZ (w 257 rfl) (args := #[]))) (mvT hZ (w 259 rfl)) (by decide) (backOf (W := 0) (rm40_1 l Z a0 hw [] r0 (27 : Int32) r1 x4 (0 : Int32) (0 : Int32) b16_0 r2 (14 : Int32) c3 ([vI44, vI32, vI97, vI117, vI116, vI104, vI111, vI114, vI105, vI116, vI105, vI101, vI115, vI61]) (70 : Int32) k16_0 ([vI73, vI110, vI116, vI101, vI114, vI110, vI97, vI108, vI67, vI97, vI108, vI108, vI68, vI101, vI116, vI97, vI105, vI108, vI115, vI32, vI91, vI107, vI101, vI121, vI61, (.int x7), (.int x8), vI0, vI0, vI0, vI0, vI0, vI0, vI0, vI0, vI0, vI0, vI0, vI0, vI0, vI0, vI0, vI0, vI0, vI0, vI0, vI0, vI0, vI0, vI0, vI0, vI0, vI0, vI0, vI0, vI0, vI0, vI0, vI0, vI0, vI0, vI0, vI0, vI0, vI0, vI0, vI0, vI0, vI0, vI0]) T16.heap n0 o34 f25 f4 hc5 f19 f26 f28 (by decide) f18 (by decide) f29 f31 f22 (by decide) (own_lenK (n := 70) rfl (by decide) : [vI73, vI110, vI116, vI101, vI114, vI110, vI97, vI108, vI67, vI97, vI108, vI108, vI68, vI101, vI116, vI97, vI105, vI108, vI115, vI32, vI91, vI107, vI101, vI121, vI61, (.int x7), (.int x8), vI0, vI0, vI0, vI0, vI0, vI0, vI0, vI0, vI0, vI0, vI0, vI0, vI0, vI0, vI0, vI0, vI0, vI0, vI0, vI0, vI0, vI0, vI0, vI0, vI0, vI0, vI0, vI0, vI0, vI0, vI0, vI0, vI0, vI0, vI0, vI0, vI0, vI0, vI0, vI0, vI0, vI0, vI0].length = ((70 : Int32)).toNatClampNeg) (by decide) (by decide) (by decide) g33) hZ (w 259 rfl) (w 202 rfl) (by decide) (by decide)) (g := (mkF m 30 #[lR r0, lR r1, lV vI14] [(.ref r1), vI27, (.ref r0)])) rfl (by rw [hml]; rfl) (Steps.refl _) (a := r0) (by rw [e24]; exact qq36) qq36' (argsL := [vI27, (.ref r1)]) (rest := []) (lenOf pd__ILjava_lang_String__V rfl) rfl (own_W rfl) (hb hby d33_30) (fun _ _ => ⟨rfl, e24, (by decide : 1 + 0 ≤ _), (by decide : 70 + 0 ≤ _)⟩))
  obtain ⟨rfl, N35q, K35, f37⟩ := hQ35
  have N35 := Fr.app N16 N35q
  have f38 : Arv Z T35.heap b16_0 k16_0 .byte (70 : Int32) [vI73, vI110, vI116, vI101, vI114, vI110, vI97, vI108, vI67, vI97, vI108, vI108, vI68, vI101, vI116, vI97, vI105, vI108, vI115, vI32, vI91, vI107, vI101, vI121, vI61, (.int x7), (.int x8), vI44, vI32, vI97, vI117, vI116, vI104, vI111, vI114, vI105, vI116, vI105, vI101, vI115, vI61, vI0, vI0, vI0, vI0, vI0, vI0, vI0, vI0, vI0, vI0, vI0, vI0, vI0, vI0, vI0, vI0, vI0, vI0, vI0, vI0, vI0, vI0, vI0, vI0, vI0, vI0, vI0, vI0, vI0] vI0 := own_cpx (by decide : (((27 : Int32) <<< ((0 : Int32) &&& 31))).toNatClampNeg = 27) (by decide : (((27 : Int32) <<< ((0 : Int32) &&& 31))).toNatClampNeg + ((14 : Int32)).toNatClampNeg = 41) f37
  have n39 := Nat.ne_of_lt (Nat.lt_of_lt_of_le l15 f21)
  have f40 := (f20.keep K35 (ninS n39 nin0))
  obtain ⟨T41, X41, e41, st41⟩ := getF X35 hx hZ hown (host := "") (Or.inl (w 233 rfl)) Via.refl rfl f40 (g := (mkF m 35 #[lR r0, lR r1, lV vI14] [(.ref r0), (.ref r0)])) rfl rfl (hb hby d33_35)
  have f42 := (f25.keep K35)
  obtain ⟨T43, h43, X43, e43, W43, st43⟩ := putF X41 hx hZ hown (host := "") (Or.inl (w 233 rfl)) Via.refl e41 f40 f42 (Or.inl (w 234 rfl)) (w 193 rfl) (ty := .int) (by decide) rfl rfl (g := (mkF m 40 #[lR r0, lR r1, lV vI14] [vI41, (.ref r0)])) rfl rfl (hb hby d33_40)
  have Fw43 := f40.same W43
  have N43 := Fr.snoc X43 N35 g14
  have f44 := ((f18.keep K35 (ninS n39 nin0)).other W43 (Or.inr (slot_ne (Or.inl (w 207 rfl)) (Or.inl (w 234 rfl)) (by decide) (t := (.array .byte)) (t' := .int) (by decide) (by decide))))
  have f45 := ((f19.keep K35 (ninS n39 nin0)).other W43 (Or.inr (slot_ne (Or.inl (w 209 rfl)) (Or.inl (w 234 rfl)) (by decide) (t := .byte) (t' := .int) (by decide) (by decide))))
  have f46 := ((f23.keep K35).wr W43)
  have f47 := (f38.other W43 (Ne.symm n39))
  have kp48 : Keep h0 T16.heap [r0] := (Keep.refl h0 [r0]).trans K16 (allS (Or.inl (List.mem_of_getElem? (i := 0) rfl)) all0)
  have kp49 : Keep h0 T35.heap [r0] := kp48.trans K35 (allS (Or.inr f21) all0)
  have kp50 : Keep h0 h43 [r0] := kp49.wr W43 (Or.inl (List.mem_of_getElem? (i := 0) rfl))
  refine ⟨some (.ref r0), _, _, _, _, nofun, X43, by decide, by decide, ?_, fun fs hr => ?_⟩
  · rw [e43]; exact ⟨b16_0, k16_0, rfl, N43, kp50, f44, f45, Fw43, f21, f46, f47⟩
  · show SG p e below s₁ (mkF m 0 #[lR r0, lR r1, lU] []) _
    refine qaN X0 hx hby d33_0 ?_
    refine XS.ifnonnullYes X0.here hx rfl (pc0 := 1) (pc' := 9) rfl (hb hby d33_1) rfl (by decide) (by decide) ?_
    refine qaN X0 hx hby d33_9 ?_
    refine st7 _ ?_
    refine XS.istoreN X7.here hx rfl (hb hby d33_13) rfl (l' := #[lR r0, lR r1, lV vI14]) rfl ?_
    refine qaN X7 hx hby d33_14 ?_
    refine qaN X7 hx hby d33_15 ?_
    refine st9 _ ?_
    refine qiN X9 hx hby d33_19 ?_
    refine XS.iadd X9.here hx rfl (hb hby d33_20) rfl ?_
    refine st16.trans ?_
    refine qaN X16 hx hby d33_24 ?_
    refine qaN X16 hx hby d33_25 ?_
    refine st24 _ ?_
    refine qaN X24 hx hby d33_29 ?_
    refine st35.trans ?_
    refine qaN X35 hx hby d33_33 ?_
    refine qd X35 hx hby d33_34 ?_
    refine st41 _ ?_
    refine qiN X41 hx hby d33_38 ?_
    refine XS.iadd X41.here hx rfl (hb hby d33_39) rfl ?_
    refine st43 _ ?_
    refine qaN X43 hx hby d33_43 ?_
    exact retOut X43 hx (i := .areturn) hret rfl (Or.inr (Or.inr (Or.inr (Or.inr ⟨rfl, rfl, rfl⟩)))) (hb hby d33_44) hr
def Q32_3 (Z : State) (r0 : Addr) (x7 x8 : Int32) (h0 : Heap) (n0 : Nat) (v : Option Value) (h : Heap) (L : List Loc) : Prop := ∃ (b16_0 : Addr) (k16_0 : ClassId), v = some (.ref r0) ∧ Fr n0 L ∧ Keep h0 h [r0] ∧ Fld Z h r0 cs22 "value" "[B" (.ref b16_0) ∧ Fld Z h r0 cs22 "coder" "B" vI0 ∧ Fld Z h r0 cs22 "count" "I" vI41 ∧ h0.size ≤ b16_0 ∧ Exa Z h b16_0 "[B" ∧ Arv Z h b16_0 k16_0 .byte (70 : Int32) [vI73, vI110, vI116, vI101, vI114, vI110, vI97, vI108, vI67, vI97, vI108, vI108, vI68, vI101, vI116, vI97, vI105, vI108, vI115, vI32, vI91, vI107, vI101, vI121, vI61, (.int x7), (.int x8), vI44, vI32, vI97, vI117, vI116, vI104, vI111, vI114, vI105, vI116, vI105, vI101, vI115, vI61, vI0, vI0, vI0, vI0, vI0, vI0, vI0, vI0, vI0, vI0, vI0, vI0, vI0, vI0, vI0, vI0, vI0, vI0, vI0, vI0, vI0, vI0, vI0, vI0, vI0, vI0, vI0, vI0, vI0] vI0
theorem rm32_3 (l : Launch) (Z : State) (a0 : Array Value) (hw : own_HW a0 Z) (ws : List Jvm.Cond) (r0 r1 r2 : Addr) (c3 : ClassId) (x4 : Int32) (r5 : Addr) (c6 : ClassId) (x7 x8 : Int32) (h0 : Heap) (n0 : Nat) (O0 : Old Z n0 h0) (f1 : Exa Z h0 r1 cs8) (f2 : Fld Z h0 r1 cs8 "value" "[B" (.ref r2)) (f3 : Arv Z h0 r2 c3 .byte (14 : Int32) [vI44, vI32, vI97, vI117, vI116, vI104, vI111, vI114, vI105, vI116, vI105, vI101, vI115, vI61] vI0) (f4 : Sta Z Z.heap cs8 cs9 "Z" (.int x4)) (hc5 : ¬ (x4 = (0 : Int32))) (f6 : Fld Z h0 r1 cs8 "coder" "B" vI0) (f7 : Fld Z h0 r0 cs22 "count" "I" vI27) (f8 : Exa Z h0 r0 cs23) (f9 : Fld Z h0 r0 cs22 "value" "[B" (.ref r5)) (f10 : Arv Z h0 r5 c6 .byte (34 : Int32) [vI73, vI110, vI116, vI101, vI114, vI110, vI97, vI108, vI67, vI97, vI108, vI108, vI68, vI101, vI116, vI97, vI105, vI108, vI115, vI32, vI91, vI107, vI101, vI121, vI61, (.int x7), (.int x8), vI0, vI0, vI0, vI0, vI0, vI0, vI0] vI0) (f11 : Fld Z h0 r0 cs22 "coder" "B" vI0) (g12 : n0 ≤ r0) (l13 : r0 < h0.size) (n14 : r1 ≠ r0) (n15 : r2 ≠ r0) :
    own_MF l mN25 jdk_67_method_7_code 2 (some (.object cs23)) ws rR5_1_70_76 Z h0 #[(.ref r0), (.ref r1)] (Q32_3 Z r0 x7 x8 h0 n0) := by
  refine own_open (plainFor_of_name pn_java_lang_StringBuilder) (L0 := #[lR r0, lR r1]) (fun _ => by first | (simp [entryFrame, mkF, argsToLocals, Value.category]; done) | rfl) ?_
  intro p e s m below meth c s₁ hx hby hml hret hnn hZ hown X0 e0
  have N0 := Fr.nil n0; have w := @ww Z a0 hw
  obtain ⟨_, T16, Lc16, X16, hQ16, st16⟩ := own_fin (superBack X0 hx hZ (y := mN24) hown (w 218 rfl) (own_sameOwn (y := mN24) (w 238 rfl) rfl (w 219 rfl) (by decide)) (w 219 rfl) (w 220 rfl) (by decide) (backOf (W := 0) (rm33_3 l Z a0 hw [] r0 r1 r2 c3 x4 r5 c6 x7 x8 h0 n0 O0 f1 f2 f3 f4 hc5 f6 f7 f8 f9 f10 f11 g12 l13 n14 n15) hZ (w 222 rfl) (w 202 rfl) (by decide) (by decide)) e0 (Ins.self f8) (g := (mkF m 2 #[lR r0, lR r1] [(.ref r1), (.ref r0)])) rfl (by rw [hml]; rfl) (w 222 rfl) (argsL := [(.ref r1)]) (rest := []) (lenOf pd__Ljava_lang_String__Ljava_lang_AbstractStringBuilder_ rfl) rfl (own_W rfl) (hb hby d32_2) (fun _ _ => ⟨rfl, e0, (by decide : 0 + 1 ≤ _), (by decide : 0 + 70 ≤ _)⟩))
  obtain ⟨b16_0, k16_0, rfl, N16q, K16, f17, f18, f19, f20, f21, f22⟩ := hQ16
  have N16 := Fr.app N0 N16q
  have kp23 : Keep h0 T16.heap [r0] := (Keep.refl h0 [r0]).trans K16 (allS (Or.inl (List.mem_of_getElem? (i := 0) rfl)) all0)
  refine ⟨some (.ref r0), _, _, _, _, nofun, X16, by decide, by decide, ?_, fun fs hr => ?_⟩
  · exact ⟨b16_0, k16_0, rfl, N16, kp23, f17, f18, f19, f20, f21, f22⟩
  · show SG p e below s₁ (mkF m 0 #[lR r0, lR r1] []) _
    refine qaN X0 hx hby d32_0 ?_
    refine qaN X0 hx hby d32_1 ?_
    refine st16.trans ?_
    refine XS.pop X16.here hx rfl (hb hby d32_5) rfl rfl ?_
    refine qaN X16 hx hby d32_6 ?_
    exact retOut X16 hx (i := .areturn) hret rfl (Or.inr (Or.inr (Or.inr (Or.inr ⟨rfl, rfl, rfl⟩)))) (hb hby d32_7) hr
theorem d29_24 : DK cB29 24 (.aload_n 0) 1 := by decide +kernel
theorem d29_25 : DK cB29 25 (.getfield 19) 3 := by decide +kernel
theorem d29_28 : DK cB29 28 (.invokevirtual 34) 3 := by decide +kernel
theorem d43_0 : DK cB43 0 (.aload_n 0) 1 := by decide +kernel
theorem d43_1 : DK cB43 1 (.aload_n 1) 1 := by decide +kernel
theorem d43_2 : DK cB43 2 (.invokestatic 17) 3 := by decide +kernel
theorem d44_0 : DK cB44 0 (.aload_n 0) 1 := by decide +kernel
theorem d44_1 : DK cB44 1 (.ifnonnull 9) 3 := by decide +kernel
theorem d44_10 : DK cB44 10 (.aload_n 0) 1 := by decide +kernel
theorem d44_11 : DK cB44 11 (.invokevirtual 1007) 3 := by decide +kernel
theorem d45_0 : DK cB45 0 (.aload_n 0) 1 := by decide +kernel
theorem d45_1 : DK cB45 1 (.invokevirtual 13) 3 := by decide +kernel
theorem d46_0 : DK cB46 0 (.new 61) 3 := by decide +kernel
theorem d46_3 : DK cB46 3 (.dup) 1 := by decide +kernel
theorem d46_4 : DK cB46 4 (.aload_n 0) 1 := by decide +kernel
theorem d46_5 : DK cB46 5 (.aload_n 0) 1 := by decide +kernel
theorem d46_6 : DK cB46 6 (.invokevirtual 13) 3 := by decide +kernel
theorem d70_0 : DK cB70 0 (.aload_n 0) 1 := by decide +kernel
theorem d70_1 : DK cB70 1 (.getfield 7) 3 := by decide +kernel
theorem d70_4 : DK cB70 4 (.arraylength) 1 := by decide +kernel
theorem d70_5 : DK cB70 5 (.ireturn) 1 := by decide +kernel
theorem pn_java_util_ImmutableCollections_ListN : plainName "java/util/ImmutableCollections$ListN" = true := by first | (simp [plainName, overriddenIn]; done) | decide +kernel
def Q70_1 (Z : State)  (h0 : Heap) (n0 : Nat) (v : Option Value) (h : Heap) (L : List Loc) : Prop := v = some vI0 ∧ Fr n0 L ∧ h = h0
theorem rm70_1 (l : Launch) (Z : State) (a0 : Array Value) (hw : own_HW a0 Z) (ws : List Jvm.Cond) (r0 r1 : Addr) (c2 : ClassId) (h0 : Heap) (n0 : Nat) (O0 : Old Z n0 h0) (f1 : Fld Z Z.heap r0 cs32 "elements" cs4 (.ref r1)) (f4 : Arv Z Z.heap r1 c2 (.object cs5) (0 : Int32) [] .null) :
    own_MF l mN26 jdk_45_method_3_code 1 (some .int) ws rR0_0_0_0 Z h0 #[(.ref r0)] (Q70_1 Z  h0 n0) := by
  refine own_open (plainFor_of_name pn_java_util_ImmutableCollections_ListN) (L0 := #[lR r0]) (fun _ => by first | (simp [entryFrame, mkF, argsToLocals, Value.category]; done) | rfl) ?_
  intro p e s m below meth c s₁ hx hby hml hret hnn hZ hown X0 e0
  have N0 := Fr.nil n0
  have f2 := f1.ext O0.2
  obtain ⟨T3, X3, e3, st3⟩ := getF X0 hx hZ hown (host := "") (Or.inl (ww hw 425 rfl)) Via.refl e0 f2 (g := (mkF m 1 #[lR r0] [(.ref r0)])) rfl rfl (hb hby d70_1)
  have f5 := f4.ext O0.2
  obtain ⟨clq6, Arq6, qq6, Sq6, Nq6, Hq6, Gq6⟩ := id f5
  refine ⟨some vI0, _, _, _, _, nofun, X3, by decide, by decide, ?_, fun fs hr => ?_⟩
  · rw [e3]; exact ⟨rfl, N0, rfl⟩
  · show SG p e below s₁ (mkF m 0 #[lR r0] []) _
    refine qaN X0 hx hby d70_0 ?_
    refine st3 _ ?_
    refine X3.arraylength hx (by rw [e3]; exact Arq6.1) (State.isArrayOf_alike hZ.alike Arq6.2.1) (g := (mkF m 4 #[lR r0] [(.ref r1)])) rfl rfl (hb hby d70_4) _ ?_
    rw [len_of Sq6 Nq6]
    exact retOut X3 hx (i := .ireturn) hret rfl (Or.inl ⟨rfl, Or.inl rfl, _, rfl⟩) (hb hby d70_5) hr
theorem d46_9 : DK cB46 9 (.invokespecial 63) 3 := by decide +kernel
theorem d48_0 : DK cB48 0 (.aload_n 0) 1 := by decide +kernel
theorem d48_1 : DK cB48 1 (.invokespecial 1) 3 := by decide +kernel
theorem d48_4 : DK cB48 4 (.aload_n 0) 1 := by decide +kernel
theorem d48_5 : DK cB48 5 (.aload_n 1) 1 := by decide +kernel
theorem d48_6 : DK cB48 6 (.putfield 7) 3 := by decide +kernel
theorem d48_9 : DK cB48 9 (.aload_n 0) 1 := by decide +kernel
theorem d48_10 : DK cB48 10 (.iload_n 2) 1 := by decide +kernel
theorem d48_11 : DK cB48 11 (.putfield 13) 3 := by decide +kernel
theorem d48_14 : DK cB48 14 (.aload_n 0) 1 := by decide +kernel
theorem d48_15 : DK cB48 15 (.iconst 0) 1 := by decide +kernel
theorem d48_16 : DK cB48 16 (.putfield 17) 3 := by decide +kernel
theorem d48_19 : DK cB48 19 (.aload_n 0) 1 := by decide +kernel
theorem d48_20 : DK cB48 20 (.iconst 0) 1 := by decide +kernel
theorem d48_21 : DK cB48 21 (.putfield 20) 3 := by decide +kernel
theorem d48_24 : DK cB48 24 (.return_) 1 := by decide +kernel
theorem pn_java_util_ImmutableCollections_ListItr : plainName "java/util/ImmutableCollections$ListItr" = true := by first | (simp [plainName, overriddenIn]; done) | decide +kernel
def Q48_1 (Z : State) (r0 r1 : Addr) (h0 : Heap) (n0 : Nat) (v : Option Value) (h : Heap) (L : List Loc) : Prop := v = none ∧ Fr n0 L ∧ Keep h0 h [r0] ∧ Fld Z h r0 cs33 "list" cs20 (.ref r1) ∧ Fld Z h r0 cs33 "size" "I" vI0 ∧ Fld Z h r0 cs33 "cursor" "I" vI0 ∧ Fld Z h r0 cs33 cs34 "Z" vI0
theorem rm48_1 (l : Launch) (Z : State) (a0 : Array Value) (hw : own_HW a0 Z) (ws : List Jvm.Cond) (r0 r1 : Addr) (h0 : Heap) (n0 : Nat) (O0 : Old Z n0 h0) (f2 : Exa Z h0 r0 cs33) (f3 : Fld Z h0 r0 cs33 "list" cs20 .null) (g4 : n0 ≤ r0) (f7 : Fld Z h0 r0 cs33 "size" "I" vI0) (f11 : Fld Z h0 r0 cs33 "cursor" "I" vI0) (f15 : Fld Z h0 r0 cs33 cs34 "Z" vI0) :
    own_MF l mN27 jdk_53_method_1_code 3 none ws rR1_0_0_12 Z h0 #[(.ref r0), (.ref r1), vI0] (Q48_1 Z r0 r1 h0 n0) := by
  refine own_open (plainFor_of_name pn_java_util_ImmutableCollections_ListItr) (L0 := #[lR r0, lR r1, lV vI0]) (fun _ => by first | (simp [entryFrame, mkF, argsToLocals, Value.category]; done) | rfl) ?_
  intro p e s m below meth c s₁ hx hby hml hret hnn hZ hown X0 e0
  have N0 := Fr.nil n0; have w := @ww Z a0 hw
  have hnm := (name_of_methodNamed hnn.1 hnn.2).1
  obtain ⟨T1, X1, e1, st1⟩ := initO X0 hx hZ hown (w 305 rfl) (w 13 rfl) (w 14 rfl) e0 (g := (mkF m 1 #[lR r0, lR r1, lV vI0] [(.ref r0)])) rfl (by rw [hml]; rfl) rfl (hb hby d48_1) (by decide) (W := 0) (own_W rfl) (by decide)
  obtain ⟨T5, h5, X5, e5, W5, st5⟩ := putF X1 hx hZ hown (host := "") (Or.inl (w 306 rfl)) Via.refl e1 f3 f2 (Or.inr ⟨(w 307 rfl), rfl, hnm⟩) (w 293 rfl) (ty := (.object cs11)) (by decide) rfl rfl (g := (mkF m 6 #[lR r0, lR r1, lV vI0] [(.ref r1), (.ref r0)])) rfl rfl (hb hby d48_6)
  have Fw5 := f3.same W5
  have N5 := Fr.snoc X5 N0 g4
  have f6 := (f2.wr W5)
  have f8 := (f7.other W5 (Or.inr (slot_ne (Or.inr (w 309 rfl)) (Or.inr (w 307 rfl)) (by decide) (t := .int) (t' := (.object cs11)) (by decide) (by decide))))
  obtain ⟨T9, h9, X9, e9, W9, st9⟩ := putF X5 hx hZ hown (host := "") (Or.inl (w 308 rfl)) Via.refl e5 f8 f6 (Or.inr ⟨(w 309 rfl), rfl, hnm⟩) (w 293 rfl) (ty := .int) (by decide) rfl rfl (g := (mkF m 11 #[lR r0, lR r1, lV vI0] [vI0, (.ref r0)])) rfl rfl (hb hby d48_11)
  have Fw9 := f8.same W9
  have N9 := Fr.snoc X9 N5 g4
  have f10 := (f6.wr W9)
  have f12 := ((f11.other W5 (Or.inr (slot_ne (Or.inl (w 311 rfl)) (Or.inr (w 307 rfl)) (by decide) (t := .int) (t' := (.object cs11)) (by decide) (by decide)))).other W9 (Or.inr (slot_ne (Or.inl (w 311 rfl)) (Or.inr (w 309 rfl)) (by decide) (t := .int) (t' := .int) (by decide) (by decide))))
  obtain ⟨T13, h13, X13, e13, W13, st13⟩ := putF X9 hx hZ hown (host := "") (Or.inl (w 310 rfl)) Via.refl e9 f12 f10 (Or.inl (w 311 rfl)) (w 293 rfl) (ty := .int) (by decide) rfl rfl (g := (mkF m 16 #[lR r0, lR r1, lV vI0] [vI0, (.ref r0)])) rfl rfl (hb hby d48_16)
  have Fw13 := f12.same W13
  have N13 := Fr.snoc X13 N9 g4
  have f14 := (f10.wr W13)
  have f16 := (((f15.other W5 (Or.inr (slot_ne (Or.inr (w 313 rfl)) (Or.inr (w 307 rfl)) (by decide) (t := .boolean) (t' := (.object cs11)) (by decide) (by decide)))).other W9 (Or.inr (slot_ne (Or.inr (w 313 rfl)) (Or.inr (w 309 rfl)) (by decide) (t := .boolean) (t' := .int) (by decide) (by decide)))).other W13 (Or.inr (slot_ne (Or.inr (w 313 rfl)) (Or.inl (w 311 rfl)) (by decide) (t := .boolean) (t' := .int) (by decide) (by decide))))
  obtain ⟨T17, h17, X17, e17, W17, st17⟩ := putFN X13 hx hZ hown (w 312 rfl) Via.refl e13 f16 f14 (Or.inr ⟨(w 313 rfl), rfl, hnm⟩) (w 293 rfl) (ty := .boolean) (v' := vI0) (by decide) rfl (by decide) (g := (mkF m 21 #[lR r0, lR r1, lV vI0] [vI0, (.ref r0)])) rfl rfl (hb hby d48_21)
  have Fw17 := f16.same W17
  have N17 := Fr.snoc X17 N13 g4
  have f18 := (((Fw5.other W9 (Or.inr (slot_ne (Or.inr (w 307 rfl)) (Or.inr (w 309 rfl)) (by decide) (t := (.object cs11)) (t' := .int) (by decide) (by decide)))).other W13 (Or.inr (slot_ne (Or.inr (w 307 rfl)) (Or.inl (w 311 rfl)) (by decide) (t := (.object cs11)) (t' := .int) (by decide) (by decide)))).other W17 (Or.inr (slot_ne (Or.inr (w 307 rfl)) (Or.inr (w 313 rfl)) (by decide) (t := (.object cs11)) (t' := .boolean) (by decide) (by decide))))
  have f19 := ((Fw9.other W13 (Or.inr (slot_ne (Or.inr (w 309 rfl)) (Or.inl (w 311 rfl)) (by decide) (t := .int) (t' := .int) (by decide) (by decide)))).other W17 (Or.inr (slot_ne (Or.inr (w 309 rfl)) (Or.inr (w 313 rfl)) (by decide) (t := .int) (t' := .boolean) (by decide) (by decide))))
  have f20 := (Fw13.other W17 (Or.inr (slot_ne (Or.inl (w 311 rfl)) (Or.inr (w 313 rfl)) (by decide) (t := .int) (t' := .boolean) (by decide) (by decide))))
  have kp21 : Keep h0 h5 [r0] := (Keep.refl h0 [r0]).wr W5 (Or.inl (List.mem_of_getElem? (i := 0) rfl))
  have kp22 : Keep h0 h9 [r0] := kp21.wr W9 (Or.inl (List.mem_of_getElem? (i := 0) rfl))
  have kp23 : Keep h0 h13 [r0] := kp22.wr W13 (Or.inl (List.mem_of_getElem? (i := 0) rfl))
  have kp24 : Keep h0 h17 [r0] := kp23.wr W17 (Or.inl (List.mem_of_getElem? (i := 0) rfl))
  refine ⟨none, _, _, _, _, (fun _ => rfl), X17, by decide, by decide, ?_, fun fs hr => ?_⟩
  · rw [e17]; exact ⟨rfl, N17, kp24, f18, f19, f20, Fw17⟩
  · show SG p e below s₁ (mkF m 0 #[lR r0, lR r1, lV vI0] []) _
    refine qaN X0 hx hby d48_0 ?_
    refine st1 _ ?_
    refine qaN X1 hx hby d48_4 ?_
    refine qaN X1 hx hby d48_5 ?_
    refine st5 _ ?_
    refine qaN X5 hx hby d48_9 ?_
    refine qiN X5 hx hby d48_10 ?_
    refine st9 _ ?_
    refine qaN X9 hx hby d48_14 ?_
    refine qc X9 hx hby d48_15 ?_
    refine st13 _ ?_
    refine qaN X13 hx hby d48_19 ?_
    refine qc X13 hx hby d48_20 ?_
    refine st17 _ ?_
    exact X17.returnOut hx hret (hb hby d48_24) hr
theorem pd__Ljava_util_List_I_V : parseMethodDescriptor "(Ljava/util/List;I)V" = some ⟨[(.object "java/util/List"), .int], none⟩ := by decide +kernel
theorem d46_12 : DK cB46 12 (.areturn) 1 := by decide +kernel
theorem pn_java_util_ImmutableCollections_AbstractImmutableList : plainName "java/util/ImmutableCollections$AbstractImmutableList" = true := by first | (simp [plainName, overriddenIn]; done) | decide +kernel
def Q46_1 (Z : State) (r0 : Addr) (h0 : Heap) (n0 : Nat) (v : Option Value) (h : Heap) (L : List Loc) : Prop := ∃ (b1 : Addr), v = some (.ref b1) ∧ Fr n0 L ∧ Keep h0 h [] ∧ h0.size ≤ b1 ∧ Exa Z h b1 cs33 ∧ Fld Z h b1 cs33 "list" cs20 (.ref r0) ∧ Fld Z h b1 cs33 "size" "I" vI0 ∧ Fld Z h b1 cs33 "cursor" "I" vI0 ∧ Fld Z h b1 cs33 cs34 "Z" vI0
theorem rm46_1 (l : Launch) (Z : State) (a0 : Array Value) (hw : own_HW a0 Z) (ws : List Jvm.Cond) (r0 r1 : Addr) (c2 : ClassId) (h0 : Heap) (n0 : Nat) (O0 : Old Z n0 h0) (f6 : Exa Z Z.heap r0 cs32) (f9 : Fld Z Z.heap r0 cs32 "elements" cs4 (.ref r1)) (f10 : Arv Z Z.heap r1 c2 (.object cs5) (0 : Int32) [] .null) :
    own_MF l mN28 jdk_46_method_10_code 1 (some (.object cs38)) ws rR2_1_4_27 Z h0 #[(.ref r0)] (Q46_1 Z r0 h0 n0) := by
  refine own_open (plainFor_of_name pn_java_util_ImmutableCollections_AbstractImmutableList) (L0 := #[lR r0]) (fun _ => by first | (simp [entryFrame, mkF, argsToLocals, Value.category]; done) | rfl) ?_
  intro p e s m below meth c s₁ hx hby hml hret hnn hZ hown X0 e0
  have N0 := Fr.nil n0; have w := @ww Z a0 hw
  obtain ⟨T1, h1, X1, e1, E1, A1, D1, -, st1⟩ := newO X0 hx hZ hown (w 292 rfl) (w 293 rfl) (w 294 rfl) e0 (g := (mkF m 0 #[lR r0] [])) rfl (hb hby d46_0) (by decide) (by decide)
  obtain ⟨b1, g1⟩ : ∃ z, z = h0.size := ⟨_, rfl⟩
  rw [← g1] at A1 D1 st1
  have f2 : Fld Z h1 b1 cs33 "list" cs20 .null := D1 (Or.inr (w 307 rfl)) (ty := (.object cs11)) (by decide)
  have f3 : Fld Z h1 b1 cs33 "size" "I" vI0 := D1 (Or.inr (w 309 rfl)) (ty := .int) (by decide)
  have f4 : Fld Z h1 b1 cs33 "cursor" "I" vI0 := D1 (Or.inl (w 311 rfl)) (ty := .int) (by decide)
  have f5 : Fld Z h1 b1 cs33 cs34 "Z" vI0 := D1 (Or.inr (w 313 rfl)) (ty := .boolean) (by decide)
  have o7 := Old.ext O0 E1
  have f8 := f6.ext o7.2
  obtain ⟨cqq12, kqq12, qq12a, qq12b, qq12c⟩ := isOf hZ e1 f8
  obtain ⟨_, T11, Lc11, X11, hQ11, st11⟩ := own_fin (X1.virtualBackUp hx (x := mN29) (y := mN26) hown (mvT hZ (w 295 rfl)) (mvT hZ (w 296 rfl)) (mvT hZ (w 297 rfl)) (by decide) (mvT hZ (w 421 rfl)) (mvT hZ (w 422 rfl)) (backOf (W := 3) (rm70_1 l Z a0 hw [] r0 r1 c2 h1 n0 o7 f9 f10) hZ (w 424 rfl) (w 423 rfl) (by decide) (by decide)) qq12a qq12c (g := (mkF m 6 #[lR r0] [(.ref r0), (.ref r0), (.ref b1), (.ref b1)])) rfl (by rw [hml]; rfl) (Steps.refl _) (argsL := []) (rest := [(.ref r0), (.ref b1), (.ref b1)]) (lenOf pd___I rfl) rfl (own_W rfl) (hb hby d46_6) (fun _ _ => ⟨rfl, e1, (by decide : 1 + 0 ≤ _), (by decide : 4 + 0 ≤ _)⟩))
  obtain ⟨rfl, N11q, E11⟩ := hQ11
  have N11 := Fr.app N0 N11q
  have zz13 : n0 ≤ h0.size := by rw [← O0.1]; exact O0.2.1
  have g14 := Nat.le_trans zz13 (Nat.le_of_eq g1.symm)
  obtain ⟨_, T15, Lc15, X15, hQ15, st15⟩ := own_fin (X11.specialBack hx (y := mN27) rfl hown (mvT hZ (w 301 rfl)) (mvT hZ (w 302 rfl)) (mvT hZ (w 304 rfl)) (by decide) (backOf (W := 1) (rm48_1 l Z a0 hw [] b1 r0 h1 n0 o7 A1 f2 g14 f3 f4 f5) hZ (w 304 rfl) (w 294 rfl) (by decide) (by decide)) (g := (mkF m 9 #[lR r0] [vI0, (.ref r0), (.ref b1), (.ref b1)])) rfl (by rw [hml]; rfl) (Steps.refl _) (a := b1) (argsL := [(.ref r0), vI0]) (rest := [(.ref b1)]) (lenOf pd__Ljava_util_List_I_V rfl) rfl (own_W rfl) (hb hby d46_9) (fun _ _ => ⟨rfl, E11, (by decide : 1 + 0 ≤ _), (by decide : 4 + 0 ≤ _)⟩))
  obtain ⟨rfl, N15q, K15, f16, f17, f18, f19⟩ := hQ15
  have N15 := Fr.app N11 N15q
  have f20 := (A1.keep K15)
  have kp21 : Keep h0 h1 [] := (Keep.refl h0 []).ext E1
  have kp22 : Keep h0 T15.heap [] := kp21.trans K15 (allS (Or.inr (Nat.le_of_eq g1.symm)) all0)
  refine ⟨some (.ref b1), _, _, _, _, nofun, X15, by decide, by decide, ?_, fun fs hr => ?_⟩
  · exact ⟨b1, rfl, N15, kp22, (Nat.le_of_eq g1.symm), f20, f16, f17, f18, f19⟩
  · show SG p e below s₁ (mkF m 0 #[lR r0] []) _
    refine st1 _ ?_
    refine qd X1 hx hby d46_3 ?_
    refine qaN X1 hx hby d46_4 ?_
    refine qaN X1 hx hby d46_5 ?_
    refine st11.trans ?_
    refine st15.trans ?_
    exact retOut X15 hx (i := .areturn) hret rfl (Or.inr (Or.inr (Or.inr (Or.inr ⟨rfl, rfl, rfl⟩)))) (hb hby d46_12) hr
theorem pd___Ljava_util_Iterator_ : parseMethodDescriptor "()Ljava/util/Iterator;" = some ⟨[], some (.object "java/util/Iterator")⟩ := by decide +kernel
theorem d45_4 : DK cB45 4 (.astore_n 1) 1 := by decide +kernel
theorem d45_5 : DK cB45 5 (.aload_n 1) 1 := by decide +kernel
theorem d45_6 : DK cB45 6 (.invokeinterface 17 1) 5 := by decide +kernel
theorem d49_0 : DK cB49 0 (.aload_n 0) 1 := by decide +kernel
theorem d49_1 : DK cB49 1 (.getfield 17) 3 := by decide +kernel
theorem d49_4 : DK cB49 4 (.aload_n 0) 1 := by decide +kernel
theorem d49_5 : DK cB49 5 (.getfield 13) 3 := by decide +kernel
theorem d49_8 : DK cB49 8 (.if_icmp .eq 7) 3 := by decide +kernel
theorem d49_15 : DK cB49 15 (.iconst 0) 1 := by decide +kernel
theorem d49_16 : DK cB49 16 (.ireturn) 1 := by decide +kernel
def Q49_1 (Z : State)  (h0 : Heap) (n0 : Nat) (v : Option Value) (h : Heap) (L : List Loc) : Prop := v = some vI0 ∧ Fr n0 L ∧ h = h0
theorem rm49_1 (l : Launch) (Z : State) (a0 : Array Value) (hw : own_HW a0 Z) (ws : List Jvm.Cond) (r0 : Addr) (h0 : Heap) (n0 : Nat) (O0 : Old Z n0 h0) (f1 : Fld Z h0 r0 cs33 "cursor" "I" vI0) (f3 : Fld Z h0 r0 cs33 "size" "I" vI0) :
    own_MF l mN30 jdk_53_method_3_code 1 (some .boolean) ws rR0_0_0_0 Z h0 #[(.ref r0)] (Q49_1 Z  h0 n0) := by
  refine own_open (plainFor_of_name pn_java_util_ImmutableCollections_ListItr) (L0 := #[lR r0]) (fun _ => by first | (simp [entryFrame, mkF, argsToLocals, Value.category]; done) | rfl) ?_
  intro p e s m below meth c s₁ hx hby hml hret hnn hZ hown X0 e0
  have N0 := Fr.nil n0
  obtain ⟨T2, X2, e2, st2⟩ := getF X0 hx hZ hown (host := "") (Or.inl (ww hw 310 rfl)) Via.refl e0 f1 (g := (mkF m 1 #[lR r0] [(.ref r0)])) rfl rfl (hb hby d49_1)
  obtain ⟨T4, X4, e4, st4⟩ := getF X2 hx hZ hown (host := "") (Or.inl (ww hw 308 rfl)) Via.refl e2 f3 (g := (mkF m 5 #[lR r0] [(.ref r0), vI0])) rfl rfl (hb hby d49_5)
  refine ⟨some vI0, _, _, _, _, nofun, X4, by decide, by decide, ?_, fun fs hr => ?_⟩
  · rw [e4]; exact ⟨rfl, N0, rfl⟩
  · show SG p e below s₁ (mkF m 0 #[lR r0] []) _
    refine qaN X0 hx hby d49_0 ?_
    refine st2 _ ?_
    refine qaN X2 hx hby d49_4 ?_
    refine st4 _ ?_
    refine XS.icmpYes X4.here hx rfl (pc0 := 8) (pc' := 15) rfl (hb hby d49_8) rfl (teq (rfl : (0 : Int32) = (0 : Int32))).1 (by decide) (by decide) ?_
    refine qc X4 hx hby d49_15 ?_
    exact retN X4 hx (t := .boolean) hret (by simp) (hb hby d49_16) hr
theorem d45_11 : DK cB45 11 (.ifCond .ne 6) 3 := by decide +kernel
theorem d45_14 : DK cB45 14 (.ldc 92) 2 := by decide +kernel
theorem d45_16 : DK cB45 16 (.areturn) 1 := by decide +kernel
def Q45_1 (Z : State)  (h0 : Heap) (n0 : Nat) (v : Option Value) (h : Heap) (L : List Loc) : Prop := ∃ (a18 b18 : Addr) (k18 : ClassId), v = some (.ref a18) ∧ Fr n0 L ∧ Keep h0 h [] ∧ True ∧ Exa Z h a18 cs8 ∧ Fld Z h a18 cs8 "coder" "B" vI0 ∧ Fld Z h a18 cs8 "value" "[B" (.ref b18) ∧ True ∧ Arv Z h b18 k18 .byte (2 : Int32) [vI91, vI93] vI0
theorem rm45_1 (l : Launch) (Z : State) (a0 : Array Value) (hw : own_HW a0 Z) (ws : List Jvm.Cond) (r0 r1 : Addr) (c2 : ClassId) (h0 : Heap) (n0 : Nat) (O0 : Old Z n0 h0) (f1 : Exa Z Z.heap r0 cs32) (f3 : Fld Z Z.heap r0 cs32 "elements" cs4 (.ref r1)) (f4 : Arv Z Z.heap r1 c2 (.object cs5) (0 : Int32) [] .null) :
    own_MH l mN31 jdk_22_method_16_code 4 (some (.object cs8)) ws rR3_3_16_39 Z h0 #[(.ref r0)] (Q45_1 Z  h0 n0) := by
  have hEL : EW Z a0 consts_1 := own_EW hw
  refine own_openH hEL (plainFor_of_name pn_java_util_AbstractCollection) (L0 := #[lR r0, lU, lU, lU]) (fun _ => by first | (simp [entryFrame, mkF, argsToLocals, Value.category]; done) | rfl) ?_
  intro p e s m below meth c s₁ hx hby hml hret hnn hZ hown X0 e0 R0
  have N0 := Fr.nil n0; have w := @ww Z a0 hw
  have f2 := f1.ext O0.2
  obtain ⟨cqq6, kqq6, qq6a, qq6b, qq6c⟩ := isOf hZ e0 f2
  obtain ⟨_, T5, Lc5, X5, hQ5, st5⟩ := own_fin (X0.virtualBack hx (y := mN32) (z := mN28) hown (mvT hZ (w 287 rfl)) (mvT hZ (w 288 rfl)) (nf_super (args := #[]) (mvT hZ (w 110 rfl))) (mvT hZ (w 420 rfl)) (mvT hZ (w 290 rfl)) (by decide) (backOf (W := 0) (rm46_1 l Z a0 hw [] r0 r1 c2 h0 n0 O0 f1 f3 f4) hZ (w 291 rfl) (w 166 rfl) (by decide) (by decide)) qq6a qq6c (g := (mkF m 1 #[lR r0, lU, lU, lU] [(.ref r0)])) rfl (by rw [hml]; rfl) (Steps.refl _) (argsL := []) (rest := []) (lenOf pd___Ljava_util_Iterator_ rfl) rfl (own_W rfl) (hb hby d45_1) (fun _ _ => ⟨rfl, e0, (by decide : 0 + 1 ≤ _), (by decide : 0 + 4 ≤ _)⟩))
  obtain ⟨b5_0, rfl, N5q, K5, f7, f8, f9, f10, f11, f12⟩ := hQ5
  have N5 := Fr.app N0 N5q
  have R13 := CHr.trans R0 (CHr.keep K5 sf0 R0.1)
  have sf14 : Safe Z consts_1 s.vm h0 b5_0 := Safe.new f7
  have o15 := Old.keep O0 K5 all0
  obtain ⟨_, T16, Lc16, X16, hQ16, st16⟩ := own_cI (xi := mN33) X5 hx hZ hown rfl (rm49_1 l Z a0 hw [] b5_0 T5.heap n0 o15 f11 f10) f8 (w 314 rfl) (w 315 rfl) (w 316 rfl) (w 317 rfl) (w 318 rfl) (w 319 rfl) (w 320 rfl) (w 321 rfl) (w 322 rfl) (w 294 rfl) (by decide) (W := 0) (by decide) (by decide) (by decide) (by decide) (g := (mkF m 6 #[lR r0, lR b5_0, lU, lU] [(.ref b5_0)])) rfl (by rw [hml]; rfl) (argsL := []) (rest := []) (lenOf pd___Z rfl) rfl (own_W rfl) (hb hby d45_6)
  obtain ⟨rfl, N16q, E16⟩ := hQ16
  have N16 := Fr.app N5 N16q
  have hS17 := (State.WarmedH.refl s).since 0
  have hstr : ∀ a ∈ Bundle.stringAtoms, a.before a0 Z = true := fun a q => hw a (own_str a q)
  obtain ⟨a18, T18, h18, kk18, b18, k18, X18, e18, E18, hS18, hk18, hZ18, ho18, EE18, C18, F18, V18, l18, m18, CR18, -, ne18, st18⟩ := ldcCH (s := s) (vm0 := s.vm) X16 hx hZ hown (w 427 rfl) hstr E16 hS17 (Nat.zero_le _) hEL (by simp [consts_1]) R13.1 (vs := [vI91, vI93]) (z := (2 : Int32)) ⟨by decide, by decide⟩ (by decide) rfl (g := (mkF m 14 #[lR r0, lR b5_0, lU, lU] [])) rfl (hb hby d45_14) (n := 8) (by decide) (by decide) (by decide) (by decide)
  have R19 := CHr.trans R13 CR18
  have f20 := (f8.ext E18)
  have nl21 := ne18 _ (Safe.exa hZ18.alike f20 (by decide) (by decide))
  have kp22 : Keep h0 T5.heap [] := (Keep.refl h0 []).trans K5 all0
  have kp23 : Keep h0 h18 [] := kp22.ext E18
  refine ⟨some (.ref a18), _, _, _, _, _, _, _, nofun, X18, by decide, by decide, hS18, (by rw [e18]; exact hk18), hZ18, e18, R19, ?_, fun fs hr => ?_⟩
  · rw [e18]; exact ⟨a18, b18, k18, rfl, N16, kp23, trivial, EE18, C18, F18, trivial, V18⟩
  · show SG p e below s₁ (mkF m 0 #[lR r0, lU, lU, lU] []) _
    refine qaN X0 hx hby d45_0 ?_
    refine st5.trans ?_
    refine XS.astoreN X5.here hx rfl (hb hby d45_4) rfl rfl (l' := #[lR r0, lR b5_0, lU, lU]) rfl ?_
    refine qaN X5 hx hby d45_5 ?_
    refine st16 _ ?_
    refine XS.ifNo X16.here hx rfl (hb hby d45_11) rfl ((if0 _ _).trans (teq (rfl : (0 : Int32) = (0 : Int32))).2) ?_
    refine st18 _ ?_
    exact retOut X18 hx (i := .areturn) hret rfl (Or.inr (Or.inr (Or.inr (Or.inr ⟨rfl, rfl, rfl⟩)))) (hb hby d45_16) hr
theorem pd___Ljava_lang_String_ : parseMethodDescriptor "()Ljava/lang/String;" = some ⟨[], some (.object "java/lang/String")⟩ := by decide +kernel
theorem d44_14 : DK cB44 14 (.areturn) 1 := by decide +kernel
def Q44_1 (Z : State)  (h0 : Heap) (n0 : Nat) (v : Option Value) (h : Heap) (L : List Loc) : Prop := ∃ (b6_0 b6_1 : Addr) (k6_0 : ClassId), v = some (.ref b6_0) ∧ Fr n0 L ∧ Keep h0 h [] ∧ True ∧ Exa Z h b6_0 cs8 ∧ Fld Z h b6_0 cs8 "coder" "B" vI0 ∧ Fld Z h b6_0 cs8 "value" "[B" (.ref b6_1) ∧ True ∧ Arv Z h b6_1 k6_0 .byte (2 : Int32) [vI91, vI93] vI0
theorem rm44_1 (l : Launch) (Z : State) (a0 : Array Value) (hw : own_HW a0 Z) (ws : List Jvm.Cond) (r0 r1 : Addr) (c2 : ClassId) (h0 : Heap) (n0 : Nat) (O0 : Old Z n0 h0) (f1 : Exa Z Z.heap r0 cs32) (f3 : Fld Z Z.heap r0 cs32 "elements" cs4 (.ref r1)) (f4 : Arv Z Z.heap r1 c2 (.object cs5) (0 : Int32) [] .null) :
    own_MH l mN34 jdk_42_method_133_code 1 (some (.object cs8)) ws rR4_3_16_54 Z h0 #[(.ref r0)] (Q44_1 Z  h0 n0) := by
  have hEL : EW Z a0 consts_1 := own_EW hw
  refine own_openH hEL (plainFor_of_name pn_java_lang_String) (L0 := #[lR r0]) (fun _ => by first | (simp [entryFrame, mkF, argsToLocals, Value.category]; done) | rfl) ?_
  intro p e s m below meth c s₁ hx hby hml hret hnn hZ hown X0 e0 R0
  have N0 := Fr.nil n0; have w := @ww Z a0 hw
  have f2 := f1.ext O0.2
  have hS5 := (State.WarmedH.refl s).since 0
  obtain ⟨cqq7, kqq7, qq7a, qq7b, qq7c⟩ := isOf hZ e0 f2
  obtain ⟨_, _, ⟨T6, L6, k6, n6⟩, -, X6, hs6, hg6, ⟨Lc6, hQ6, l6, y6, z6, cr6⟩, st6⟩ := X0.virtualBackS hx (y := mN35) (z := mN31) hown (mvT hZ (w 281 rfl)) (mvT hZ (w 282 rfl)) (nf_top (args := #[]) (mvT hZ (w 111 rfl))) (mvT hZ (w 419 rfl)) (mvT hZ (w 285 rfl)) (by decide) (backOfSH (s := s) (vm0 := s.vm) (W := 0) (rm45_1 l Z a0 hw [] r0 r1 c2 h0 n0 O0 f1 f3 f4) hZ (w 286 rfl) (w 47 rfl) (by decide) (by decide) hEL R0.1) qq7a qq7c (g := (mkF m 11 #[lR r0] [(.ref r0)])) rfl (by rw [hml]; rfl) (Steps.refl _) (argsL := []) (rest := []) (lenOf pd___Ljava_lang_String_ rfl) rfl (own_W rfl) (hb hby d44_11) (fun _ _ => ⟨rfl, e0, (by decide : 0 + 3 ≤ _), (by decide : 0 + 16 ≤ _)⟩)
  dsimp only [Pt.U, Pt.locs, Pt.cells, Pt.slots] at X6 l6 y6 z6 st6 hQ6 hs6 hg6 cr6
  subst l6 y6 z6
  obtain ⟨X6, hS6, hZ6, ho6⟩ := rebS (s := s) (vm0 := s.vm) hS5 (by rw [e0]; exact (Nat.zero_le _)) X6 hs6 hg6 hZ hown
  obtain ⟨b6_0, b6_1, k6_0, rfl, N6q, K6, f8, f9, f10, f11, f12, f13⟩ := hQ6
  have N6 := Fr.app N0 N6q
  have R14 := CHr.trans R0 cr6
  have kp15 : Keep h0 T6.heap [] := (Keep.refl h0 []).trans K6 all0
  refine ⟨some (.ref b6_0), _, _, _, _, _, _, _, nofun, X6, by decide, by decide, hS6, ((Nat.le_refl _)), hZ6, rfl, R14, ?_, fun fs hr => ?_⟩
  · exact ⟨b6_0, b6_1, k6_0, rfl, N6, kp15, trivial, f9, f10, f11, trivial, f13⟩
  · show SG p e below s₁ (mkF m 0 #[lR r0] []) _
    refine qaN X0 hx hby d44_0 ?_
    refine XS.ifnonnullYes X0.here hx rfl (pc0 := 1) (pc' := 10) rfl (hb hby d44_1) rfl (by decide) (by decide) ?_
    refine qaN X0 hx hby d44_10 ?_
    refine st6.trans ?_
    exact retOut X6 hx (i := .areturn) hret rfl (Or.inr (Or.inr (Or.inr (Or.inr ⟨rfl, rfl, rfl⟩)))) (hb hby d44_14) hr
theorem pd__Ljava_lang_Object__Ljava_lang_String_ : parseMethodDescriptor "(Ljava/lang/Object;)Ljava/lang/String;" = some ⟨[(.object "java/lang/Object")], some (.object "java/lang/String")⟩ := by decide +kernel
theorem d43_5 : DK cB43 5 (.invokevirtual 23) 3 := by decide +kernel
section OwnSafe
variable {p : Program} {l : Launch} {e : Env} {R : Room} {s : State} {args : Array Value} {below : List Frame} {Z : State} {a0 : Array Value} {EL : List (String × Nat)} {h : Heap} {vm0 : Vm}
theorem own_backSafe {y : MethodName} {bytes : ByteArray} {maxL : Nat} {ret : Option FieldType} {rm : Room} {len W : Nat} {as' : Array Value} {Q : Option Value → Heap → List Loc → Prop} {xs : List Addr}
    (hM : MetFree l y (head1 [Jvm.Cond.code y bytes maxL ret] rm) (fun a U => a = as' ∧ Z.Warmed39 U.vm ∧ U.heap = h ∧ CHv Z EL U.vm h ∧ ∀ x ∈ xs, Safe Z EL U.vm h x) (fun _ _ _ _ _ => True) (fun _ U o U' => ∃ v L, o = .returned v ∧ Q v U'.heap L ∧ CHr Z EL U.vm U.heap U'.vm U'.heap ∧ ReturnedEndW U o U' L rm.cells rm.slots))
    (hZ : Z.Warmed39 vm0) (wc : (Jvm.Cond.code y bytes maxL ret).before a0 Z = true) (wz : (Jvm.Cond.initialized y.cls).before a0 Z = true) (hf : rm.frames + 1 ≤ R.frames) (hl : W + (maxL + 11) + rm.locals ≤ R.locals) (hEL : EW Z a0 EL) (H : CHv Z EL vm0 h) (hxs : ∀ x ∈ xs, x < h.size ∧ Safe Z EL vm0 h x) :
    BackS l R p e below (s.setVm vm0) args y len W (fun A a => a = as' ∧ A.U.heap = h ∧ A.cells + rm.cells ≤ R.cells ∧ A.slots + rm.slots ≤ R.slots)
      (fun A _ v B => ∃ L, Q v B.U.heap L ∧ B.locs = A.locs ++ L ∧ B.cells = A.cells + rm.cells ∧ B.slots = A.slots + rm.slots ∧ CHr Z EL vm0 h B.U.vm B.U.heap) := by
  refine BackS.of_freeW (bytes := bytes) (maxL := maxL) (ret := ret) (E := fun _ first o t L k n => k = rm.cells ∧ n = rm.slots ∧ (∃ v, o = .returned v ∧ Q v t.heap L) ∧ CHr Z EL first.vm first.heap t.vm t.heap) hM hf hl ?_ ?_ (fun _ _ _ _ _ _ _ _ _ => trivial) ?_ ?_
  · intro m meth c A a Y hp
    have hU : Z.Warmed39 A.U.vm := wtrans (s := s.setVm vm0) hZ Y.warmed
    exact ⟨by show (Jvm.Cond.and _ .tt).before a A.U = true; rw [Cond.before_and, mv hU wc]; rfl, mv hU wc, mv hU wz, hp.2.2.1, hp.2.2.2⟩
  · intro m meth c A a g mk Y hp
    exact ⟨hp.1, wtrans (s := s.setVm vm0) hZ Y.warmed, hp.2.1, (CHv.at Y hZ hEL H).1, fun x hx => CHr.safe (CHv.at Y hZ hEL H) (hxs x hx).1 (hxs x hx).2⟩
  · intro _ _ _ _ ⟨v, L, h1, h2, h3, h4⟩
    exact ⟨L, _, _, h4, rfl, rfl, ⟨v, h1, h2⟩, h3⟩
  · intro m meth c A a g mk v t L k n Y hp _ _ ⟨e1, e2, ⟨v', e3, e4⟩, e5⟩
    cases e3; subst e1 e2
    refine ⟨L, e4, rfl, rfl, rfl, (CHv.at Y hZ hEL H).trans ?_⟩
    rw [← hp.2.1]; exact e5
end OwnSafe
theorem d43_8 : DK cB43 8 (.areturn) 1 := by decide +kernel
def Q43_1 (Z : State) (r0 r5 : Addr) (c6 : ClassId) (x7 x8 : Int32) (h0 : Heap) (n0 : Nat) (v : Option Value) (h : Heap) (L : List Loc) : Prop := v = some (.ref r0) ∧ Fr n0 L ∧ Keep h0 h [r5, r0] ∧ Arv Z h r5 c6 .byte (70 : Int32) [vI73, vI110, vI116, vI101, vI114, vI110, vI97, vI108, vI67, vI97, vI108, vI108, vI68, vI101, vI116, vI97, vI105, vI108, vI115, vI32, vI91, vI107, vI101, vI121, vI61, (.int x7), (.int x8), vI44, vI32, vI97, vI117, vI116, vI104, vI111, vI114, vI105, vI116, vI105, vI101, vI115, vI61, vI91, vI93, vI0, vI0, vI0, vI0, vI0, vI0, vI0, vI0, vI0, vI0, vI0, vI0, vI0, vI0, vI0, vI0, vI0, vI0, vI0, vI0, vI0, vI0, vI0, vI0, vI0, vI0, vI0] vI0 ∧ Fld Z h r0 cs22 "count" "I" vI43 ∧ Fld Z h r0 cs22 "value" "[B" (.ref r5) ∧ Fld Z h r0 cs22 "coder" "B" vI0
theorem rm43_1 (l : Launch) (Z : State) (a0 : Array Value) (hw : own_HW a0 Z) (ws : List Jvm.Cond) (r0 r1 r2 : Addr) (c3 : ClassId) (x4 : Int32) (r5 : Addr) (c6 : ClassId) (x7 x8 : Int32) (h0 : Heap) (n0 : Nat) (O0 : Old Z n0 h0) (f1 : Exa Z Z.heap r1 cs32) (f2 : Fld Z Z.heap r1 cs32 "elements" cs4 (.ref r2)) (f3 : Arv Z Z.heap r2 c3 (.object cs5) (0 : Int32) [] .null) (f13 : Exa Z h0 r0 cs23) (f15 : Sta Z Z.heap cs8 cs9 "Z" (.int x4)) (hc16 : ¬ (x4 = (0 : Int32))) (f17 : Fld Z h0 r0 cs22 "count" "I" vI41) (f19 : Fld Z h0 r0 cs22 "value" "[B" (.ref r5)) (f21 : Arv Z h0 r5 c6 .byte (70 : Int32) [vI73, vI110, vI116, vI101, vI114, vI110, vI97, vI108, vI67, vI97, vI108, vI108, vI68, vI101, vI116, vI97, vI105, vI108, vI115, vI32, vI91, vI107, vI101, vI121, vI61, (.int x7), (.int x8), vI44, vI32, vI97, vI117, vI116, vI104, vI111, vI114, vI105, vI116, vI105, vI101, vI115, vI61, vI0, vI0, vI0, vI0, vI0, vI0, vI0, vI0, vI0, vI0, vI0, vI0, vI0, vI0, vI0, vI0, vI0, vI0, vI0, vI0, vI0, vI0, vI0, vI0, vI0, vI0, vI0, vI0, vI0] vI0) (f23 : Fld Z h0 r0 cs22 "coder" "B" vI0) (g25 : n0 ≤ r5) (n26 : r0 ≠ r5) (g27 : n0 ≤ r0) (f34 : Exa Z h0 r5 "[B") (l36 : r5 < h0.size) :
    MetFree l mN36 (head1 (Jvm.Cond.code mN36 jdk_67_method_6_code 2 (some (.object cs23)) :: ws) rR5_3_16_80) (fun a U => a = #[(.ref r0), (.ref r1)] ∧ Z.Warmed39 U.vm ∧ U.heap = h0 ∧ CHv Z consts_1 U.vm h0 ∧ ∀ x ∈ [r5], Safe Z consts_1 U.vm h0 x) (fun _ _ _ _ _ => True) (fun _ U o U' => ∃ v L, o = .returned v ∧ Q43_1 Z r0 r5 c6 x7 x8 h0 n0 v U'.heap L ∧ CHr Z consts_1 U.vm U.heap U'.vm U'.heap ∧ ReturnedEndW U o U' L rR5_3_16_80.cells rR5_3_16_80.slots) := by
  refine MetFree.of_bodySF (plainFor_of_name pn_java_lang_StringBuilder) hisR ?_
  intro p e s m args below meth c s₁ Bd hml0 hP hK
  obtain ⟨rfl, hZ, hh, hC, hSf⟩ := hP
  have hx := Bd.exec
  have hby := Bd.bytes
  have hml : c.maxLocals = 2 := hml0
  have hown : s.vm.findClass cs23 = some m.cls := findClass_of_methodNamed Bd.named
  have X0 : Stand p l e rR5_3_16_80 s m #[(.ref r0), (.ref r1)] below meth c s₁ [] 0 0 := Stand.of_body Bd
  have e0 : s₁.heap = h0 := by rw [← hh, Bd.state]; rfl
  have N0 := Fr.nil n0; have w := @ww Z a0 hw
  have pre0 : ∀ t, Steps p.tables e below (s₁.setTop (mkF m 0 #[lR r0, lR r1] [])) t → Steps p.tables e below (s₁.setTop (entryFrame m #[(.ref r0), (.ref r1)] 2)) t := fun t k => castTop (by first | (simp [entryFrame, mkF, argsToLocals, Value.category]; done) | rfl) k
  have hEL : EW Z a0 consts_1 := own_EW hw
  have R0 := CHr.refl hC
  have hS4 := (State.WarmedH.refl s).since 0
  obtain ⟨_, _, ⟨T5, L5, k5, n5⟩, -, X5, hs5, hg5, ⟨Lc5, hQ5, l5, y5, z5, cr5⟩, st5⟩ := callSS X0 hx (y := mN34) hown (mvT hZ (w 278 rfl)) (mvT hZ (w 279 rfl)) (mvT hZ (w 3 rfl)) (mvT hZ (w 280 rfl)) (by decide) (backOfSH (s := s) (vm0 := s.vm) (W := 1) (rm44_1 l Z a0 hw [] r1 r2 c3 h0 n0 O0 f1 f2 f3) hZ (w 280 rfl) (w 3 rfl) (by decide) (by decide) hEL R0.1) (g := (mkF m 2 #[lR r0, lR r1] [(.ref r1), (.ref r0)])) rfl (by rw [hml]; rfl) (argsL := [(.ref r1)]) (rest := [(.ref r0)]) (lenOf pd__Ljava_lang_Object__Ljava_lang_String_ rfl) rfl (own_W rfl) (hb hby d43_2) (fun _ _ => ⟨rfl, e0, (by decide : 0 + 3 ≤ _), (by decide : 0 + 16 ≤ _)⟩)
  dsimp only [Pt.U, Pt.locs, Pt.cells, Pt.slots] at X5 l5 y5 z5 st5 hQ5 hs5 hg5 cr5
  subst l5 y5 z5
  obtain ⟨X5, hS5, hZ5, ho5⟩ := rebS (s := s) (vm0 := s.vm) hS4 (by rw [e0]; exact (Nat.zero_le _)) X5 hs5 hg5 hZ hown
  obtain ⟨b5_0, b5_1, k5_0, rfl, N5q, K5, f6, f7, f8, f9, f10, f11⟩ := hQ5
  have N5 := Fr.app N0 N5q
  have R12 := CHr.trans R0 cr5
  have f14 := (f13.keep K5)
  have f18 := (f17.keep K5 nin0)
  have f20 := (f19.keep K5 nin0)
  have f22 := (f21.keep K5 nin0)
  have f24 := (f23.keep K5 nin0)
  have o28 := Old.keep O0 K5 all0
  obtain ⟨_, T29, Lc29, X29, hQ29, st29⟩ := own_cV X5 hx hZ5 ho5 rfl (rm32_2 l Z a0 hw [] r0 b5_0 b5_1 (2 : Int32) k5_0 ([vI91, vI93]) x4 (0 : Int32) (41 : Int32) r5 (70 : Int32) c6 ([vI73, vI110, vI116, vI101, vI114, vI110, vI97, vI108, vI67, vI97, vI108, vI108, vI68, vI101, vI116, vI97, vI105, vI108, vI115, vI32, vI91, vI107, vI101, vI121, vI61, (.int x7), (.int x8), vI44, vI32, vI97, vI117, vI116, vI104, vI111, vI114, vI105, vI116, vI105, vI101, vI115, vI61, vI0, vI0, vI0, vI0, vI0, vI0, vI0, vI0, vI0, vI0, vI0, vI0, vI0, vI0, vI0, vI0, vI0, vI0, vI0, vI0, vI0, vI0, vI0, vI0, vI0, vI0, vI0, vI0, vI0]) (0 : Int32) T5.heap n0 o28 f7 f9 f11 f15 hc16 f8 f18 f14 f20 f22 f24 (by decide) (by decide) (by decide) (by decide) (own_lenK (n := 70) rfl (by decide) : [vI73, vI110, vI116, vI101, vI114, vI110, vI97, vI108, vI67, vI97, vI108, vI108, vI68, vI101, vI116, vI97, vI105, vI108, vI115, vI32, vI91, vI107, vI101, vI121, vI61, (.int x7), (.int x8), vI44, vI32, vI97, vI117, vI116, vI104, vI111, vI114, vI105, vI116, vI105, vI101, vI115, vI61, vI0, vI0, vI0, vI0, vI0, vI0, vI0, vI0, vI0, vI0, vI0, vI0, vI0, vI0, vI0, vI0, vI0, vI0, vI0, vI0, vI0, vI0, vI0, vI0, vI0, vI0, vI0, vI0, vI0].length = ((70 : Int32)).toNatClampNeg) (by decide) (by decide) (by decide) g25 n26 g27) f14 (w 365 rfl) (w 214 rfl) (w 216 rfl) (w 215 rfl) (w 217 rfl) (w 194 rfl) (by decide) (W := 0) (by decide) (by decide) (by decide) (by decide) (g := (mkF m 5 #[lR r0, lR r1] [(.ref b5_0), (.ref r0)])) rfl (by rw [hml]; rfl) (argsL := [(.ref b5_0)]) (rest := []) (lenOf pd__Ljava_lang_String__Ljava_lang_StringBuilder_ rfl) rfl (own_W rfl) (hb hby d43_5)
  obtain ⟨rfl, N29q, K29, f30, f31, f32, f33⟩ := hQ29
  have N29 := Fr.app N5 N29q
  have f35 := (f34.keep K5)
  have sf37 := (CHr.safe cr5 l36 (hSf _ (List.mem_of_getElem? (i := 0) rfl)))
  have R38 := CHr.trans R12 (CHr.keep K29 (sfS sf37 (sfS (Safe.exa hZ5.alike f14 (by decide) (by decide)) sf0)) R12.1)
  have f39 : Arv Z T29.heap r5 c6 .byte (70 : Int32) [vI73, vI110, vI116, vI101, vI114, vI110, vI97, vI108, vI67, vI97, vI108, vI108, vI68, vI101, vI116, vI97, vI105, vI108, vI115, vI32, vI91, vI107, vI101, vI121, vI61, (.int x7), (.int x8), vI44, vI32, vI97, vI117, vI116, vI104, vI111, vI114, vI105, vI116, vI105, vI101, vI115, vI61, vI91, vI93, vI0, vI0, vI0, vI0, vI0, vI0, vI0, vI0, vI0, vI0, vI0, vI0, vI0, vI0, vI0, vI0, vI0, vI0, vI0, vI0, vI0, vI0, vI0, vI0, vI0, vI0, vI0] vI0 := own_cpx (by decide : (((41 : Int32) <<< ((0 : Int32) &&& 31))).toNatClampNeg = 41) (by decide : (((41 : Int32) <<< ((0 : Int32) &&& 31))).toNatClampNeg + ((2 : Int32)).toNatClampNeg = 43) f30
  have kp40 : Keep h0 T5.heap [r5, r0] := (Keep.refl h0 [r5, r0]).trans K5 all0
  have kp41 : Keep h0 T29.heap [r5, r0] := kp40.trans K29 (allS (Or.inl (List.mem_of_getElem? (i := 0) rfl)) (allS (Or.inl (List.mem_of_getElem? (i := 1) rfl)) all0))
  have zs42 := K29.1
  obtain ⟨fs, hr, hrun, hended, hend⟩ := leaveW (s := s) (vm₁ := T5.vm) X29 hS5 ((Nat.le_trans (Nat.le_refl _) zs42)) (v := some (.ref r0)) (fun h => by rw [Bd.returns] at h; cases h)
  have hCR : CHr Z consts_1 s.vm s.heap T29.vm T29.heap := by rw [hh]; exact CHr.trans R38 (CHv.at (s := s) (vm0 := T5.vm) X29 hZ5 hEL R38.1)
  refine ⟨_, _, pre0 _ ?_, hrun, hended, _, _, rfl, ?_, hCR, hend.1, hend.2.1, hend.2.2.1, hend.2.2.2.mono (by decide) (by decide)⟩
  · show SG p e below s₁ (mkF m 0 #[lR r0, lR r1] []) _
    refine qaN X0 hx hby d43_0 ?_
    refine qaN X0 hx hby d43_1 ?_
    refine st5.trans ?_
    refine st29 _ ?_
    exact retOut X29 hx (i := .areturn) Bd.returns rfl (Or.inr (Or.inr (Or.inr (Or.inr ⟨rfl, rfl, rfl⟩)))) (hb hby d43_8) hr
  · show Q43_1 Z r0 r5 c6 x7 x8 h0 n0 _ T29.heap _
    exact ⟨rfl, N29, kp41, f39, f31, f32, f33⟩
theorem pd__Ljava_lang_Object__Ljava_lang_StringBuilder_ : parseMethodDescriptor "(Ljava/lang/Object;)Ljava/lang/StringBuilder;" = some ⟨[(.object "java/lang/Object")], some (.object "java/lang/StringBuilder")⟩ := by decide +kernel
theorem d29_31 : DK cB29 31 (.ldc 37) 2 := by decide +kernel
theorem d29_33 : DK cB29 33 (.invokevirtual 28) 3 := by decide +kernel
theorem d29_36 : DK cB29 36 (.invokevirtual 39) 3 := by decide +kernel
theorem d57_0 : DK cB57 0 (.new 18) 3 := by decide +kernel
theorem d57_3 : DK cB57 3 (.dup) 1 := by decide +kernel
theorem d57_4 : DK cB57 4 (.aload_n 0) 1 := by decide +kernel
theorem d57_5 : DK cB57 5 (.invokespecial 137) 3 := by decide +kernel
theorem d58_0 : DK cB58 0 (.aload_n 0) 1 := by decide +kernel
theorem d58_1 : DK cB58 1 (.aload_n 1) 1 := by decide +kernel
theorem d58_2 : DK cB58 2 (.aconst_null) 1 := by decide +kernel
theorem d58_3 : DK cB58 3 (.invokespecial 489) 3 := by decide +kernel
theorem d59_0 : DK cB59 0 (.aload_n 0) 1 := by decide +kernel
theorem d59_1 : DK cB59 1 (.invokespecial 1) 3 := by decide +kernel
theorem d59_4 : DK cB59 4 (.aload_n 1) 1 := by decide +kernel
theorem d59_5 : DK cB59 5 (.invokevirtual 552) 3 := by decide +kernel
theorem d60_0 : DK cB60 0 (.aload_n 0) 1 := by decide +kernel
theorem d60_1 : DK cB60 1 (.getfield 15) 3 := by decide +kernel
theorem d60_4 : DK cB60 4 (.areturn) 1 := by decide +kernel
def Q60_1 (Z : State) (r1 : Addr) (h0 : Heap) (n0 : Nat) (v : Option Value) (h : Heap) (L : List Loc) : Prop := v = some (.ref r1) ∧ Fr n0 L ∧ h = h0
theorem rm60_1 (l : Launch) (Z : State) (a0 : Array Value) (hw : own_HW a0 Z) (ws : List Jvm.Cond) (r0 r1 : Addr) (h0 : Heap) (n0 : Nat) (O0 : Old Z n0 h0) (f1 : Fld Z h0 r0 cs22 "value" "[B" (.ref r1)) :
    own_MF l mN37 jdk_68_method_64_code 1 (some (.array .byte)) ws rR0_0_0_0 Z h0 #[(.ref r0)] (Q60_1 Z r1 h0 n0) := by
  refine own_open (plainFor_of_name pn_java_lang_AbstractStringBuilder) (L0 := #[lR r0]) (fun _ => by first | (simp [entryFrame, mkF, argsToLocals, Value.category]; done) | rfl) ?_
  intro p e s m below meth c s₁ hx hby hml hret hnn hZ hown X0 e0
  have N0 := Fr.nil n0
  obtain ⟨T2, X2, e2, st2⟩ := getF X0 hx hZ hown (host := "") (Or.inl (ww hw 206 rfl)) Via.refl e0 f1 (g := (mkF m 1 #[lR r0] [(.ref r0)])) rfl rfl (hb hby d60_1)
  refine ⟨some (.ref r1), _, _, _, _, nofun, X2, by decide, by decide, ?_, fun fs hr => ?_⟩
  · rw [e2]; exact ⟨rfl, N0, rfl⟩
  · show SG p e below s₁ (mkF m 0 #[lR r0] []) _
    refine qaN X0 hx hby d60_0 ?_
    refine st2 _ ?_
    exact retOut X2 hx (i := .areturn) hret rfl (Or.inr (Or.inr (Or.inr (Or.inr ⟨rfl, rfl, rfl⟩)))) (hb hby d60_4) hr
theorem pd____B : parseMethodDescriptor "()[B" = some ⟨[], some (.array .byte)⟩ := by decide +kernel
theorem d59_8 : DK cB59 8 (.astore_n 3) 1 := by decide +kernel
theorem d59_9 : DK cB59 9 (.aload_n 1) 1 := by decide +kernel
theorem d59_10 : DK cB59 10 (.invokevirtual 549) 3 := by decide +kernel
theorem d61_0 : DK cB61 0 (.aload_n 0) 1 := by decide +kernel
theorem d61_1 : DK cB61 1 (.invokespecial 343) 3 := by decide +kernel
theorem d62_0 : DK cB62 0 (.aload_n 0) 1 := by decide +kernel
theorem d62_1 : DK cB62 1 (.getfield 79) 3 := by decide +kernel
theorem d62_4 : DK cB62 4 (.ireturn) 1 := by decide +kernel
def Q62_1 (Z : State) (x1 : Int32) (h0 : Heap) (n0 : Nat) (v : Option Value) (h : Heap) (L : List Loc) : Prop := v = some (.int x1) ∧ Fr n0 L ∧ h = h0
theorem rm62_1 (l : Launch) (Z : State) (a0 : Array Value) (hw : own_HW a0 Z) (ws : List Jvm.Cond) (r0 : Addr) (x1 : Int32) (h0 : Heap) (n0 : Nat) (O0 : Old Z n0 h0) (f1 : Fld Z h0 r0 cs22 "count" "I" (.int x1)) :
    own_MF l mN38 jdk_68_method_6_code 1 (some .int) ws rR0_0_0_0 Z h0 #[(.ref r0)] (Q62_1 Z x1 h0 n0) := by
  refine own_open (plainFor_of_name pn_java_lang_AbstractStringBuilder) (L0 := #[lR r0]) (fun _ => by first | (simp [entryFrame, mkF, argsToLocals, Value.category]; done) | rfl) ?_
  intro p e s m below meth c s₁ hx hby hml hret hnn hZ hown X0 e0
  have N0 := Fr.nil n0
  obtain ⟨T2, X2, e2, st2⟩ := getF X0 hx hZ hown (host := "") (Or.inl (ww hw 233 rfl)) Via.refl e0 f1 (g := (mkF m 1 #[lR r0] [(.ref r0)])) rfl rfl (hb hby d62_1)
  refine ⟨some (.int x1), _, _, _, _, nofun, X2, by decide, by decide, ?_, fun fs hr => ?_⟩
  · rw [e2]; exact ⟨rfl, N0, rfl⟩
  · show SG p e below s₁ (mkF m 0 #[lR r0] []) _
    refine qaN X0 hx hby d62_0 ?_
    refine st2 _ ?_
    exact retOut X2 hx (i := .ireturn) hret rfl (Or.inl ⟨rfl, Or.inl rfl, _, rfl⟩) (hb hby d62_4) hr
theorem d61_4 : DK cB61 4 (.ireturn) 1 := by decide +kernel
def Q61_1 (Z : State) (x1 : Int32) (h0 : Heap) (n0 : Nat) (v : Option Value) (h : Heap) (L : List Loc) : Prop := v = some (.int x1) ∧ Fr n0 L ∧ h = h0
theorem rm61_1 (l : Launch) (Z : State) (a0 : Array Value) (hw : own_HW a0 Z) (ws : List Jvm.Cond) (r0 : Addr) (x1 : Int32) (h0 : Heap) (n0 : Nat) (O0 : Old Z n0 h0) (f1 : Fld Z h0 r0 cs22 "count" "I" (.int x1)) (f3 : Exa Z h0 r0 cs23) :
    own_MF l mN39 jdk_67_method_93_code 1 (some .int) ws rR1_0_0_12 Z h0 #[(.ref r0)] (Q61_1 Z x1 h0 n0) := by
  refine own_open (plainFor_of_name pn_java_lang_StringBuilder) (L0 := #[lR r0]) (fun _ => by first | (simp [entryFrame, mkF, argsToLocals, Value.category]; done) | rfl) ?_
  intro p e s m below meth c s₁ hx hby hml hret hnn hZ hown X0 e0
  have N0 := Fr.nil n0; have w := @ww Z a0 hw
  obtain ⟨_, T2, Lc2, X2, hQ2, st2⟩ := own_fin (superBack X0 hx hZ (y := mN38) hown (w 389 rfl) (own_sameOwn (y := mN38) (w 238 rfl) rfl (w 385 rfl) (by decide)) (w 385 rfl) (w 220 rfl) (by decide) (backOf (W := 0) (rm62_1 l Z a0 hw [] r0 x1 h0 n0 O0 f1) hZ (w 390 rfl) (w 202 rfl) (by decide) (by decide)) e0 (Ins.self f3) (g := (mkF m 1 #[lR r0] [(.ref r0)])) rfl (by rw [hml]; rfl) (w 390 rfl) (argsL := []) (rest := []) (lenOf pd___I rfl) rfl (own_W rfl) (hb hby d61_1) (fun _ _ => ⟨rfl, e0, (by decide : 0 + 0 ≤ _), (by decide : 0 + 0 ≤ _)⟩))
  obtain ⟨rfl, N2q, E2⟩ := hQ2
  have N2 := Fr.app N0 N2q
  refine ⟨some (.int x1), _, _, _, _, nofun, X2, by decide, by decide, ?_, fun fs hr => ?_⟩
  · rw [E2]; exact ⟨rfl, N2, rfl⟩
  · show SG p e below s₁ (mkF m 0 #[lR r0] []) _
    refine qaN X0 hx hby d61_0 ?_
    refine st2.trans ?_
    exact retOut X2 hx (i := .ireturn) hret rfl (Or.inl ⟨rfl, Or.inl rfl, _, rfl⟩) (hb hby d61_4) hr
theorem own_nfSel {s : State} {args : Array Value} {C : String} {y0 y' y : MethodName} (hsel : (Jvm.Cond.selects C y0 y').before args s = true) (hc : y'.cls = y.cls) : NotFace s y := fun r0 h0 => by
  obtain ⟨c2, r2, m2, -, -, q3, -, kP, hkP, hkPi⟩ := Cond.selects_spec hsel
  have f1 := findClass_of_methodNamed h0
  have f2 := findClass_of_methodNamed q3
  rw [hc, f1] at f2
  have e : r0.cls = m2.cls := Option.some.inj f2
  rw [← e] at hkP
  exact ⟨kP, hkP, hkPi⟩
theorem d59_13 : DK cB59 13 (.istore 4) 2 := by decide +kernel
theorem d59_15 : DK cB59 15 (.aload_n 1) 1 := by decide +kernel
theorem d59_16 : DK cB59 16 (.invokevirtual 1047) 3 := by decide +kernel
theorem d52_0 : DK cB52 0 (.getstatic 18) 3 := by decide +kernel
theorem d52_3 : DK cB52 3 (.ifCond .eq 14) 3 := by decide +kernel
theorem d52_6 : DK cB52 6 (.aload_n 0) 1 := by decide +kernel
theorem d52_7 : DK cB52 7 (.getfield 22) 3 := by decide +kernel
theorem d52_10 : DK cB52 10 (.ifCond .ne 7) 3 := by decide +kernel
theorem d52_13 : DK cB52 13 (.iconst 1) 1 := by decide +kernel
theorem d52_14 : DK cB52 14 (.goto 4) 3 := by decide +kernel
theorem d52_18 : DK cB52 18 (.ireturn) 1 := by decide +kernel
def Q52_1 (Z : State)  (h0 : Heap) (n0 : Nat) (v : Option Value) (h : Heap) (L : List Loc) : Prop := v = some vI1 ∧ Fr n0 L ∧ h = h0
theorem rm52_1 (l : Launch) (Z : State) (a0 : Array Value) (hw : own_HW a0 Z) (ws : List Jvm.Cond) (r0 : Addr) (x1 x2 : Int32) (h0 : Heap) (n0 : Nat) (O0 : Old Z n0 h0) (f1 : Sta Z Z.heap cs8 cs9 "Z" (.int x1)) (hc4 : ¬ (x1 = (0 : Int32))) (f5 : Fld Z h0 r0 cs22 "coder" "B" (.int x2)) (hc7 : x2 = (0 : Int32)) :
    own_MF l mN40 jdk_68_method_68_code 1 (some .boolean) ws rR0_0_0_0 Z h0 #[(.ref r0)] (Q52_1 Z  h0 n0) := by
  refine own_open (plainFor_of_name pn_java_lang_AbstractStringBuilder) (L0 := #[lR r0]) (fun _ => by first | (simp [entryFrame, mkF, argsToLocals, Value.category]; done) | rfl) ?_
  intro p e s m below meth c s₁ hx hby hml hret hnn hZ hown X0 e0
  have N0 := Fr.nil n0
  have f2 := f1.ext O0.2
  obtain ⟨T3, X3, e3, st3⟩ := getS2 X0 hx hZ hown (host := "") (Or.inl (ww hw 205 rfl)) Via.refl e0 f2 (g := (mkF m 0 #[lR r0] [])) rfl (hb hby d52_0)
  obtain ⟨T6, X6, e6, st6⟩ := getF X3 hx hZ hown (host := "") (Or.inl (ww hw 208 rfl)) Via.refl e3 f5 (g := (mkF m 7 #[lR r0] [(.ref r0)])) rfl rfl (hb hby d52_7)
  refine ⟨some vI1, _, _, _, _, nofun, X6, by decide, by decide, ?_, fun fs hr => ?_⟩
  · rw [e6]; exact ⟨rfl, N0, rfl⟩
  · show SG p e below s₁ (mkF m 0 #[lR r0] []) _
    refine st3 _ ?_
    refine XS.ifNo X3.here hx rfl (hb hby d52_3) rfl ((if0 _ _).trans (feq hc4).1) ?_
    refine qaN X3 hx hby d52_6 ?_
    refine st6 _ ?_
    refine XS.ifNo X6.here hx rfl (hb hby d52_10) rfl ((if0 _ _).trans (teq hc7).2) ?_
    refine qc X6 hx hby d52_13 ?_
    refine XS.goto X6.here hx rfl (pc0 := 14) (pc' := 18) rfl (hb hby d52_14) (by decide) (by decide) ?_
    exact retN X6 hx (t := .boolean) hret (by simp) (hb hby d52_18) hr
theorem d59_19 : DK cB59 19 (.ifCond .eq 22) 3 := by decide +kernel
theorem d59_22 : DK cB59 22 (.aload_n 0) 1 := by decide +kernel
theorem d59_23 : DK cB59 23 (.iconst 0) 1 := by decide +kernel
theorem d59_24 : DK cB59 24 (.putfield 15) 3 := by decide +kernel
theorem d59_27 : DK cB59 27 (.aload_n 0) 1 := by decide +kernel
theorem d59_28 : DK cB59 28 (.aload_n 3) 1 := by decide +kernel
theorem d59_29 : DK cB59 29 (.iconst 0) 1 := by decide +kernel
theorem d59_30 : DK cB59 30 (.iload 4) 2 := by decide +kernel
theorem d59_32 : DK cB59 32 (.invokestatic 54) 3 := by decide +kernel
theorem d63_0 : DK cB63 0 (.iload_n 1) 1 := by decide +kernel
theorem d63_1 : DK cB63 1 (.ifCond .ne 9) 3 := by decide +kernel
theorem d63_4 : DK cB63 4 (.iload_n 2) 1 := by decide +kernel
theorem d63_5 : DK cB63 5 (.aload_n 0) 1 := by decide +kernel
theorem d63_6 : DK cB63 6 (.arraylength) 1 := by decide +kernel
theorem d63_7 : DK cB63 7 (.if_icmp .eq 10) 3 := by decide +kernel
theorem d63_10 : DK cB63 10 (.aload_n 0) 1 := by decide +kernel
theorem d63_11 : DK cB63 11 (.iload_n 1) 1 := by decide +kernel
theorem d63_12 : DK cB63 12 (.iload_n 2) 1 := by decide +kernel
theorem d63_13 : DK cB63 13 (.invokestatic 339) 3 := by decide +kernel
theorem d64_0 : DK cB64 0 (.iload_n 1) 1 := by decide +kernel
theorem d64_1 : DK cB64 1 (.iload_n 2) 1 := by decide +kernel
theorem d64_2 : DK cB64 2 (.invokestatic 343) 3 := by decide +kernel
theorem d65_0 : DK cB65 0 (.iload_n 1) 1 := by decide +kernel
theorem d65_1 : DK cB65 1 (.iload_n 0) 1 := by decide +kernel
theorem d65_2 : DK cB65 2 (.if_icmp .ge 35) 3 := by decide +kernel
theorem d65_37 : DK cB65 37 (.return_) 1 := by decide +kernel
def Q65_1 (Z : State)  (h0 : Heap) (n0 : Nat) (v : Option Value) (h : Heap) (L : List Loc) : Prop := v = none ∧ Fr n0 L ∧ h = h0
theorem rm65_1 (l : Launch) (Z : State) (a0 : Array Value) (hw : own_HW a0 Z) (ws : List Jvm.Cond) (x0 x1 : Int32) (h0 : Heap) (n0 : Nat) (O0 : Old Z n0 h0) (hc1 : ¬ (x1 < x0)) :
    own_MF l mN41 jdk_65_method_131_code 2 none ws rR0_0_0_0 Z h0 #[(.int x0), (.int x1)] (Q65_1 Z  h0 n0) := by
  refine own_open (plainFor_of_name pn_java_util_Arrays) (L0 := #[lI x0, lI x1]) (fun _ => by first | (simp [entryFrame, mkF, argsToLocals, Value.category]; done) | rfl) ?_
  intro p e s m below meth c s₁ hx hby hml hret hnn hZ hown X0 e0
  have N0 := Fr.nil n0
  refine ⟨none, _, _, _, _, (fun _ => rfl), X0, by decide, by decide, ?_, fun fs hr => ?_⟩
  · rw [e0]; exact ⟨rfl, N0, rfl⟩
  · show SG p e below s₁ (mkF m 0 #[lI x0, lI x1] []) _
    refine qiN X0 hx hby d65_0 ?_
    refine qiN X0 hx hby d65_1 ?_
    refine XS.icmpYes X0.here hx rfl (pc0 := 2) (pc' := 37) rfl (hb hby d65_2) rfl (flt hc1).2.1 (by decide) (by decide) ?_
    exact X0.returnOut hx hret (hb hby d65_37) hr
theorem pd__II_V : parseMethodDescriptor "(II)V" = some ⟨[.int, .int], none⟩ := by decide +kernel
theorem d64_5 : DK cB64 5 (.iload_n 2) 1 := by decide +kernel
theorem d64_6 : DK cB64 6 (.iload_n 1) 1 := by decide +kernel
theorem d64_7 : DK cB64 7 (.isub) 1 := by decide +kernel
theorem d64_8 : DK cB64 8 (.istore_n 3) 1 := by decide +kernel
theorem d64_9 : DK cB64 9 (.iload_n 3) 1 := by decide +kernel
theorem d64_10 : DK cB64 10 (.newarray .byte) 2 := by decide +kernel
theorem d64_12 : DK cB64 12 (.astore 4) 2 := by decide +kernel
theorem d64_14 : DK cB64 14 (.aload_n 0) 1 := by decide +kernel
theorem d64_15 : DK cB64 15 (.iload_n 1) 1 := by decide +kernel
theorem d64_16 : DK cB64 16 (.aload 4) 2 := by decide +kernel
theorem d64_18 : DK cB64 18 (.iconst 0) 1 := by decide +kernel
theorem d64_19 : DK cB64 19 (.aload_n 0) 1 := by decide +kernel
theorem d64_20 : DK cB64 20 (.arraylength) 1 := by decide +kernel
theorem d64_21 : DK cB64 21 (.iload_n 1) 1 := by decide +kernel
theorem d64_22 : DK cB64 22 (.isub) 1 := by decide +kernel
theorem d64_23 : DK cB64 23 (.iload_n 3) 1 := by decide +kernel
theorem d64_24 : DK cB64 24 (.invokestatic 304) 3 := by decide +kernel
theorem d23_9 : DK cB23 9 (.iload_n 1) 1 := by decide +kernel
def Q23_2 (Z : State) (x1 : Int32) (h0 : Heap) (n0 : Nat) (v : Option Value) (h : Heap) (L : List Loc) : Prop := v = some (.int x1) ∧ Fr n0 L ∧ h = h0
theorem rm23_2 (l : Launch) (Z : State) (a0 : Array Value) (hw : own_HW a0 Z) (ws : List Jvm.Cond) (x0 x1 : Int32) (h0 : Heap) (n0 : Nat) (O0 : Old Z n0 h0) (hc1 : x1 < x0) :
    own_MF l mN18 jdk_29_method_69_code 2 (some .int) ws rR0_0_0_0 Z h0 #[(.int x0), (.int x1)] (Q23_2 Z x1 h0 n0) := by
  refine own_open (Jvm.Free.JP.mathPlain rfl (by decide +kernel)) (L0 := #[lI x0, lI x1]) (fun _ => by first | (simp [entryFrame, mkF, argsToLocals, Value.category]; done) | rfl) ?_
  intro p e s m below meth c s₁ hx hby hml hret hnn hZ hown X0 e0
  have N0 := Fr.nil n0
  refine ⟨some (.int x1), _, _, _, _, nofun, X0, by decide, by decide, ?_, fun fs hr => ?_⟩
  · rw [e0]; exact ⟨rfl, N0, rfl⟩
  · show SG p e below s₁ (mkF m 0 #[lI x0, lI x1] []) _
    refine qiN X0 hx hby d23_0 ?_
    refine qiN X0 hx hby d23_1 ?_
    refine XS.icmpYes X0.here hx rfl (pc0 := 2) (pc' := 9) rfl (hb hby d23_2) rfl (tlt hc1).2.2.1 (by decide) (by decide) ?_
    refine qiN X0 hx hby d23_9 ?_
    exact retOut X0 hx (i := .ireturn) hret rfl (Or.inl ⟨rfl, Or.inl rfl, _, rfl⟩) (hb hby d23_10) hr
theorem d64_27 : DK cB64 27 (.invokestatic 150) 3 := by decide +kernel
theorem d64_30 : DK cB64 30 (.aload 4) 2 := by decide +kernel
theorem d64_32 : DK cB64 32 (.areturn) 1 := by decide +kernel
def Q64_1 (Z : State) (x1 : Int32) (t4 : List Value) (h0 : Heap) (n0 : Nat) (v : Option Value) (h : Heap) (L : List Loc) : Prop := ∃ (b5 : Addr) (k5 : ClassId), v = some (.ref b5) ∧ Fr n0 L ∧ Keep h0 h [] ∧ h0.size ≤ b5 ∧ Arv Z h b5 k5 .byte (x1 - (0 : Int32)) t4 vI0 ∧ Exa Z h b5 "[B"
theorem rm64_1 (l : Launch) (Z : State) (a0 : Array Value) (hw : own_HW a0 Z) (ws : List Jvm.Cond) (r0 : Addr) (x1 x2 : Int32) (c3 : ClassId) (t4 : List Value) (h0 : Heap) (n0 : Nat) (O0 : Old Z n0 h0) (hc1 : ¬ (x1 < (0 : Int32))) (hc3 : ¬ ((x1 - (0 : Int32)) < 0)) (hc4 : ((x1 - (0 : Int32))).toNatClampNeg ≤ 64) (f6 : Arv Z h0 r0 c3 .byte x2 t4 vI0) (hc9 : (x1 - (0 : Int32)) < (x2 - (0 : Int32))) (hc12 : ((x1 - (0 : Int32))).toNatClampNeg ≤ (x2).toNatClampNeg) :
    own_MF l mN42 jdk_65_method_133_code 5 (some (.array .byte)) ws rR1_1_64_24 Z h0 #[(.ref r0), vI0, (.int x1)] (Q64_1 Z x1 t4 h0 n0) := by
  refine own_open (plainFor_of_name pn_java_util_Arrays) (L0 := #[lR r0, lV vI0, lI x1, lU, lU]) (fun _ => by first | (simp [entryFrame, mkF, argsToLocals, Value.category]; done) | rfl) ?_
  intro p e s m below meth c s₁ hx hby hml hret hnn hZ hown X0 e0
  have N0 := Fr.nil n0; have w := @ww Z a0 hw
  obtain ⟨_, T2, Lc2, X2, hQ2, st2⟩ := own_cS X0 hx hZ hown e0 (rm65_1 l Z a0 hw [] (0 : Int32) x1 h0 n0 O0 hc1) (w 398 rfl) (w 399 rfl) (w 132 rfl) (w 400 rfl) (by decide) (W := 0) (by decide) (by decide) (by decide) (by decide) (g := (mkF m 2 #[lR r0, lV vI0, lI x1, lU, lU] [(.int x1), vI0])) rfl (by rw [hml]; rfl) (argsL := [vI0, (.int x1)]) (rest := []) (lenOf pd__II_V rfl) rfl (own_W rfl) (hb hby d64_2)
  obtain ⟨rfl, N2q, E2⟩ := hQ2
  have N2 := Fr.app N0 N2q
  obtain ⟨T5, h5, k5, X5, e5, E5, A5, B5, st5⟩ := newPE X2 hx hZ (w 20 rfl) E2 (g := (mkF m 10 #[lR r0, lV vI0, lI x1, .val (.int (x1 - (0 : Int32))), lU] [(.int (x1 - (0 : Int32)))])) rfl (hb hby d64_10) rfl hc3 (cap := 64) hc4 (by decide) (by decide) (by decide) (ad := "[B") rfl
  obtain ⟨b5, g5⟩ : ∃ z, z = h0.size := ⟨_, rfl⟩
  rw [← g5] at A5 B5 st5
  have V5 : Arv Z h5 b5 k5 .byte (x1 - (0 : Int32)) [] vI0 := Arv.new A5 hc3
  have f7 := (f6.ext E5)
  obtain ⟨clq8, Arq8, qq8, Sq8, Nq8, Hq8, Gq8⟩ := id f7
  have o10 := Old.ext O0 E5
  obtain ⟨_, T11, Lc11, X11, hQ11, st11⟩ := own_cS X5 hx hZ hown e5 (rm23_2 l Z a0 hw [] (x2 - (0 : Int32)) (x1 - (0 : Int32)) h5 n0 o10 hc9) (w 145 rfl) (w 146 rfl) (w 81 rfl) (w 147 rfl) (by decide) (W := 4) (by decide) (by decide) (by decide) (by decide) (g := (mkF m 24 #[lR r0, lV vI0, lI x1, .val (.int (x1 - (0 : Int32))), lR b5] [(.int (x1 - (0 : Int32))), (.int (x2 - (0 : Int32))), vI0, (.ref b5), vI0, (.ref r0)])) rfl (by rw [hml]; rfl) (argsL := [(.int (x2 - (0 : Int32))), (.int (x1 - (0 : Int32)))]) (rest := [vI0, (.ref b5), vI0, (.ref r0)]) (lenOf pd__II_I rfl) rfl (own_W rfl) (hb hby d64_24)
  obtain ⟨rfl, N11q, E11⟩ := hQ11
  have N11 := Fr.app N2 N11q
  have zz13 : n0 ≤ h0.size := by rw [← O0.1]; exact O0.2.1
  have g14 := Nat.le_trans zz13 (Nat.le_of_eq g5.symm)
  obtain ⟨T15, h15, L15, X15, e15, N15, K15, B15, st15⟩ := cpA X11 hx hZ hown (w 148 rfl) (w 151 rfl) (w 149 rfl) (w 150 rfl) E11 f7 (own_padZ V5 ((x1 - (0 : Int32))).toNatClampNeg) (Or.inl ⟨rfl, rfl⟩) (by decide) (by decide) hc3 (by rw [show (0 : Int32).toNatClampNeg = 0 from rfl, Nat.zero_add]; exact hc12) (by rw [show (0 : Int32).toNatClampNeg = 0 from rfl, Nat.zero_add]; exact Nat.le_of_eq rfl) rfl (by rw [show (0 : Int32).toNatClampNeg = 0 from rfl, Nat.zero_add, List.length_replicate]; exact Nat.le_refl _) N11 g14 (g := (mkF m 27 #[lR r0, lV vI0, lI x1, .val (.int (x1 - (0 : Int32))), lR b5] [(.int (x1 - (0 : Int32))), vI0, (.ref b5), vI0, (.ref r0)])) rfl (by rw [hml]; rfl) rfl (hb hby d64_27) (by decide) (W := 0) (own_W rfl) (by decide)
  have V15 : Arv Z h15 b5 k5 .byte (x1 - (0 : Int32)) t4 vI0 := own_cpAll rfl B15
  have f16 := (B5.keep K15)
  have kp17 : Keep h0 h5 [] := (Keep.refl h0 []).ext E5
  have kp18 : Keep h0 h15 [] := kp17.trans K15 (allS (Or.inr (Nat.le_of_eq g5.symm)) all0)
  refine ⟨some (.ref b5), _, _, _, _, nofun, X15, by decide, by decide, ?_, fun fs hr => ?_⟩
  · rw [e15]; exact ⟨b5, k5, rfl, N15, kp18, (Nat.le_of_eq g5.symm), V15, f16⟩
  · show SG p e below s₁ (mkF m 0 #[lR r0, lV vI0, lI x1, lU, lU] []) _
    refine qiN X0 hx hby d64_0 ?_
    refine qiN X0 hx hby d64_1 ?_
    refine st2 _ ?_
    refine qiN X2 hx hby d64_5 ?_
    refine qiN X2 hx hby d64_6 ?_
    refine XS.isub X2.here hx rfl (hb hby d64_7) rfl ?_
    refine XS.istoreN X2.here hx rfl (hb hby d64_8) rfl (l' := #[lR r0, lV vI0, lI x1, .val (.int (x1 - (0 : Int32))), lU]) rfl ?_
    refine qiN X2 hx hby d64_9 ?_
    refine st5 _ ?_
    refine XS.astore X5.here hx rfl (hb hby d64_12) rfl rfl (l' := #[lR r0, lV vI0, lI x1, .val (.int (x1 - (0 : Int32))), lR b5]) rfl ?_
    refine qaN X5 hx hby d64_14 ?_
    refine qiN X5 hx hby d64_15 ?_
    refine qa X5 hx hby d64_16 ?_
    refine qc X5 hx hby d64_18 ?_
    refine qaN X5 hx hby d64_19 ?_
    refine X5.arraylength hx (by rw [e5]; exact Arq8.1) (State.isArrayOf_alike hZ.alike Arq8.2.1) (g := (mkF m 20 #[lR r0, lV vI0, lI x1, .val (.int (x1 - (0 : Int32))), lR b5] [(.ref r0), vI0, (.ref b5), vI0, (.ref r0)])) rfl rfl (hb hby d64_20) _ ?_
    rw [len_of Sq8 Nq8]
    refine qiN X5 hx hby d64_21 ?_
    refine XS.isub X5.here hx rfl (hb hby d64_22) rfl ?_
    refine qiN X5 hx hby d64_23 ?_
    refine st11 _ ?_
    refine st15 _ ?_
    refine qa X15 hx hby d64_30 ?_
    exact retOut X15 hx (i := .areturn) hret rfl (Or.inr (Or.inr (Or.inr (Or.inr ⟨rfl, rfl, rfl⟩)))) (hb hby d64_32) hr
theorem pd___BII__B : parseMethodDescriptor "([BII)[B" = some ⟨[(.array .byte), .int, .int], some (.array .byte)⟩ := by decide +kernel
theorem d63_16 : DK cB63 16 (.areturn) 1 := by decide +kernel
def Q63_1 (Z : State) (x1 : Int32) (t4 : List Value) (h0 : Heap) (n0 : Nat) (v : Option Value) (h : Heap) (L : List Loc) : Prop := ∃ (b9_0 : Addr) (k9_0 : ClassId), v = some (.ref b9_0) ∧ Fr n0 L ∧ Keep h0 h [] ∧ h0.size ≤ b9_0 ∧ Arv Z h b9_0 k9_0 .byte (x1 - (0 : Int32)) t4 vI0 ∧ Exa Z h b9_0 "[B"
theorem rm63_1 (l : Launch) (Z : State) (a0 : Array Value) (hw : own_HW a0 Z) (ws : List Jvm.Cond) (r0 : Addr) (x1 x2 : Int32) (c3 : ClassId) (t4 : List Value) (h0 : Heap) (n0 : Nat) (O0 : Old Z n0 h0) (f1 : Arv Z h0 r0 c3 .byte x2 t4 vI0) (hc3 : ¬ (x1 = x2)) (hc4 : ¬ (x1 < (0 : Int32))) (hc5 : ¬ ((x1 - (0 : Int32)) < 0)) (hc6 : ((x1 - (0 : Int32))).toNatClampNeg ≤ 64) (hc7 : (x1 - (0 : Int32)) < (x2 - (0 : Int32))) (hc8 : ((x1 - (0 : Int32))).toNatClampNeg ≤ (x2).toNatClampNeg) :
    own_MF l mN43 jdk_65_method_132_code 3 (some (.array .byte)) ws rR2_1_64_40 Z h0 #[(.ref r0), vI0, (.int x1)] (Q63_1 Z x1 t4 h0 n0) := by
  refine own_open (plainFor_of_name pn_java_util_Arrays) (L0 := #[lR r0, lV vI0, lI x1]) (fun _ => by first | (simp [entryFrame, mkF, argsToLocals, Value.category]; done) | rfl) ?_
  intro p e s m below meth c s₁ hx hby hml hret hnn hZ hown X0 e0
  have N0 := Fr.nil n0
  obtain ⟨clq2, Arq2, qq2, Sq2, Nq2, Hq2, Gq2⟩ := id f1
  obtain ⟨_, T9, Lc9, X9, hQ9, st9⟩ := own_cS X0 hx hZ hown e0 (rm64_1 l Z a0 hw [] r0 x1 x2 c3 t4 h0 n0 O0 hc4 hc5 hc6 f1 hc7 hc8) (ww hw 395 rfl) (ww hw 396 rfl) (ww hw 132 rfl) (ww hw 397 rfl) (by decide) (W := 0) (by decide) (by decide) (by decide) (by decide) (g := (mkF m 13 #[lR r0, lV vI0, lI x1] [(.int x1), vI0, (.ref r0)])) rfl (by rw [hml]; rfl) (argsL := [(.ref r0), vI0, (.int x1)]) (rest := []) (lenOf pd___BII__B rfl) rfl (own_W rfl) (hb hby d63_13)
  obtain ⟨b9_0, k9_0, rfl, N9q, K9, f10, f11, f12⟩ := hQ9
  have N9 := Fr.app N0 N9q
  have kp13 : Keep h0 T9.heap [] := (Keep.refl h0 []).trans K9 all0
  refine ⟨some (.ref b9_0), _, _, _, _, nofun, X9, by decide, by decide, ?_, fun fs hr => ?_⟩
  · exact ⟨b9_0, k9_0, rfl, N9, kp13, f10, f11, f12⟩
  · show SG p e below s₁ (mkF m 0 #[lR r0, lV vI0, lI x1] []) _
    refine qiN X0 hx hby d63_0 ?_
    refine XS.ifNo X0.here hx rfl (hb hby d63_1) rfl ((if0 _ _).trans (teq (rfl : (0 : Int32) = (0 : Int32))).2) ?_
    refine qiN X0 hx hby d63_4 ?_
    refine qaN X0 hx hby d63_5 ?_
    refine X0.arraylength hx (by rw [e0]; exact Arq2.1) (State.isArrayOf_alike hZ.alike Arq2.2.1) (g := (mkF m 6 #[lR r0, lV vI0, lI x1] [(.ref r0), (.int x1)])) rfl rfl (hb hby d63_6) _ ?_
    rw [len_of Sq2 Nq2]
    refine XS.icmpNo X0.here hx rfl (hb hby d63_7) rfl (feq hc3).1 ?_
    refine qaN X0 hx hby d63_10 ?_
    refine qiN X0 hx hby d63_11 ?_
    refine qiN X0 hx hby d63_12 ?_
    refine st9 _ ?_
    exact retOut X9 hx (i := .areturn) hret rfl (Or.inr (Or.inr (Or.inr (Or.inr ⟨rfl, rfl, rfl⟩)))) (hb hby d63_16) hr
theorem d59_35 : DK cB59 35 (.putfield 9) 3 := by decide +kernel
theorem d59_38 : DK cB59 38 (.goto 59) 3 := by decide +kernel
theorem d59_97 : DK cB59 97 (.return_) 1 := by decide +kernel
def Q59_1 (Z : State) (r0 : Addr) (x3 : Int32) (t9 : List Value) (h0 : Heap) (n0 : Nat) (v : Option Value) (h : Heap) (L : List Loc) : Prop := ∃ (b27_0 : Addr) (k27_0 : ClassId), v = none ∧ Fr n0 L ∧ Keep h0 h [r0] ∧ Fld Z h r0 cs8 "coder" "B" vI0 ∧ Fld Z h r0 cs8 "value" "[B" (.ref b27_0) ∧ h0.size ≤ b27_0 ∧ Arv Z h b27_0 k27_0 .byte (x3 - (0 : Int32)) t9 vI0 ∧ Exa Z h b27_0 "[B"
theorem rm59_1 (l : Launch) (Z : State) (a0 : Array Value) (hw : own_HW a0 Z) (ws : List Jvm.Cond) (r0 r1 r2 : Addr) (x3 x4 : Int32) (x5 x6 x7 : Int32) (c8 : ClassId) (t9 : List Value) (h0 : Heap) (n0 : Nat) (O0 : Old Z n0 h0) (f2 : Exa Z h0 r1 cs23) (f3 : Fld Z h0 r1 cs22 "value" "[B" (.ref r2)) (f5 : Fld Z h0 r1 cs22 "count" "I" (.int x3)) (f8 : Sta Z Z.heap cs8 cs9 "Z" (.int x4)) (hc9 : ¬ (x4 = (0 : Int32))) (f10 : Fld Z h0 r1 cs22 "coder" "B" (.int x5)) (hc11 : x5 = (0 : Int32)) (f13 : Exa Z h0 r0 cs8) (f14 : Fld Z h0 r0 cs8 "coder" "B" (.int x6)) (g15 : n0 ≤ r0) (f17 : Arv Z h0 r2 c8 .byte x7 t9 vI0) (n18 : r2 ≠ r0) (hc20 : ¬ (x3 = x7)) (hc21 : ¬ (x3 < (0 : Int32))) (hc22 : ¬ ((x3 - (0 : Int32)) < 0)) (hc23 : ((x3 - (0 : Int32))).toNatClampNeg ≤ 64) (hc24 : (x3 - (0 : Int32)) < (x7 - (0 : Int32))) (hc25 : ((x3 - (0 : Int32))).toNatClampNeg ≤ (x7).toNatClampNeg) (f32 : Fld Z h0 r0 cs8 "value" "[B" .null) (l37 : r0 < h0.size) :
    own_MF l mN44 jdk_42_method_150_code 5 none ws rR3_1_64_55 Z h0 #[(.ref r0), (.ref r1), .null] (Q59_1 Z r0 x3 t9 h0 n0) := by
  refine own_open (plainFor_of_name pn_java_lang_String) (L0 := #[lR r0, lR r1, .val .null, lU, lU]) (fun _ => by first | (simp [entryFrame, mkF, argsToLocals, Value.category]; done) | rfl) ?_
  intro p e s m below meth c s₁ hx hby hml hret hnn hZ hown X0 e0
  have N0 := Fr.nil n0; have w := @ww Z a0 hw
  have hnm := (name_of_methodNamed hnn.1 hnn.2).1
  obtain ⟨T1, X1, e1, st1⟩ := initO X0 hx hZ hown (w 12 rfl) (w 13 rfl) (w 14 rfl) e0 (g := (mkF m 1 #[lR r0, lR r1, .val .null, lU, lU] [(.ref r0)])) rfl (by rw [hml]; rfl) rfl (hb hby d59_1) (by decide) (W := 0) (own_W rfl) (by decide)
  obtain ⟨_, T4, Lc4, X4, hQ4, st4⟩ := own_cV X1 hx hZ hown e1 (rm60_1 l Z a0 hw [] r1 r2 h0 n0 O0 f3) f2 (w 378 rfl) (w 379 rfl) (w 381 rfl) (w 380 rfl) (w 382 rfl) (w 202 rfl) (by decide) (W := 0) (by decide) (by decide) (by decide) (by decide) (g := (mkF m 5 #[lR r0, lR r1, .val .null, lU, lU] [(.ref r1)])) rfl (by rw [hml]; rfl) (argsL := []) (rest := []) (lenOf pd____B rfl) rfl (own_W rfl) (hb hby d59_5)
  obtain ⟨rfl, N4q, E4⟩ := hQ4
  have N4 := Fr.app N0 N4q
  obtain ⟨cqq7, kqq7, qq7a, qq7b, qq7c⟩ := isOf hZ E4 f2
  obtain ⟨_, T6, Lc6, X6, hQ6, st6⟩ := own_fin (X4.virtualBack hx (y := mN38) (z := mN39) hown (mvT hZ (w 383 rfl)) (mvT hZ (w 384 rfl)) (own_nfSel (args := #[]) (mvT hZ (w 238 rfl)) rfl) (mvT hZ (w 386 rfl)) (mvT hZ (w 387 rfl)) (by decide) (backOf (W := 0) (rm61_1 l Z a0 hw [] r1 x3 h0 n0 O0 f5 f2) hZ (w 388 rfl) (w 194 rfl) (by decide) (by decide)) qq7a qq7c (g := (mkF m 10 #[lR r0, lR r1, .val .null, lR r2, lU] [(.ref r1)])) rfl (by rw [hml]; rfl) (Steps.refl _) (argsL := []) (rest := []) (lenOf pd___I rfl) rfl (own_W rfl) (hb hby d59_10) (fun _ _ => ⟨rfl, E4, (by decide : 0 + 0 ≤ _), (by decide : 0 + 0 ≤ _)⟩))
  obtain ⟨rfl, N6q, E6⟩ := hQ6
  have N6 := Fr.app N4 N6q
  obtain ⟨_, T12, Lc12, X12, hQ12, st12⟩ := own_cV X6 hx hZ hown E6 (rm52_1 l Z a0 hw [] r1 x4 x5 h0 n0 O0 f8 hc9 f10 hc11) f2 (w 391 rfl) (w 336 rfl) (w 338 rfl) (w 337 rfl) (w 339 rfl) (w 202 rfl) (by decide) (W := 0) (by decide) (by decide) (by decide) (by decide) (g := (mkF m 16 #[lR r0, lR r1, .val .null, lR r2, lI x3] [(.ref r1)])) rfl (by rw [hml]; rfl) (argsL := []) (rest := []) (lenOf pd___Z rfl) rfl (own_W rfl) (hb hby d59_16)
  obtain ⟨rfl, N12q, E12⟩ := hQ12
  have N12 := Fr.app N6 N12q
  obtain ⟨T16, h16, X16, e16, W16, st16⟩ := putFN X12 hx hZ hown (w 27 rfl) Via.refl E12 f14 f13 (Or.inr ⟨(w 28 rfl), rfl, hnm⟩) (w 2 rfl) (ty := .byte) (v' := vI0) (by decide) rfl (by decide) (g := (mkF m 24 #[lR r0, lR r1, .val .null, lR r2, lI x3] [vI0, (.ref r0)])) rfl rfl (hb hby d59_24)
  have Fw16 := f14.same W16
  have N16 := Fr.snoc X16 N12 g15
  have f19 := (f17.other W16 n18)
  have o26 := Old.wr O0 W16 g15
  obtain ⟨_, T27, Lc27, X27, hQ27, st27⟩ := own_cS X16 hx hZ hown e16 (rm63_1 l Z a0 hw [] r2 x3 x7 c8 t9 h16 n0 o26 f19 hc20 hc21 hc22 hc23 hc24 hc25) (w 392 rfl) (w 393 rfl) (w 132 rfl) (w 394 rfl) (by decide) (W := 1) (by decide) (by decide) (by decide) (by decide) (g := (mkF m 32 #[lR r0, lR r1, .val .null, lR r2, lI x3] [(.int x3), vI0, (.ref r2), (.ref r0)])) rfl (by rw [hml]; rfl) (argsL := [(.ref r2), vI0, (.int x3)]) (rest := [(.ref r0)]) (lenOf pd___BII__B rfl) rfl (own_W rfl) (hb hby d59_32)
  obtain ⟨b27_0, k27_0, rfl, N27q, K27, f28, f29, f30⟩ := hQ27
  have N27 := Fr.app N16 N27q
  have f31 := ((f13.wr W16).keep K27)
  have f33 := ((f32.other W16 (Or.inr (slot_ne (Or.inr (w 30 rfl)) (Or.inr (w 28 rfl)) (by decide) (t := (.array .byte)) (t' := .byte) (by decide) (by decide)))).keep K27 nin0)
  obtain ⟨T34, h34, X34, e34, W34, st34⟩ := putF X27 hx hZ hown (host := "") (Or.inl (w 29 rfl)) Via.refl rfl f33 f31 (Or.inr ⟨(w 30 rfl), rfl, hnm⟩) (w 2 rfl) (ty := (.array .byte)) (by decide) rfl rfl (g := (mkF m 35 #[lR r0, lR r1, .val .null, lR r2, lI x3] [(.ref b27_0), (.ref r0)])) rfl rfl (hb hby d59_35)
  have Fw34 := f33.same W34
  have N34 := Fr.snoc X34 N27 g15
  have f35 := ((Fw16.keep K27 nin0).other W34 (Or.inr (slot_ne (Or.inr (w 28 rfl)) (Or.inr (w 30 rfl)) (by decide) (t := .byte) (t' := (.array .byte)) (by decide) (by decide))))
  have zs36 := (Nat.le_of_eq W16.size.symm)
  have n38 := Nat.ne_of_lt (Nat.lt_of_lt_of_le (Nat.lt_of_lt_of_le l37 zs36) f28)
  have f39 := (f29.other W34 (Ne.symm n38))
  have f40 := (f30.wr W34)
  have kp41 : Keep h0 h16 [r0] := (Keep.refl h0 [r0]).wr W16 (Or.inl (List.mem_of_getElem? (i := 0) rfl))
  have kp42 : Keep h0 T27.heap [r0] := kp41.trans K27 all0
  have kp43 : Keep h0 h34 [r0] := kp42.wr W34 (Or.inl (List.mem_of_getElem? (i := 0) rfl))
  refine ⟨none, _, _, _, _, (fun _ => rfl), X34, by decide, by decide, ?_, fun fs hr => ?_⟩
  · rw [e34]; exact ⟨b27_0, k27_0, rfl, N34, kp43, f35, Fw34, (Nat.le_trans zs36 f28), f39, f40⟩
  · show SG p e below s₁ (mkF m 0 #[lR r0, lR r1, .val .null, lU, lU] []) _
    refine qaN X0 hx hby d59_0 ?_
    refine st1 _ ?_
    refine qaN X1 hx hby d59_4 ?_
    refine st4 _ ?_
    refine XS.astoreN X4.here hx rfl (hb hby d59_8) rfl rfl (l' := #[lR r0, lR r1, .val .null, lR r2, lU]) rfl ?_
    refine qaN X4 hx hby d59_9 ?_
    refine st6.trans ?_
    refine XS.istore X6.here hx rfl (hb hby d59_13) rfl (l' := #[lR r0, lR r1, .val .null, lR r2, lI x3]) rfl ?_
    refine qaN X6 hx hby d59_15 ?_
    refine st12 _ ?_
    refine XS.ifNo X12.here hx rfl (hb hby d59_19) rfl ((if0 _ _).trans (feq (by decide : ¬ ((1 : Int32) = (0 : Int32)))).1) ?_
    refine qaN X12 hx hby d59_22 ?_
    refine qc X12 hx hby d59_23 ?_
    refine st16 _ ?_
    refine qaN X16 hx hby d59_27 ?_
    refine qaN X16 hx hby d59_28 ?_
    refine qc X16 hx hby d59_29 ?_
    refine qi X16 hx hby d59_30 ?_
    refine st27 _ ?_
    refine st34 _ ?_
    refine XS.goto X34.here hx rfl (pc0 := 38) (pc' := 97) rfl (hb hby d59_38) (by decide) (by decide) ?_
    exact X34.returnOut hx hret (hb hby d59_97) hr
theorem pd__Ljava_lang_AbstractStringBuilder_Ljava_lang_Void__V : parseMethodDescriptor "(Ljava/lang/AbstractStringBuilder;Ljava/lang/Void;)V" = some ⟨[(.object "java/lang/AbstractStringBuilder"), (.object "java/lang/Void")], none⟩ := by decide +kernel
theorem d58_6 : DK cB58 6 (.return_) 1 := by decide +kernel
def Q58_1 (Z : State) (r0 : Addr) (x3 : Int32) (t9 : List Value) (h0 : Heap) (n0 : Nat) (v : Option Value) (h : Heap) (L : List Loc) : Prop := ∃ (b21_0 : Addr) (k21_0 : ClassId), v = none ∧ Fr n0 L ∧ Keep h0 h [r0] ∧ Fld Z h r0 cs8 "coder" "B" vI0 ∧ Fld Z h r0 cs8 "value" "[B" (.ref b21_0) ∧ h0.size ≤ b21_0 ∧ Arv Z h b21_0 k21_0 .byte (x3 - (0 : Int32)) t9 vI0 ∧ Exa Z h b21_0 "[B"
theorem rm58_1 (l : Launch) (Z : State) (a0 : Array Value) (hw : own_HW a0 Z) (ws : List Jvm.Cond) (r0 r1 r2 : Addr) (x3 x4 : Int32) (x5 x6 x7 : Int32) (c8 : ClassId) (t9 : List Value) (h0 : Heap) (n0 : Nat) (O0 : Old Z n0 h0) (f1 : Exa Z h0 r1 cs23) (f2 : Fld Z h0 r1 cs22 "value" "[B" (.ref r2)) (f3 : Fld Z h0 r1 cs22 "count" "I" (.int x3)) (f4 : Sta Z Z.heap cs8 cs9 "Z" (.int x4)) (hc5 : ¬ (x4 = (0 : Int32))) (f6 : Fld Z h0 r1 cs22 "coder" "B" (.int x5)) (hc7 : x5 = (0 : Int32)) (f8 : Exa Z h0 r0 cs8) (f9 : Fld Z h0 r0 cs8 "coder" "B" (.int x6)) (g10 : n0 ≤ r0) (f11 : Arv Z h0 r2 c8 .byte x7 t9 vI0) (n12 : r2 ≠ r0) (hc13 : ¬ (x3 = x7)) (hc14 : ¬ (x3 < (0 : Int32))) (hc15 : ¬ ((x3 - (0 : Int32)) < 0)) (hc16 : ((x3 - (0 : Int32))).toNatClampNeg ≤ 64) (hc17 : (x3 - (0 : Int32)) < (x7 - (0 : Int32))) (hc18 : ((x3 - (0 : Int32))).toNatClampNeg ≤ (x7).toNatClampNeg) (f19 : Fld Z h0 r0 cs8 "value" "[B" .null) (l20 : r0 < h0.size) :
    own_MF l mN45 jdk_42_method_53_code 2 none ws rR4_1_64_71 Z h0 #[(.ref r0), (.ref r1)] (Q58_1 Z r0 x3 t9 h0 n0) := by
  refine own_open (plainFor_of_name pn_java_lang_String) (L0 := #[lR r0, lR r1]) (fun _ => by first | (simp [entryFrame, mkF, argsToLocals, Value.category]; done) | rfl) ?_
  intro p e s m below meth c s₁ hx hby hml hret hnn hZ hown X0 e0
  have N0 := Fr.nil n0; have w := @ww Z a0 hw
  obtain ⟨_, T21, Lc21, X21, hQ21, st21⟩ := own_fin (X0.specialBack hx (y := mN44) rfl hown (mvT hZ (w 375 rfl)) (mvT hZ (w 376 rfl)) (mvT hZ (w 377 rfl)) (by decide) (backOf (W := 0) (rm59_1 l Z a0 hw [] r0 r1 r2 x3 x4 x5 x6 x7 c8 t9 h0 n0 O0 f1 f2 f3 f4 hc5 f6 hc7 f8 f9 g10 f11 n12 hc13 hc14 hc15 hc16 hc17 hc18 f19 l20) hZ (w 377 rfl) (w 3 rfl) (by decide) (by decide)) (g := (mkF m 3 #[lR r0, lR r1] [.null, (.ref r1), (.ref r0)])) rfl (by rw [hml]; rfl) (Steps.refl _) (a := r0) (argsL := [(.ref r1), .null]) (rest := []) (lenOf pd__Ljava_lang_AbstractStringBuilder_Ljava_lang_Void__V rfl) rfl (own_W rfl) (hb hby d58_3) (fun _ _ => ⟨rfl, e0, (by decide : 0 + 1 ≤ _), (by decide : 0 + 64 ≤ _)⟩))
  obtain ⟨b21_0, k21_0, rfl, N21q, K21, f22, f23, f24, f25, f26⟩ := hQ21
  have N21 := Fr.app N0 N21q
  have kp27 : Keep h0 T21.heap [r0] := (Keep.refl h0 [r0]).trans K21 (allS (Or.inl (List.mem_of_getElem? (i := 0) rfl)) all0)
  refine ⟨none, _, _, _, _, (fun _ => rfl), X21, by decide, by decide, ?_, fun fs hr => ?_⟩
  · exact ⟨b21_0, k21_0, rfl, N21, kp27, f22, f23, f24, f25, f26⟩
  · show SG p e below s₁ (mkF m 0 #[lR r0, lR r1] []) _
    refine qaN X0 hx hby d58_0 ?_
    refine qaN X0 hx hby d58_1 ?_
    refine XS.aconstNull X0.here hx rfl (hb hby d58_2) ?_
    refine st21.trans ?_
    exact X21.returnOut hx hret (hb hby d58_6) hr
theorem pd__Ljava_lang_StringBuilder__V : parseMethodDescriptor "(Ljava/lang/StringBuilder;)V" = some ⟨[(.object "java/lang/StringBuilder")], none⟩ := by decide +kernel
theorem d57_8 : DK cB57 8 (.areturn) 1 := by decide +kernel
def Q57_1 (Z : State) (x2 : Int32) (t7 : List Value) (h0 : Heap) (n0 : Nat) (v : Option Value) (h : Heap) (L : List Loc) : Prop := ∃ (b1 b28_0 : Addr) (k28_0 : ClassId), v = some (.ref b1) ∧ Fr n0 L ∧ Keep h0 h [] ∧ h0.size ≤ b1 ∧ Exa Z h b1 cs8 ∧ Fld Z h b1 cs8 "coder" "B" vI0 ∧ Fld Z h b1 cs8 "value" "[B" (.ref b28_0) ∧ h0.size ≤ b28_0 ∧ Arv Z h b28_0 k28_0 .byte (x2 - (0 : Int32)) t7 vI0 ∧ Exa Z h b28_0 "[B" ∧ b1 ≠ b28_0
theorem rm57_1 (l : Launch) (Z : State) (a0 : Array Value) (hw : own_HW a0 Z) (ws : List Jvm.Cond) (r0 r1 : Addr) (x2 x3 : Int32) (x4 x5 : Int32) (c6 : ClassId) (t7 : List Value) (h0 : Heap) (n0 : Nat) (O0 : Old Z n0 h0) (f4 : Exa Z h0 r0 cs23) (f6 : Fld Z h0 r0 cs22 "value" "[B" (.ref r1)) (f8 : Fld Z h0 r0 cs22 "count" "I" (.int x2)) (f10 : Sta Z Z.heap cs8 cs9 "Z" (.int x3)) (hc11 : ¬ (x3 = (0 : Int32))) (f12 : Fld Z h0 r0 cs22 "coder" "B" (.int x4)) (hc14 : x4 = (0 : Int32)) (f17 : Arv Z h0 r1 c6 .byte x5 t7 vI0) (l19 : r1 < h0.size) (hc21 : ¬ (x2 = x5)) (hc22 : ¬ (x2 < (0 : Int32))) (hc23 : ¬ ((x2 - (0 : Int32)) < 0)) (hc24 : ((x2 - (0 : Int32))).toNatClampNeg ≤ 64) (hc25 : (x2 - (0 : Int32)) < (x5 - (0 : Int32))) (hc26 : ((x2 - (0 : Int32))).toNatClampNeg ≤ (x5).toNatClampNeg) :
    own_MF l mN46 jdk_67_method_42_code 1 (some (.object cs8)) ws rR5_2_68_85 Z h0 #[(.ref r0)] (Q57_1 Z x2 t7 h0 n0) := by
  refine own_open (plainFor_of_name pn_java_lang_StringBuilder) (L0 := #[lR r0]) (fun _ => by first | (simp [entryFrame, mkF, argsToLocals, Value.category]; done) | rfl) ?_
  intro p e s m below meth c s₁ hx hby hml hret hnn hZ hown X0 e0
  have N0 := Fr.nil n0; have w := @ww Z a0 hw
  obtain ⟨T1, h1, X1, e1, E1, A1, D1, -, st1⟩ := newO X0 hx hZ hown (w 371 rfl) (w 2 rfl) (w 3 rfl) e0 (g := (mkF m 0 #[lR r0] [])) rfl (hb hby d57_0) (by decide) (by decide)
  obtain ⟨b1, g1⟩ : ∃ z, z = h0.size := ⟨_, rfl⟩
  rw [← g1] at A1 D1 st1
  have f2 : Fld Z h1 b1 cs8 "coder" "B" vI0 := D1 (Or.inr (w 28 rfl)) (ty := .byte) (by decide)
  have f3 : Fld Z h1 b1 cs8 "value" "[B" .null := D1 (Or.inr (w 30 rfl)) (ty := (.array .byte)) (by decide)
  have f5 := (f4.ext E1)
  have f7 := (f6.ext E1)
  have f9 := (f8.ext E1)
  have f13 := (f12.ext E1)
  have zz15 : n0 ≤ h0.size := by rw [← O0.1]; exact O0.2.1
  have g16 := Nat.le_trans zz15 (Nat.le_of_eq g1.symm)
  have f18 := (f17.ext E1)
  have n20 := Nat.ne_of_lt (Nat.lt_of_lt_of_le l19 (Nat.le_of_eq g1.symm))
  have o27 := Old.ext O0 E1
  obtain ⟨_, T28, Lc28, X28, hQ28, st28⟩ := own_fin (X1.specialBack hx (y := mN45) rfl hown (mvT hZ (w 372 rfl)) (mvT hZ (w 373 rfl)) (mvT hZ (w 374 rfl)) (by decide) (backOf (W := 1) (rm58_1 l Z a0 hw [] b1 r0 r1 x2 x3 x4 (0 : Int32) x5 c6 t7 h1 n0 o27 f5 f7 f9 f10 hc11 f13 hc14 A1 f2 g16 f18 n20 hc21 hc22 hc23 hc24 hc25 hc26 f3 A1.lt) hZ (w 374 rfl) (w 3 rfl) (by decide) (by decide)) (g := (mkF m 5 #[lR r0] [(.ref r0), (.ref b1), (.ref b1)])) rfl (by rw [hml]; rfl) (Steps.refl _) (a := b1) (argsL := [(.ref r0)]) (rest := [(.ref b1)]) (lenOf pd__Ljava_lang_StringBuilder__V rfl) rfl (own_W rfl) (hb hby d57_5) (fun _ _ => ⟨rfl, e1, (by decide : 1 + 1 ≤ _), (by decide : 4 + 64 ≤ _)⟩))
  obtain ⟨b28_0, k28_0, rfl, N28q, K28, f29, f30, f31, f32, f33⟩ := hQ28
  have N28 := Fr.app N0 N28q
  have f34 := (A1.keep K28)
  have zs35 := E1.1
  have n36 := Nat.ne_of_lt (Nat.lt_of_lt_of_le A1.lt f31)
  have kp37 : Keep h0 h1 [] := (Keep.refl h0 []).ext E1
  have kp38 : Keep h0 T28.heap [] := kp37.trans K28 (allS (Or.inr (Nat.le_of_eq g1.symm)) all0)
  refine ⟨some (.ref b1), _, _, _, _, nofun, X28, by decide, by decide, ?_, fun fs hr => ?_⟩
  · exact ⟨b1, b28_0, k28_0, rfl, N28, kp38, (Nat.le_of_eq g1.symm), f34, f29, f30, (Nat.le_trans zs35 f31), f32, f33, n36⟩
  · show SG p e below s₁ (mkF m 0 #[lR r0] []) _
    refine st1 _ ?_
    refine qd X1 hx hby d57_3 ?_
    refine qaN X1 hx hby d57_4 ?_
    refine st28.trans ?_
    exact retOut X28 hx (i := .areturn) hret rfl (Or.inr (Or.inr (Or.inr (Or.inr ⟨rfl, rfl, rfl⟩)))) (hb hby d57_8) hr
theorem d29_39 : DK cB29 39 (.areturn) 1 := by decide +kernel
def Q29_1 (Z : State) (x5 x6 : Int32) (h0 : Heap) (n0 : Nat) (v : Option Value) (h : Heap) (L : List Loc) : Prop := ∃ (b165_0 b165_1 : Addr) (k165_0 : ClassId), v = some (.ref b165_0) ∧ Fr n0 L ∧ Keep h0 h [] ∧ h0.size ≤ b165_0 ∧ Exa Z h b165_0 cs8 ∧ Fld Z h b165_0 cs8 "coder" "B" vI0 ∧ Fld Z h b165_0 cs8 "value" "[B" (.ref b165_1) ∧ h0.size ≤ b165_1 ∧ Arv Z h b165_1 k165_0 .byte (44 : Int32) [vI73, vI110, vI116, vI101, vI114, vI110, vI97, vI108, vI67, vI97, vI108, vI108, vI68, vI101, vI116, vI97, vI105, vI108, vI115, vI32, vI91, vI107, vI101, vI121, vI61, (.int x5), (.int x6), vI44, vI32, vI97, vI117, vI116, vI104, vI111, vI114, vI105, vI116, vI105, vI101, vI115, vI61, vI91, vI93, vI93] vI0 ∧ Exa Z h b165_1 "[B" ∧ b165_0 ≠ b165_1
theorem rm29_1 (l : Launch) (Z : State) (a0 : Array Value) (hw : own_HW a0 Z) (ws : List Jvm.Cond) (r0 : Addr) (x1 : Int32) (r2 r3 : Addr) (c4 : ClassId) (x5 x6 : Int32) (r7 r8 : Addr) (c9 : ClassId) (h0 : Heap) (n0 : Nat) (O0 : Old Z n0 h0) (f7 : Sta Z Z.heap cs8 cs9 "Z" (.int x1)) (hc8 : ¬ (x1 = (0 : Int32))) (f45 : Fld Z h0 r0 cs17 "key" cs18 (.ref r2)) (l46 : r0 < h0.size) (f50 : Exa Z h0 r2 cs8) (f52 : Fld Z h0 r2 cs8 "value" "[B" (.ref r3)) (l53 : r2 < h0.size) (f56 : Arv Z h0 r3 c4 .byte (2 : Int32) [(.int x5), (.int x6)] vI0) (l57 : r3 < h0.size) (f60 : Fld Z h0 r2 cs8 "coder" "B" vI0) (f107 : Fld Z h0 r0 cs17 cs19 cs20 (.ref r7)) (f114 : Exa Z Z.heap r7 cs32) (f115 : Fld Z Z.heap r7 cs32 "elements" cs4 (.ref r8)) (f116 : Arv Z Z.heap r8 c9 (.object cs5) (0 : Int32) [] .null) :
    own_MH l mN47 prog_4_method_4_code 1 (some (.object cs8)) ws rR6_15_380_97 Z h0 #[(.ref r0)] (Q29_1 Z x5 x6 h0 n0) := by
  have hEL : EW Z a0 consts_1 := own_EW hw
  refine own_openH hEL (plainFor_of_name pn_com_example_innerkey_innerkey_InternalCallDetails) (L0 := #[lR r0]) (fun _ => by first | (simp [entryFrame, mkF, argsToLocals, Value.category]; done) | rfl) ?_
  intro p e s m below meth c s₁ hx hby hml hret hnn hZ hown X0 e0 R0
  have N0 := Fr.nil n0; have w := @ww Z a0 hw
  obtain ⟨T1, h1, X1, e1, E1, A1, D1, -, st1⟩ := newO X0 hx hZ hown (w 192 rfl) (w 193 rfl) (w 194 rfl) e0 (g := (mkF m 0 #[lR r0] [])) rfl (hb hby d29_0) (by decide) (by decide)
  obtain ⟨b1, g1⟩ : ∃ z, z = h0.size := ⟨_, rfl⟩
  have sf2 : Safe Z consts_1 s.vm h0 b1 := Safe.new (Nat.le_of_eq g1.symm)
  rw [← g1] at A1 D1 st1
  have R3 := CHr.trans R0 (CHr.ext E1 R0.1)
  have f4 : Fld Z h1 b1 cs22 "value" "[B" .null := D1 (Or.inl (w 207 rfl)) (ty := (.array .byte)) (by decide)
  have f5 : Fld Z h1 b1 cs22 "coder" "B" vI0 := D1 (Or.inl (w 209 rfl)) (ty := .byte) (by decide)
  have f6 : Fld Z h1 b1 cs22 "count" "I" vI0 := D1 (Or.inl (w 234 rfl)) (ty := .int) (by decide)
  have zz9 : n0 ≤ h0.size := by rw [← O0.1]; exact O0.2.1
  have g10 := Nat.le_trans zz9 (Nat.le_of_eq g1.symm)
  have o11 := Old.ext O0 E1
  obtain ⟨_, T12, Lc12, X12, hQ12, st12⟩ := own_fin (X1.specialBack hx (y := mN12) rfl hown (mvT hZ (w 195 rfl)) (mvT hZ (w 196 rfl)) (mvT hZ (w 197 rfl)) (by decide) (backOf (W := 1) (rm30_1 l Z a0 hw [] b1 x1 h1 n0 o11 f7 hc8 A1 f4 g10 f5 f6 A1.lt) hZ (w 197 rfl) (w 194 rfl) (by decide) (by decide)) (g := (mkF m 4 #[lR r0] [(.ref b1), (.ref b1)])) rfl (by rw [hml]; rfl) (Steps.refl _) (a := b1) (argsL := []) (rest := [(.ref b1)]) (lenOf pd___V rfl) rfl (own_W rfl) (hb hby d29_4) (fun _ _ => ⟨rfl, e1, (by decide : 1 + 1 ≤ _), (by decide : 4 + 16 ≤ _)⟩))
  obtain ⟨b12_0, k12_0, rfl, N12q, K12, f13, f14, f15, f16, f17, f18⟩ := hQ12
  have N12 := Fr.app N0 N12q
  have R19 := CHr.trans R3 (CHr.keep K12 (sfS (Safe.exa hZ.alike A1 (by decide) (by decide)) sf0) R3.1)
  have sf20 : Safe Z consts_1 s.vm h1 b12_0 := Safe.new f16
  have hS21 := (State.WarmedH.refl s).since 0
  have hstr : ∀ a ∈ Bundle.stringAtoms, a.before a0 Z = true := fun a q => hw a (own_str a q)
  obtain ⟨a22, T22, h22, kk22, b22, k22, X22, e22, E22, hS22, hk22, hZ22, ho22, EE22, C22, F22, V22, l22, m22, CR22, -, ne22, st22⟩ := ldcCH (s := s) (vm0 := s.vm) X12 hx hZ hown (w 210 rfl) hstr rfl hS21 (Nat.zero_le _) hEL (by simp [consts_1]) R19.1 (vs := [vI73, vI110, vI116, vI101, vI114, vI110, vI97, vI108, vI67, vI97, vI108, vI108, vI68, vI101, vI116, vI97, vI105, vI108, vI115, vI32, vI91, vI107, vI101, vI121, vI61]) (z := (25 : Int32)) ⟨by decide, by decide⟩ (by decide) rfl (g := (mkF m 7 #[lR r0] [(.ref b1)])) rfl (hb hby d29_7) (n := 100) (by decide) (by decide) (by decide) (by decide)
  have R23 := CHr.trans R19 CR22
  have f24 := ((A1.keep K12).ext E22)
  have nl25 := ne22 _ (Safe.exa hZ22.alike f24 (by decide) (by decide))
  have sf26 := (CHr.safe CR22 f17.lt (Safe.keep K12 (sfS (Safe.exa hZ.alike A1 (by decide) (by decide)) sf0) R3.1 sf20))
  have nl27 := ne22 _ sf26
  have f28 := (f15.ext E22)
  have f29 := (f13.ext E22)
  have f30 := (f17.ext E22)
  have f31 := (f14.ext E22)
  have zs32 := K12.1
  have zs33 := Nat.le_trans zs32 E22.1
  have o34 := Old.keep o11 K12 (allS g10 all0)
  have o35 := Old.ext o34 E22
  obtain ⟨_, T36, Lc36, X36, hQ36, st36⟩ := own_cV X22 hx hZ22 ho22 e22 (rm32_1 l Z a0 hw [] b1 a22 b22 k22 x1 b12_0 k12_0 h22 n0 o35 EE22 F22 V22 f7 hc8 C22 f28 f24 f29 f30 f31 g10 (Nat.lt_of_lt_of_le A1.lt zs33) (Ne.symm nl25.1) (Ne.symm nl25.2)) f24 (w 213 rfl) (w 214 rfl) (w 216 rfl) (w 215 rfl) (w 217 rfl) (w 194 rfl) (by decide) (W := 0) (by decide) (by decide) (by decide) (by decide) (g := (mkF m 9 #[lR r0] [(.ref a22), (.ref b1)])) rfl (by rw [hml]; rfl) (argsL := [(.ref a22)]) (rest := []) (lenOf pd__Ljava_lang_String__Ljava_lang_StringBuilder_ rfl) rfl (own_W rfl) (hb hby d29_9)
  obtain ⟨b36_0, k36_0, rfl, N36q, K36, f37, f38, f39, f40, f41, f42⟩ := hQ36
  have N36 := Fr.app N12 N36q
  have R43 := CHr.trans R23 (CHr.keep K36 (sfS (Safe.exa hZ22.alike f24 (by decide) (by decide)) sf0) R23.1)
  have sf44 : Safe Z consts_1 T22.vm h22 b36_0 := Safe.new f40
  have n47 := Nat.ne_of_lt (Nat.lt_of_lt_of_le l46 (Nat.le_of_eq g1.symm))
  have f48 := ((((f45.ext E1).keep K12 (ninS n47 nin0)).ext E22).keep K36 (ninS n47 nin0))
  obtain ⟨T49, X49, e49, st49⟩ := getF X36 hx hZ22 ho22 (host := "") (Or.inl (w 97 rfl)) Via.refl rfl f48 (g := (mkF m 13 #[lR r0] [(.ref r0), (.ref b1)])) rfl rfl (hb hby d29_13)
  have f51 := ((((f50.ext E1).keep K12).ext E22).keep K36)
  have n54 := Nat.ne_of_lt (Nat.lt_of_lt_of_le l53 (Nat.le_of_eq g1.symm))
  have f55 := ((((f52.ext E1).keep K12 (ninS n54 nin0)).ext E22).keep K36 (ninS n54 nin0))
  have n58 := Nat.ne_of_lt (Nat.lt_of_lt_of_le l57 (Nat.le_of_eq g1.symm))
  have f59 := ((((f56.ext E1).keep K12 (ninS n58 nin0)).ext E22).keep K36 (ninS n58 nin0))
  have f61 := ((((f60.ext E1).keep K12 (ninS n54 nin0)).ext E22).keep K36 (ninS n54 nin0))
  have f62 := (f24.keep K36)
  have zz63 : n0 ≤ h22.size := by rw [← o35.1]; exact o35.2.1
  have g64 := Nat.le_trans zz63 f40
  have n65 := Nat.ne_of_lt (Nat.lt_of_lt_of_le (Nat.lt_of_lt_of_le A1.lt zs33) f40)
  have o66 := Old.keep o35 K36 (allS g10 all0)
  obtain ⟨_, T67, Lc67, X67, hQ67, st67⟩ := own_cV X49 hx hZ22 ho22 e49 (rm32_2 l Z a0 hw [] b1 r2 r3 (2 : Int32) c4 ([(.int x5), (.int x6)]) x1 (0 : Int32) (25 : Int32) b36_0 (34 : Int32) k36_0 ([vI73, vI110, vI116, vI101, vI114, vI110, vI97, vI108, vI67, vI97, vI108, vI108, vI68, vI101, vI116, vI97, vI105, vI108, vI115, vI32, vI91, vI107, vI101, vI121, vI61, vI0, vI0, vI0, vI0, vI0, vI0, vI0, vI0, vI0]) (0 : Int32) T36.heap n0 o66 f51 f55 f59 f7 hc8 f61 f39 f62 f37 f42 f38 (by decide) (by decide) (by decide) (own_lenK (n := 2) rfl (by decide) : [(.int x5), (.int x6)].length = ((2 : Int32)).toNatClampNeg) (by decide) (by decide) (by decide) (by decide) g64 n65 g10) f62 (w 213 rfl) (w 214 rfl) (w 216 rfl) (w 215 rfl) (w 217 rfl) (w 194 rfl) (by decide) (W := 0) (by decide) (by decide) (by decide) (by decide) (g := (mkF m 16 #[lR r0] [(.ref r2), (.ref b1)])) rfl (by rw [hml]; rfl) (argsL := [(.ref r2)]) (rest := []) (lenOf pd__Ljava_lang_String__Ljava_lang_StringBuilder_ rfl) rfl (own_W rfl) (hb hby d29_16)
  obtain ⟨rfl, N67q, K67, f68, f69, f70, f71⟩ := hQ67
  have N67 := Fr.app N36 N67q
  have sf72 := (Safe.keep K36 (sfS (Safe.exa hZ22.alike f24 (by decide) (by decide)) sf0) R23.1 sf44)
  have R73 := CHr.trans R43 (CHr.keep K67 (sfS sf72 (sfS (Safe.exa hZ22.alike f62 (by decide) (by decide)) sf0)) R43.1)
  have f74 : Arv Z T67.heap b36_0 k36_0 .byte (34 : Int32) [vI73, vI110, vI116, vI101, vI114, vI110, vI97, vI108, vI67, vI97, vI108, vI108, vI68, vI101, vI116, vI97, vI105, vI108, vI115, vI32, vI91, vI107, vI101, vI121, vI61, (.int x5), (.int x6), vI0, vI0, vI0, vI0, vI0, vI0, vI0] vI0 := own_cpx (by decide : (((25 : Int32) <<< ((0 : Int32) &&& 31))).toNatClampNeg = 25) (by decide : (((25 : Int32) <<< ((0 : Int32) &&& 31))).toNatClampNeg + ((2 : Int32)).toNatClampNeg = 27) f68
  have zs76 := K36.1
  have zs77 := Nat.le_trans zs76 K67.1
  obtain ⟨a75, T75, h75, kk75, b75, k75, X75, e75, E75, hS75, hk75, hZ75, ho75, EE75, C75, F75, V75, l75, m75, CR75, -, ne75, st75⟩ := ldcCH (s := s) (vm0 := T22.vm) X67 hx hZ22 ho22 (w 272 rfl) hstr rfl hS22 (Nat.le_trans hk22 zs77) hEL (by simp [consts_1]) R73.1 (vs := [vI44, vI32, vI97, vI117, vI116, vI104, vI111, vI114, vI105, vI116, vI105, vI101, vI115, vI61]) (z := (14 : Int32)) ⟨by decide, by decide⟩ (by decide) rfl (g := (mkF m 19 #[lR r0] [(.ref b1)])) rfl (hb hby d29_19) (n := 56) (by decide) (by decide) (by decide) (by decide)
  have R78 := CHr.trans R73 CR75
  have f79 := ((f62.keep K67).ext E75)
  have nl80 := ne75 _ (Safe.exa hZ75.alike f79 (by decide) (by decide))
  have zs81 := E22.1
  have zs82 := Nat.le_trans zs81 K36.1
  have zs83 := Nat.le_trans zs82 K67.1
  have sf84 := (CHr.safe CR75 (Nat.lt_of_lt_of_le f17.lt zs83) (Safe.keep K67 (sfS sf72 (sfS (Safe.exa hZ22.alike f62 (by decide) (by decide)) sf0)) R43.1 (Safe.keep K36 (sfS (Safe.exa hZ22.alike f24 (by decide) (by decide)) sf0) R23.1 sf26)))
  have nl85 := ne75 _ sf84
  have zs86 := K67.1
  have sf87 := (CHr.safe CR75 (Nat.lt_of_lt_of_le f41.lt zs86) (Safe.keep K67 (sfS sf72 (sfS (Safe.exa hZ22.alike f62 (by decide) (by decide)) sf0)) R43.1 sf72))
  have nl88 := ne75 _ sf87
  have f89 := (f69.ext E75)
  have f90 := (f70.ext E75)
  have f91 := (f74.ext E75)
  have f92 := (f71.ext E75)
  have zs93 := Nat.le_trans zs33 K36.1
  have zs94 := Nat.le_trans zs93 K67.1
  have zs95 := Nat.le_trans zs94 E75.1
  have o96 := Old.keep o66 K67 (allS g64 (allS g10 all0))
  have o97 := Old.ext o96 E75
  obtain ⟨_, T98, Lc98, X98, hQ98, st98⟩ := own_cV X75 hx hZ75 ho75 e75 (rm32_3 l Z a0 hw [] b1 a75 b75 k75 x1 b36_0 k36_0 x5 x6 h75 n0 o97 EE75 F75 V75 f7 hc8 C75 f89 f79 f90 f91 f92 g10 (Nat.lt_of_lt_of_le A1.lt zs95) (Ne.symm nl80.1) (Ne.symm nl80.2)) f79 (w 213 rfl) (w 214 rfl) (w 216 rfl) (w 215 rfl) (w 217 rfl) (w 194 rfl) (by decide) (W := 0) (by decide) (by decide) (by decide) (by decide) (g := (mkF m 21 #[lR r0] [(.ref a75), (.ref b1)])) rfl (by rw [hml]; rfl) (argsL := [(.ref a75)]) (rest := []) (lenOf pd__Ljava_lang_String__Ljava_lang_StringBuilder_ rfl) rfl (own_W rfl) (hb hby d29_21)
  obtain ⟨b98_0, k98_0, rfl, N98q, K98, f99, f100, f101, f102, f103, f104⟩ := hQ98
  have N98 := Fr.app N67 N98q
  have R105 := CHr.trans R78 (CHr.keep K98 (sfS (Safe.exa hZ75.alike f79 (by decide) (by decide)) sf0) R78.1)
  have sf106 : Safe Z consts_1 T75.vm h75 b98_0 := Safe.new f102
  have zs108 := E1.1
  have zs109 := Nat.le_trans zs108 K12.1
  have zs110 := Nat.le_trans zs109 E22.1
  have n111 := Nat.ne_of_lt (Nat.lt_of_lt_of_le (Nat.lt_of_lt_of_le l46 zs110) f40)
  have f112 := (((((((f107.ext E1).keep K12 (ninS n47 nin0)).ext E22).keep K36 (ninS n47 nin0)).keep K67 (ninS n111 (ninS n47 nin0))).ext E75).keep K98 (ninS n47 nin0))
  obtain ⟨T113, X113, e113, st113⟩ := getF X98 hx hZ75 ho75 (host := "") (Or.inl (w 185 rfl)) Via.refl rfl f112 (g := (mkF m 25 #[lR r0] [(.ref r0), (.ref b1)])) rfl rfl (hb hby d29_25)
  have f117 := (f79.keep K98)
  have zz118 : n0 ≤ h75.size := by rw [← o97.1]; exact o97.2.1
  have g119 := Nat.le_trans zz118 f102
  have n120 := Nat.ne_of_lt (Nat.lt_of_lt_of_le (Nat.lt_of_lt_of_le A1.lt zs95) f102)
  have o121 := Old.keep o97 K98 (allS g10 all0)
  have sf122 := (Safe.keep K98 (sfS (Safe.exa hZ75.alike f79 (by decide) (by decide)) sf0) R78.1 sf106)
  obtain ⟨cqq124, kqq124, qq124a, qq124b, qq124c⟩ := isOf hZ75 e113 f117
  obtain ⟨_, _, ⟨T123, L123, k123, n123⟩, -, X123, hs123, hg123, ⟨Lc123, hQ123, l123, y123, z123, cr123⟩, st123⟩ := X113.virtualBackS hx (y := mN36) (z := mN36) ho75 (mvT hZ75 (w 273 rfl)) (mvT hZ75 (w 274 rfl)) (notFace_of_selects (args := #[]) (mvT hZ75 (w 276 rfl))) (mvT hZ75 (w 276 rfl)) (mvT hZ75 (w 275 rfl)) (by decide) (own_backSafe (s := s) (vm0 := T75.vm) (W := 0) (rm43_1 l Z a0 hw [] b1 r7 r8 c9 x1 b98_0 k98_0 x5 x6 T98.heap n0 o121 f114 f115 f116 f117 f7 hc8 f101 f99 f104 f100 g119 n120 g10 f103 f103.lt) hZ75 (w 277 rfl) (w 194 rfl) (by decide) (by decide) hEL R105.1 (allS ⟨f103.lt, sf122⟩ all0)) qq124a qq124c (g := (mkF m 28 #[lR r0] [(.ref r7), (.ref b1)])) rfl (by rw [hml]; rfl) (Steps.refl _) (argsL := [(.ref r7)]) (rest := []) (lenOf pd__Ljava_lang_Object__Ljava_lang_StringBuilder_ rfl) rfl (own_W rfl) (hb hby d29_28) (fun _ _ => ⟨rfl, e113, (by decide : 8 + 3 ≤ _), (by decide : 288 + 16 ≤ _)⟩)
  dsimp only [Pt.U, Pt.locs, Pt.cells, Pt.slots] at X123 l123 y123 z123 st123 hQ123 hs123 hg123 cr123
  subst l123 y123 z123
  have zs125 := K98.1
  obtain ⟨X123, hS123, hZ123, ho123⟩ := rebS (s := s) (vm0 := T75.vm) hS75 (by rw [e113]; exact (Nat.le_trans hk75 zs125)) X123 hs123 hg123 hZ75 ho75
  obtain ⟨rfl, N123q, K123, f126, f127, f128, f129⟩ := hQ123
  have N123 := Fr.app N98 N123q
  have R130 := CHr.trans R105 cr123
  obtain ⟨a131, T131, h131, kk131, b131, k131, X131, e131, E131, hS131, hk131, hZ131, ho131, EE131, C131, F131, V131, l131, m131, CR131, -, ne131, st131⟩ := ldcCH (s := s) (vm0 := T123.vm) X123 hx hZ123 ho123 (w 401 rfl) hstr rfl hS123 (Nat.le_refl _) hEL (by simp [consts_1]) R130.1 (vs := [vI93]) (z := (1 : Int32)) ⟨by decide, by decide⟩ (by decide) rfl (g := (mkF m 31 #[lR r0] [(.ref b1)])) rfl (hb hby d29_31) (n := 4) (by decide) (by decide) (by decide) (by decide)
  have R132 := CHr.trans R130 CR131
  have f133 := ((f117.keep K123).ext E131)
  have nl134 := ne131 _ (Safe.exa hZ131.alike f133 (by decide) (by decide))
  have zs135 := Nat.le_trans zs83 E75.1
  have zs136 := Nat.le_trans zs135 K98.1
  have zs137 := Nat.le_trans zs136 K123.1
  have sf138 := (CHr.safe CR131 (Nat.lt_of_lt_of_le f17.lt zs137) (CHr.safe cr123 (Nat.lt_of_lt_of_le f17.lt zs136) (Safe.keep K98 (sfS (Safe.exa hZ75.alike f79 (by decide) (by decide)) sf0) R78.1 sf84)))
  have nl139 := ne131 _ sf138
  have zs140 := Nat.le_trans zs86 E75.1
  have zs141 := Nat.le_trans zs140 K98.1
  have zs142 := Nat.le_trans zs141 K123.1
  have sf143 := (CHr.safe CR131 (Nat.lt_of_lt_of_le f41.lt zs142) (CHr.safe cr123 (Nat.lt_of_lt_of_le f41.lt zs141) (Safe.keep K98 (sfS (Safe.exa hZ75.alike f79 (by decide) (by decide)) sf0) R78.1 sf87)))
  have nl144 := ne131 _ sf143
  have zs145 := K123.1
  have sf146 := (CHr.safe CR131 (Nat.lt_of_lt_of_le f103.lt zs145) (CHr.safe cr123 f103.lt sf122))
  have nl147 := ne131 _ sf146
  have f148 := (f127.ext E131)
  have f149 := (f128.ext E131)
  have f150 := (f126.ext E131)
  have f151 := (f129.ext E131)
  have o152 := Old.keep o121 K123 (allS g119 (allS g10 all0))
  have o153 := Old.ext o152 E131
  obtain ⟨_, T154, Lc154, X154, hQ154, st154⟩ := own_cV X131 hx hZ131 ho131 e131 (rm32_2 l Z a0 hw [] b1 a131 b131 (1 : Int32) k131 ([vI93]) x1 (0 : Int32) (43 : Int32) b98_0 (70 : Int32) k98_0 ([vI73, vI110, vI116, vI101, vI114, vI110, vI97, vI108, vI67, vI97, vI108, vI108, vI68, vI101, vI116, vI97, vI105, vI108, vI115, vI32, vI91, vI107, vI101, vI121, vI61, (.int x5), (.int x6), vI44, vI32, vI97, vI117, vI116, vI104, vI111, vI114, vI105, vI116, vI105, vI101, vI115, vI61, vI91, vI93, vI0, vI0, vI0, vI0, vI0, vI0, vI0, vI0, vI0, vI0, vI0, vI0, vI0, vI0, vI0, vI0, vI0, vI0, vI0, vI0, vI0, vI0, vI0, vI0, vI0, vI0, vI0]) (0 : Int32) h131 n0 o153 EE131 F131 V131 f7 hc8 C131 f148 f133 f149 f150 f151 (by decide) (by decide) (by decide) (by decide) (own_lenK (n := 70) rfl (by decide) : [vI73, vI110, vI116, vI101, vI114, vI110, vI97, vI108, vI67, vI97, vI108, vI108, vI68, vI101, vI116, vI97, vI105, vI108, vI115, vI32, vI91, vI107, vI101, vI121, vI61, (.int x5), (.int x6), vI44, vI32, vI97, vI117, vI116, vI104, vI111, vI114, vI105, vI116, vI105, vI101, vI115, vI61, vI91, vI93, vI0, vI0, vI0, vI0, vI0, vI0, vI0, vI0, vI0, vI0, vI0, vI0, vI0, vI0, vI0, vI0, vI0, vI0, vI0, vI0, vI0, vI0, vI0, vI0, vI0, vI0, vI0].length = ((70 : Int32)).toNatClampNeg) (by decide) (by decide) (by decide) g119 n120 g10) f133 (w 213 rfl) (w 214 rfl) (w 216 rfl) (w 215 rfl) (w 217 rfl) (w 194 rfl) (by decide) (W := 0) (by decide) (by decide) (by decide) (by decide) (g := (mkF m 33 #[lR r0] [(.ref a131), (.ref b1)])) rfl (by rw [hml]; rfl) (argsL := [(.ref a131)]) (rest := []) (lenOf pd__Ljava_lang_String__Ljava_lang_StringBuilder_ rfl) rfl (own_W rfl) (hb hby d29_33)
  obtain ⟨rfl, N154q, K154, f155, f156, f157, f158⟩ := hQ154
  have N154 := Fr.app N123 N154q
  have R159 := CHr.trans R132 (CHr.keep K154 (sfS sf146 (sfS (Safe.exa hZ131.alike f133 (by decide) (by decide)) sf0)) R132.1)
  have f160 : Arv Z T154.heap b98_0 k98_0 .byte (70 : Int32) [vI73, vI110, vI116, vI101, vI114, vI110, vI97, vI108, vI67, vI97, vI108, vI108, vI68, vI101, vI116, vI97, vI105, vI108, vI115, vI32, vI91, vI107, vI101, vI121, vI61, (.int x5), (.int x6), vI44, vI32, vI97, vI117, vI116, vI104, vI111, vI114, vI105, vI116, vI105, vI101, vI115, vI61, vI91, vI93, vI93, vI0, vI0, vI0, vI0, vI0, vI0, vI0, vI0, vI0, vI0, vI0, vI0, vI0, vI0, vI0, vI0, vI0, vI0, vI0, vI0, vI0, vI0, vI0, vI0, vI0, vI0] vI0 := own_cpx (by decide : (((43 : Int32) <<< ((0 : Int32) &&& 31))).toNatClampNeg = 43) (by decide : (((43 : Int32) <<< ((0 : Int32) &&& 31))).toNatClampNeg + ((1 : Int32)).toNatClampNeg = 44) f155
  have f161 := (f133.keep K154)
  have zs162 := Nat.le_trans zs145 E131.1
  have zs163 := Nat.le_trans zs162 K154.1
  have o164 := Old.keep o153 K154 (allS g119 (allS g10 all0))
  obtain ⟨_, T165, Lc165, X165, hQ165, st165⟩ := own_cV X154 hx hZ131 ho131 rfl (rm57_1 l Z a0 hw [] b1 b98_0 (44 : Int32) x1 (0 : Int32) (70 : Int32) k98_0 ([vI73, vI110, vI116, vI101, vI114, vI110, vI97, vI108, vI67, vI97, vI108, vI108, vI68, vI101, vI116, vI97, vI105, vI108, vI115, vI32, vI91, vI107, vI101, vI121, vI61, (.int x5), (.int x6), vI44, vI32, vI97, vI117, vI116, vI104, vI111, vI114, vI105, vI116, vI105, vI101, vI115, vI61, vI91, vI93, vI93, vI0, vI0, vI0, vI0, vI0, vI0, vI0, vI0, vI0, vI0, vI0, vI0, vI0, vI0, vI0, vI0, vI0, vI0, vI0, vI0, vI0, vI0, vI0, vI0, vI0, vI0]) T154.heap n0 o164 f161 f157 f156 f7 hc8 f158 (by decide) f160 (Nat.lt_of_lt_of_le f103.lt zs163) (by decide) (by decide) (by decide) (by decide) (by decide) (by decide)) f161 (w 402 rfl) (w 367 rfl) (w 369 rfl) (w 368 rfl) (w 370 rfl) (w 194 rfl) (by decide) (W := 0) (by decide) (by decide) (by decide) (by decide) (g := (mkF m 36 #[lR r0] [(.ref b1)])) rfl (by rw [hml]; rfl) (argsL := []) (rest := []) (lenOf pd___Ljava_lang_String_ rfl) rfl (own_W rfl) (hb hby d29_36)
  obtain ⟨b165_0, b165_1, k165_0, rfl, N165q, K165, f166, f167, f168, f169, f170, f171, f172, f173⟩ := hQ165
  have N165 := Fr.app N154 N165q
  have R174 := CHr.trans R159 (CHr.keep K165 sf0 R159.1)
  have sf175 : Safe Z consts_1 T131.vm T154.heap b165_0 := Safe.new f166
  have sf176 : Safe Z consts_1 T131.vm T154.heap b165_1 := Safe.new f170
  have f177 : Arv Z T165.heap b165_1 k165_0 .byte (44 : Int32) [vI73, vI110, vI116, vI101, vI114, vI110, vI97, vI108, vI67, vI97, vI108, vI108, vI68, vI101, vI116, vI97, vI105, vI108, vI115, vI32, vI91, vI107, vI101, vI121, vI61, (.int x5), (.int x6), vI44, vI32, vI97, vI117, vI116, vI104, vI111, vI114, vI105, vI116, vI105, vI101, vI115, vI61, vI91, vI93, vI93] vI0 := own_trunc (ws := [vI73, vI110, vI116, vI101, vI114, vI110, vI97, vI108, vI67, vI97, vI108, vI108, vI68, vI101, vI116, vI97, vI105, vI108, vI115, vI32, vI91, vI107, vI101, vI121, vI61, (.int x5), (.int x6), vI44, vI32, vI97, vI117, vI116, vI104, vI111, vI114, vI105, vI116, vI105, vI101, vI115, vI61, vI91, vI93, vI93]) (rest := [vI0, vI0, vI0, vI0, vI0, vI0, vI0, vI0, vI0, vI0, vI0, vI0, vI0, vI0, vI0, vI0, vI0, vI0, vI0, vI0, vI0, vI0, vI0, vI0, vI0, vI0]) (own_lenK (n := 44) rfl (by decide)) f171
  have zs178 := Nat.le_trans zs110 K36.1
  have zs179 := Nat.le_trans zs178 K67.1
  have zs180 := Nat.le_trans zs179 E75.1
  have zs181 := Nat.le_trans zs180 K98.1
  have zs182 := Nat.le_trans zs181 K123.1
  have zs183 := Nat.le_trans zs182 E131.1
  have zs184 := Nat.le_trans zs183 K154.1
  have kp185 : Keep h0 h1 [] := (Keep.refl h0 []).ext E1
  have kp186 : Keep h0 T12.heap [] := kp185.trans K12 (allS (Or.inr (Nat.le_of_eq g1.symm)) all0)
  have kp187 : Keep h0 h22 [] := kp186.ext E22
  have kp188 : Keep h0 T36.heap [] := kp187.trans K36 (allS (Or.inr (Nat.le_of_eq g1.symm)) all0)
  have kp189 : Keep h0 T67.heap [] := kp188.trans K67 (allS (Or.inr (Nat.le_trans zs110 f40)) (allS (Or.inr (Nat.le_of_eq g1.symm)) all0))
  have kp190 : Keep h0 h75 [] := kp189.ext E75
  have kp191 : Keep h0 T98.heap [] := kp190.trans K98 (allS (Or.inr (Nat.le_of_eq g1.symm)) all0)
  have kp192 : Keep h0 T123.heap [] := kp191.trans K123 (allS (Or.inr (Nat.le_trans zs180 f102)) (allS (Or.inr (Nat.le_of_eq g1.symm)) all0))
  have kp193 : Keep h0 h131 [] := kp192.ext E131
  have kp194 : Keep h0 T154.heap [] := kp193.trans K154 (allS (Or.inr (Nat.le_trans zs180 f102)) (allS (Or.inr (Nat.le_of_eq g1.symm)) all0))
  have kp195 : Keep h0 T165.heap [] := kp194.trans K165 all0
  have zs196 := K154.1
  have zs197 := Nat.le_trans zs196 K165.1
  refine ⟨some (.ref b165_0), _, _, _, _, _, _, _, nofun, X165, by decide, by decide, hS131, ((Nat.le_trans hk131 zs197)), hZ131, rfl, R174, ?_, fun fs hr => ?_⟩
  · exact ⟨b165_0, b165_1, k165_0, rfl, N165, kp195, (Nat.le_trans zs184 f166), f167, f168, f169, (Nat.le_trans zs184 f170), f177, f172, f173⟩
  · show SG p e below s₁ (mkF m 0 #[lR r0] []) _
    refine st1 _ ?_
    refine qd X1 hx hby d29_3 ?_
    refine st12.trans ?_
    refine st22 _ ?_
    refine st36 _ ?_
    refine qaN X36 hx hby d29_12 ?_
    refine st49 _ ?_
    refine st67 _ ?_
    refine st75 _ ?_
    refine st98 _ ?_
    refine qaN X98 hx hby d29_24 ?_
    refine st113 _ ?_
    refine st123.trans ?_
    refine st131 _ ?_
    refine st154 _ ?_
    refine st165 _ ?_
    exact retOut X165 hx (i := .areturn) hret rfl (Or.inr (Or.inr (Or.inr (Or.inr ⟨rfl, rfl, rfl⟩)))) (hb hby d29_39) hr
theorem pd__Ljava_lang_Object__Z : parseMethodDescriptor "(Ljava/lang/Object;)Z" = some ⟨[(.object "java/lang/Object")], some .boolean⟩ := by decide +kernel
def Q0_1 (Z : State)  (h0 : Heap) (n0 : Nat) (v : Option Value) (h : Heap) (L : List Loc) : Prop := v = some vI1 ∧ Fr n0 L
theorem rm0_1 (l : Launch) (Z : State) (a0 : Array Value) (hw : own_HW a0 Z) (ws : List Jvm.Cond) (x0 x1 : Int32) (x2 x3 : Int32) (x4 x5 : Int32) (x6 x7 : Int32) (x8 x9 x10 : Int32) (r11 r12 r13 : Addr) (c14 : ClassId) (h0 : Heap) (n0 : Nat) (O0 : Old Z n0 h0) (hq2 : ((x0 &&& (255 : Int32)).toUInt32.toUInt16.toUInt32.toInt32) = x4) (hq3 : ((((x0.toUInt32 >>> ((8 : Int32) &&& 31).toUInt32).toInt32) &&& (255 : Int32)).toUInt32.toUInt16.toUInt32.toInt32) = x5) (hq4 : ((x1 &&& (255 : Int32)).toUInt32.toUInt16.toUInt32.toInt32) = x6) (hq5 : ((((x1.toUInt32 >>> ((8 : Int32) &&& 31).toUInt32).toInt32) &&& (255 : Int32)).toUInt32.toUInt16.toUInt32.toInt32) = x7) (hq6 : ((x2 &&& (255 : Int32)).toUInt32.toUInt16.toUInt32.toInt32) = x8) (hq7 : ((((x2.toUInt32 >>> ((8 : Int32) &&& 31).toUInt32).toInt32) &&& (255 : Int32)).toUInt32.toUInt16.toUInt32.toInt32) = x9) (hc8 : ((x3 &&& (2147483647 : Int32)) % (3 : Int32)) = (0 : Int32)) (f33 : Sta Z Z.heap cs8 cs9 "Z" (.int x10)) (hc38 : ¬ (x10 = (0 : Int32))) (hc41 : ¬ ((255 : Int32) < (nar .char x4))) (hc42 : ¬ ((255 : Int32) < (nar .char x5))) (hc84 : ¬ ((255 : Int32) < (nar .char x6))) (hc85 : ¬ ((255 : Int32) < (nar .char x7))) (hc127 : ¬ ((255 : Int32) < (nar .char x8))) (hc128 : ¬ ((255 : Int32) < (nar .char x9))) (f148 : Sta Z Z.heap cs2 cs6 cs4 (.ref r11)) (f181 : Sta Z Z.heap cs12 cs13 cs14 (.ref r12)) (f238 : Exa Z Z.heap r12 cs32) (f239 : Fld Z Z.heap r12 cs32 "elements" cs4 (.ref r13)) (f240 : Arv Z Z.heap r13 c14 (.object cs5) (0 : Int32) [] .null) :
    own_MH l x code maxLocals ret ws room_1 Z h0 #[(.int x0), (.int x1), (.int x2), (.int x3)] (Q0_1 Z  h0 n0) := by
  have hEL : EW Z a0 consts_1 := own_EW hw
  refine own_openH hEL (plainFor_of_name pn_com_example_innerkey_innerkey_InternalCallDetailsToStringPinLaw) (L0 := #[lI x0, lI x1, lI x2, lI x3, lU, lU, lU, lU, lU, lU, lU, lU, lU, lU, lU, lU, lU]) (fun _ => by first | (simp [entryFrame, mkF, argsToLocals, Value.category, maxLocals]; done) | rfl) ?_
  intro p e s m below meth c s₁ hx hby hml hret hnn hZ hown X0 e0 R0
  have N0 := Fr.nil n0; have w := @ww Z a0 hw
  have hS1 := (State.WarmedH.refl s).since 0
  obtain ⟨T9, h9, X9, e9, E9, A9, D9, -, st9⟩ := newO X0 hx hZ hown (w 1 rfl) (w 2 rfl) (w 3 rfl) e0 (g := (mkF m 65 #[lI x0, lI x1, lI x2, lI x3, lI x4, lI x5, lI x6, lI x7, lI x8, lI x9, lV vI0, lU, lU, lU, lU, lU, lU] [])) rfl (hb hby at_65) (by decide) (by decide)
  obtain ⟨b9, g9⟩ : ∃ z, z = h0.size := ⟨_, rfl⟩
  have sf10 : Safe Z consts_1 s.vm h0 b9 := Safe.new (Nat.le_of_eq g9.symm)
  rw [← g9] at A9 D9 st9
  have R11 := CHr.trans R0 (CHr.ext E9 R0.1)
  have f12 : Fld Z h9 b9 cs8 "coder" "B" vI0 := D9 (Or.inr (w 28 rfl)) (ty := .byte) (by decide)
  have f13 : Fld Z h9 b9 cs8 "value" "[B" .null := D9 (Or.inr (w 30 rfl)) (ty := (.array .byte)) (by decide)
  obtain ⟨T14, h14, k14, X14, e14, E14, A14, B14, st14⟩ := newPE X9 hx hZ (w 4 rfl) e9 (g := (mkF m 70 #[lI x0, lI x1, lI x2, lI x3, lI x4, lI x5, lI x6, lI x7, lI x8, lI x9, lV vI0, lU, lU, lU, lU, lU, lU] [vI2, (.ref b9), (.ref b9)])) rfl (hb hby at_70) rfl (by decide) (cap := 2) (by decide) (by decide) (by decide) (by decide) (ad := "[C") rfl
  obtain ⟨b14, g14⟩ : ∃ z, z = h9.size := ⟨_, rfl⟩
  have sf15 : Safe Z consts_1 s.vm h9 b14 := Safe.new (Nat.le_of_eq g14.symm)
  rw [← g14] at A14 B14 st14
  have R16 := CHr.trans R11 (CHr.ext E14 R11.1)
  have V14 : Arv Z h14 b14 k14 .char (2 : Int32) [vI0, vI0] vI0 := (Arv.new A14 (by decide)).pad (pad_rep [] vI0 2)
  obtain ⟨clq17, Arq17, qq17, Sq17, Nq17, Hq17, Gq17⟩ := id V14
  have o19 := Old.ext O0 E9
  have zz18 : n0 ≤ h9.size := by rw [← o19.1]; exact o19.2.1
  have g20 := Nat.le_trans zz18 (Nat.le_of_eq g14.symm)
  obtain ⟨T21, h21, X21, e21, W21, st21⟩ := stC X14 hx hZ e14 Arq17 (j := (0 : Int32)) (inb_of Sq17 ⟨(by decide : ¬ ((0 : Int32) < (0 : Int32))), (by decide : (0 : Int32) < (2 : Int32))⟩) (g := (mkF m 76 #[lI x0, lI x1, lI x2, lI x3, lI x4, lI x5, lI x6, lI x7, lI x8, lI x9, lV vI0, lU, lU, lU, lU, lU, lU] [(.int x4), vI0, (.ref b14), (.ref b14), (.ref b9), (.ref b9)])) rfl rfl (hb hby at_76)
  have sf22 : Safe Z consts_1 s.vm h14 b14 := (Safe.exa hZ.alike B14 (by decide) (by decide))
  have R23 := CHr.trans R16 (CHr.wr W21 sf22 R16.1)
  have V21 : Arv Z h21 b14 k14 .char (2 : Int32) [(.int (nar .char x4)), vI0] vI0 := Arv.set Arq17 qq17 Sq17 Nq17 Hq17 Gq17 (fits_nar_char _) W21 0 rfl (Nat.le_of_ble_eq_true rfl)
  have N21 := Fr.snoc X21 N0 g20
  obtain ⟨clq24, Arq24, qq24, Sq24, Nq24, Hq24, Gq24⟩ := id V21
  obtain ⟨T25, h25, X25, e25, W25, st25⟩ := stC X21 hx hZ e21 Arq24 (j := (1 : Int32)) (inb_of Sq24 ⟨(by decide : ¬ ((1 : Int32) < (0 : Int32))), (by decide : (1 : Int32) < (2 : Int32))⟩) (g := (mkF m 81 #[lI x0, lI x1, lI x2, lI x3, lI x4, lI x5, lI x6, lI x7, lI x8, lI x9, lV vI0, lU, lU, lU, lU, lU, lU] [(.int x5), vI1, (.ref b14), (.ref b14), (.ref b9), (.ref b9)])) rfl rfl (hb hby at_81)
  have f26 := (B14.wr W21)
  have sf27 : Safe Z consts_1 s.vm h21 b14 := (Safe.exa hZ.alike f26 (by decide) (by decide))
  have R28 := CHr.trans R23 (CHr.wr W25 sf27 R23.1)
  have V25 : Arv Z h25 b14 k14 .char (2 : Int32) [(.int (nar .char x4)), (.int (nar .char x5))] vI0 := Arv.set Arq24 qq24 Sq24 Nq24 Hq24 Gq24 (fits_nar_char _) W25 1 rfl (Nat.le_of_ble_eq_true rfl)
  have N25 := Fr.snoc X25 N21 g20
  have f29 := (((A9.ext E14).wr W21).wr W25)
  have n30 := Nat.ne_of_lt (Nat.lt_of_lt_of_le A9.lt (Nat.le_of_eq g14.symm))
  have f31 := (((f13.ext E14).other W21 (Or.inl n30)).other W25 (Or.inl n30))
  have f32 := (((f12.ext E14).other W21 (Or.inl n30)).other W25 (Or.inl n30))
  have o34 := Old.ext o19 E14
  have o35 := Old.wr o34 W21 g20
  have o36 := Old.wr o35 W25 g20
  have f37 := f33.ext o36.2
  have zz39 : n0 ≤ h0.size := by rw [← O0.1]; exact O0.2.1
  have g40 := Nat.le_trans zz39 (Nat.le_of_eq g9.symm)
  obtain ⟨_, T43, Lc43, X43, hQ43, st43⟩ := own_fin (X25.specialBack hx (y := mN4) rfl hown (mvT hZ (w 5 rfl)) (mvT hZ (w 6 rfl)) (mvT hZ (w 7 rfl)) (by decide) (own_newStr hZ hw (w 2 rfl) (cs := [(nar .char x4), (nar .char x5)]) (n := 2) g40 f29 f31 f32 V25 f37 hc38 rfl rfl (by decide) (by decide) (own_acS hc41 (own_acS hc42 own_ac0)) (own_bsS rfl (own_bsS rfl own_bs0)) (by decide) (by decide : 1 + 65 ≤ _)) (g := (mkF m 82 #[lI x0, lI x1, lI x2, lI x3, lI x4, lI x5, lI x6, lI x7, lI x8, lI x9, lV vI0, lU, lU, lU, lU, lU, lU] [(.ref b14), (.ref b9), (.ref b9)])) rfl (by rw [hml]; rfl) (Steps.refl _) (a := b9) (argsL := [(.ref b14)]) (rest := [(.ref b9)]) (lenOf pd___C_V rfl) rfl (own_W rfl) (hb hby at_82) (fun _ _ => ⟨rfl, e25, (by decide : 2 + 1 ≤ _), (by decide : 6 + 2 ≤ _)⟩))
  obtain ⟨b43_0, k43_0, rfl, N43q, K43, f44, f45, f46, f47, f48, f49⟩ := hQ43
  have N43 := Fr.app N25 N43q
  have sf50 := (Safe.wr W25 sf27 R23.1 (Safe.wr W21 sf22 R16.1 (Safe.ext E14 R11.1 (Safe.ext E9 R0.1 sf10))))
  have R51 := CHr.trans R28 (CHr.keep K43 (sfS sf50 sf0) R28.1)
  have sf52 : Safe Z consts_1 s.vm h25 b43_0 := Safe.new f46
  obtain ⟨T53, h53, X53, e53, E53, A53, D53, -, st53⟩ := newO X43 hx hZ hown (w 1 rfl) (w 2 rfl) (w 3 rfl) rfl (g := (mkF m 87 #[lI x0, lI x1, lI x2, lI x3, lI x4, lI x5, lI x6, lI x7, lI x8, lI x9, lV vI0, lR b9, lU, lU, lU, lU, lU] [])) rfl (hb hby at_87) (by decide) (by decide)
  obtain ⟨b53, g53⟩ : ∃ z, z = T43.heap.size := ⟨_, rfl⟩
  have sf54 : Safe Z consts_1 s.vm T43.heap b53 := Safe.new (Nat.le_of_eq g53.symm)
  rw [← g53] at A53 D53 st53
  have R55 := CHr.trans R51 (CHr.ext E53 R51.1)
  have f56 : Fld Z h53 b53 cs8 "coder" "B" vI0 := D53 (Or.inr (w 28 rfl)) (ty := .byte) (by decide)
  have f57 : Fld Z h53 b53 cs8 "value" "[B" .null := D53 (Or.inr (w 30 rfl)) (ty := (.array .byte)) (by decide)
  obtain ⟨T58, h58, k58, X58, e58, E58, A58, B58, st58⟩ := newPE X53 hx hZ (w 4 rfl) e53 (g := (mkF m 92 #[lI x0, lI x1, lI x2, lI x3, lI x4, lI x5, lI x6, lI x7, lI x8, lI x9, lV vI0, lR b9, lU, lU, lU, lU, lU] [vI2, (.ref b53), (.ref b53)])) rfl (hb hby at_92) rfl (by decide) (cap := 2) (by decide) (by decide) (by decide) (by decide) (ad := "[C") rfl
  obtain ⟨b58, g58⟩ : ∃ z, z = h53.size := ⟨_, rfl⟩
  have sf59 : Safe Z consts_1 s.vm h53 b58 := Safe.new (Nat.le_of_eq g58.symm)
  rw [← g58] at A58 B58 st58
  have R60 := CHr.trans R55 (CHr.ext E58 R55.1)
  have V58 : Arv Z h58 b58 k58 .char (2 : Int32) [vI0, vI0] vI0 := (Arv.new A58 (by decide)).pad (pad_rep [] vI0 2)
  obtain ⟨clq61, Arq61, qq61, Sq61, Nq61, Hq61, Gq61⟩ := id V58
  have o63 := Old.keep o36 K43 (allS g40 all0)
  have o64 := Old.ext o63 E53
  have zz62 : n0 ≤ h53.size := by rw [← o64.1]; exact o64.2.1
  have g65 := Nat.le_trans zz62 (Nat.le_of_eq g58.symm)
  obtain ⟨T66, h66, X66, e66, W66, st66⟩ := stC X58 hx hZ e58 Arq61 (j := (0 : Int32)) (inb_of Sq61 ⟨(by decide : ¬ ((0 : Int32) < (0 : Int32))), (by decide : (0 : Int32) < (2 : Int32))⟩) (g := (mkF m 98 #[lI x0, lI x1, lI x2, lI x3, lI x4, lI x5, lI x6, lI x7, lI x8, lI x9, lV vI0, lR b9, lU, lU, lU, lU, lU] [(.int x6), vI0, (.ref b58), (.ref b58), (.ref b53), (.ref b53)])) rfl rfl (hb hby at_98)
  have sf67 : Safe Z consts_1 s.vm h58 b58 := (Safe.exa hZ.alike B58 (by decide) (by decide))
  have R68 := CHr.trans R60 (CHr.wr W66 sf67 R60.1)
  have V66 : Arv Z h66 b58 k58 .char (2 : Int32) [(.int (nar .char x6)), vI0] vI0 := Arv.set Arq61 qq61 Sq61 Nq61 Hq61 Gq61 (fits_nar_char _) W66 0 rfl (Nat.le_of_ble_eq_true rfl)
  have N66 := Fr.snoc X66 N43 g65
  obtain ⟨clq69, Arq69, qq69, Sq69, Nq69, Hq69, Gq69⟩ := id V66
  obtain ⟨T70, h70, X70, e70, W70, st70⟩ := stC X66 hx hZ e66 Arq69 (j := (1 : Int32)) (inb_of Sq69 ⟨(by decide : ¬ ((1 : Int32) < (0 : Int32))), (by decide : (1 : Int32) < (2 : Int32))⟩) (g := (mkF m 103 #[lI x0, lI x1, lI x2, lI x3, lI x4, lI x5, lI x6, lI x7, lI x8, lI x9, lV vI0, lR b9, lU, lU, lU, lU, lU] [(.int x7), vI1, (.ref b58), (.ref b58), (.ref b53), (.ref b53)])) rfl rfl (hb hby at_103)
  have f71 := (B58.wr W66)
  have sf72 : Safe Z consts_1 s.vm h66 b58 := (Safe.exa hZ.alike f71 (by decide) (by decide))
  have R73 := CHr.trans R68 (CHr.wr W70 sf72 R68.1)
  have V70 : Arv Z h70 b58 k58 .char (2 : Int32) [(.int (nar .char x6)), (.int (nar .char x7))] vI0 := Arv.set Arq69 qq69 Sq69 Nq69 Hq69 Gq69 (fits_nar_char _) W70 1 rfl (Nat.le_of_ble_eq_true rfl)
  have N70 := Fr.snoc X70 N66 g65
  have f74 := (((A53.ext E58).wr W66).wr W70)
  have n75 := Nat.ne_of_lt (Nat.lt_of_lt_of_le A53.lt (Nat.le_of_eq g58.symm))
  have f76 := (((f57.ext E58).other W66 (Or.inl n75)).other W70 (Or.inl n75))
  have f77 := (((f56.ext E58).other W66 (Or.inl n75)).other W70 (Or.inl n75))
  have o78 := Old.ext o64 E58
  have o79 := Old.wr o78 W66 g65
  have o80 := Old.wr o79 W70 g65
  have f81 := f33.ext o80.2
  have zz82 : n0 ≤ T43.heap.size := by rw [← o63.1]; exact o63.2.1
  have g83 := Nat.le_trans zz82 (Nat.le_of_eq g53.symm)
  obtain ⟨_, T86, Lc86, X86, hQ86, st86⟩ := own_fin (X70.specialBack hx (y := mN4) rfl hown (mvT hZ (w 5 rfl)) (mvT hZ (w 6 rfl)) (mvT hZ (w 7 rfl)) (by decide) (own_newStr hZ hw (w 2 rfl) (cs := [(nar .char x6), (nar .char x7)]) (n := 2) g83 f74 f76 f77 V70 f81 hc38 rfl rfl (by decide) (by decide) (own_acS hc84 (own_acS hc85 own_ac0)) (own_bsS rfl (own_bsS rfl own_bs0)) (by decide) (by decide : 1 + 65 ≤ _)) (g := (mkF m 104 #[lI x0, lI x1, lI x2, lI x3, lI x4, lI x5, lI x6, lI x7, lI x8, lI x9, lV vI0, lR b9, lU, lU, lU, lU, lU] [(.ref b58), (.ref b53), (.ref b53)])) rfl (by rw [hml]; rfl) (Steps.refl _) (a := b53) (argsL := [(.ref b58)]) (rest := [(.ref b53)]) (lenOf pd___C_V rfl) rfl (own_W rfl) (hb hby at_104) (fun _ _ => ⟨rfl, e70, (by decide : 5 + 1 ≤ _), (by decide : 14 + 2 ≤ _)⟩))
  obtain ⟨b86_0, k86_0, rfl, N86q, K86, f87, f88, f89, f90, f91, f92⟩ := hQ86
  have N86 := Fr.app N70 N86q
  have sf93 := (Safe.wr W70 sf72 R68.1 (Safe.wr W66 sf67 R60.1 (Safe.ext E58 R55.1 (Safe.ext E53 R51.1 sf54))))
  have R94 := CHr.trans R73 (CHr.keep K86 (sfS sf93 sf0) R73.1)
  have sf95 : Safe Z consts_1 s.vm h70 b86_0 := Safe.new f89
  obtain ⟨T96, h96, X96, e96, E96, A96, D96, -, st96⟩ := newO X86 hx hZ hown (w 1 rfl) (w 2 rfl) (w 3 rfl) rfl (g := (mkF m 109 #[lI x0, lI x1, lI x2, lI x3, lI x4, lI x5, lI x6, lI x7, lI x8, lI x9, lV vI0, lR b9, lR b53, lU, lU, lU, lU] [])) rfl (hb hby at_109) (by decide) (by decide)
  obtain ⟨b96, g96⟩ : ∃ z, z = T86.heap.size := ⟨_, rfl⟩
  have sf97 : Safe Z consts_1 s.vm T86.heap b96 := Safe.new (Nat.le_of_eq g96.symm)
  rw [← g96] at A96 D96 st96
  have R98 := CHr.trans R94 (CHr.ext E96 R94.1)
  have f99 : Fld Z h96 b96 cs8 "coder" "B" vI0 := D96 (Or.inr (w 28 rfl)) (ty := .byte) (by decide)
  have f100 : Fld Z h96 b96 cs8 "value" "[B" .null := D96 (Or.inr (w 30 rfl)) (ty := (.array .byte)) (by decide)
  obtain ⟨T101, h101, k101, X101, e101, E101, A101, B101, st101⟩ := newPE X96 hx hZ (w 4 rfl) e96 (g := (mkF m 114 #[lI x0, lI x1, lI x2, lI x3, lI x4, lI x5, lI x6, lI x7, lI x8, lI x9, lV vI0, lR b9, lR b53, lU, lU, lU, lU] [vI2, (.ref b96), (.ref b96)])) rfl (hb hby at_114) rfl (by decide) (cap := 2) (by decide) (by decide) (by decide) (by decide) (ad := "[C") rfl
  obtain ⟨b101, g101⟩ : ∃ z, z = h96.size := ⟨_, rfl⟩
  have sf102 : Safe Z consts_1 s.vm h96 b101 := Safe.new (Nat.le_of_eq g101.symm)
  rw [← g101] at A101 B101 st101
  have R103 := CHr.trans R98 (CHr.ext E101 R98.1)
  have V101 : Arv Z h101 b101 k101 .char (2 : Int32) [vI0, vI0] vI0 := (Arv.new A101 (by decide)).pad (pad_rep [] vI0 2)
  obtain ⟨clq104, Arq104, qq104, Sq104, Nq104, Hq104, Gq104⟩ := id V101
  have o106 := Old.keep o80 K86 (allS g83 all0)
  have o107 := Old.ext o106 E96
  have zz105 : n0 ≤ h96.size := by rw [← o107.1]; exact o107.2.1
  have g108 := Nat.le_trans zz105 (Nat.le_of_eq g101.symm)
  obtain ⟨T109, h109, X109, e109, W109, st109⟩ := stC X101 hx hZ e101 Arq104 (j := (0 : Int32)) (inb_of Sq104 ⟨(by decide : ¬ ((0 : Int32) < (0 : Int32))), (by decide : (0 : Int32) < (2 : Int32))⟩) (g := (mkF m 120 #[lI x0, lI x1, lI x2, lI x3, lI x4, lI x5, lI x6, lI x7, lI x8, lI x9, lV vI0, lR b9, lR b53, lU, lU, lU, lU] [(.int x8), vI0, (.ref b101), (.ref b101), (.ref b96), (.ref b96)])) rfl rfl (hb hby at_120)
  have sf110 : Safe Z consts_1 s.vm h101 b101 := (Safe.exa hZ.alike B101 (by decide) (by decide))
  have R111 := CHr.trans R103 (CHr.wr W109 sf110 R103.1)
  have V109 : Arv Z h109 b101 k101 .char (2 : Int32) [(.int (nar .char x8)), vI0] vI0 := Arv.set Arq104 qq104 Sq104 Nq104 Hq104 Gq104 (fits_nar_char _) W109 0 rfl (Nat.le_of_ble_eq_true rfl)
  have N109 := Fr.snoc X109 N86 g108
  obtain ⟨clq112, Arq112, qq112, Sq112, Nq112, Hq112, Gq112⟩ := id V109
  obtain ⟨T113, h113, X113, e113, W113, st113⟩ := stC X109 hx hZ e109 Arq112 (j := (1 : Int32)) (inb_of Sq112 ⟨(by decide : ¬ ((1 : Int32) < (0 : Int32))), (by decide : (1 : Int32) < (2 : Int32))⟩) (g := (mkF m 125 #[lI x0, lI x1, lI x2, lI x3, lI x4, lI x5, lI x6, lI x7, lI x8, lI x9, lV vI0, lR b9, lR b53, lU, lU, lU, lU] [(.int x9), vI1, (.ref b101), (.ref b101), (.ref b96), (.ref b96)])) rfl rfl (hb hby at_125)
  have f114 := (B101.wr W109)
  have sf115 : Safe Z consts_1 s.vm h109 b101 := (Safe.exa hZ.alike f114 (by decide) (by decide))
  have R116 := CHr.trans R111 (CHr.wr W113 sf115 R111.1)
  have V113 : Arv Z h113 b101 k101 .char (2 : Int32) [(.int (nar .char x8)), (.int (nar .char x9))] vI0 := Arv.set Arq112 qq112 Sq112 Nq112 Hq112 Gq112 (fits_nar_char _) W113 1 rfl (Nat.le_of_ble_eq_true rfl)
  have N113 := Fr.snoc X113 N109 g108
  have f117 := (((A96.ext E101).wr W109).wr W113)
  have n118 := Nat.ne_of_lt (Nat.lt_of_lt_of_le A96.lt (Nat.le_of_eq g101.symm))
  have f119 := (((f100.ext E101).other W109 (Or.inl n118)).other W113 (Or.inl n118))
  have f120 := (((f99.ext E101).other W109 (Or.inl n118)).other W113 (Or.inl n118))
  have o121 := Old.ext o107 E101
  have o122 := Old.wr o121 W109 g108
  have o123 := Old.wr o122 W113 g108
  have f124 := f33.ext o123.2
  have zz125 : n0 ≤ T86.heap.size := by rw [← o106.1]; exact o106.2.1
  have g126 := Nat.le_trans zz125 (Nat.le_of_eq g96.symm)
  obtain ⟨_, T129, Lc129, X129, hQ129, st129⟩ := own_fin (X113.specialBack hx (y := mN4) rfl hown (mvT hZ (w 5 rfl)) (mvT hZ (w 6 rfl)) (mvT hZ (w 7 rfl)) (by decide) (own_newStr hZ hw (w 2 rfl) (cs := [(nar .char x8), (nar .char x9)]) (n := 2) g126 f117 f119 f120 V113 f124 hc38 rfl rfl (by decide) (by decide) (own_acS hc127 (own_acS hc128 own_ac0)) (own_bsS rfl (own_bsS rfl own_bs0)) (by decide) (by decide : 1 + 65 ≤ _)) (g := (mkF m 126 #[lI x0, lI x1, lI x2, lI x3, lI x4, lI x5, lI x6, lI x7, lI x8, lI x9, lV vI0, lR b9, lR b53, lU, lU, lU, lU] [(.ref b101), (.ref b96), (.ref b96)])) rfl (by rw [hml]; rfl) (Steps.refl _) (a := b96) (argsL := [(.ref b101)]) (rest := [(.ref b96)]) (lenOf pd___C_V rfl) rfl (own_W rfl) (hb hby at_126) (fun _ _ => ⟨rfl, e113, (by decide : 8 + 1 ≤ _), (by decide : 22 + 2 ≤ _)⟩))
  obtain ⟨b129_0, k129_0, rfl, N129q, K129, f130, f131, f132, f133, f134, f135⟩ := hQ129
  have N129 := Fr.app N113 N129q
  have sf136 := (Safe.wr W113 sf115 R111.1 (Safe.wr W109 sf110 R103.1 (Safe.ext E101 R98.1 (Safe.ext E96 R94.1 sf97))))
  have R137 := CHr.trans R116 (CHr.keep K129 (sfS sf136 sf0) R116.1)
  have sf138 : Safe Z consts_1 s.vm h113 b129_0 := Safe.new f132
  obtain ⟨T139, h139, X139, e139, E139, A139, D139, -, st139⟩ := newO X129 hx hZ hown (w 31 rfl) (w 32 rfl) (w 33 rfl) rfl (g := (mkF m 131 #[lI x0, lI x1, lI x2, lI x3, lI x4, lI x5, lI x6, lI x7, lI x8, lI x9, lV vI0, lR b9, lR b53, lR b96, lU, lU, lU] [])) rfl (hb hby at_131) (by decide) (by decide)
  obtain ⟨b139, g139⟩ : ∃ z, z = T129.heap.size := ⟨_, rfl⟩
  have sf140 : Safe Z consts_1 s.vm T129.heap b139 := Safe.new (Nat.le_of_eq g139.symm)
  rw [← g139] at A139 D139 st139
  have R141 := CHr.trans R137 (CHr.ext E139 R137.1)
  have f142 : Fld Z h139 b139 cs1 "modCount" "I" vI0 := D139 (Or.inl (w 51 rfl)) (ty := .int) (by decide)
  have f143 : Fld Z h139 b139 cs2 cs3 cs4 .null := D139 (Or.inl (w 54 rfl)) (ty := (.array (.object cs5))) (by decide)
  have f144 : Fld Z h139 b139 cs2 "size" "I" vI0 := D139 (Or.inl (w 63 rfl)) (ty := .int) (by decide)
  have o146 := Old.keep o123 K129 (allS g126 all0)
  have zz145 : n0 ≤ T129.heap.size := by rw [← o146.1]; exact o146.2.1
  have g147 := Nat.le_trans zz145 (Nat.le_of_eq g139.symm)
  have o149 := Old.ext o146 E139
  obtain ⟨_, T150, Lc150, X150, hQ150, st150⟩ := own_fin (X139.specialBack hx (y := mN2) rfl hown (mvT hZ (w 34 rfl)) (mvT hZ (w 35 rfl)) (mvT hZ (w 36 rfl)) (by decide) (backOf (W := 1) (rm7_1 l Z a0 hw [] b139 r11 h139 n0 o149 A139 f142 g147 f143 f144 f148) hZ (w 36 rfl) (w 33 rfl) (by decide) (by decide)) (g := (mkF m 135 #[lI x0, lI x1, lI x2, lI x3, lI x4, lI x5, lI x6, lI x7, lI x8, lI x9, lV vI0, lR b9, lR b53, lR b96, lU, lU, lU] [(.ref b139), (.ref b139)])) rfl (by rw [hml]; rfl) (Steps.refl _) (a := b139) (argsL := []) (rest := [(.ref b139)]) (lenOf pd___V rfl) rfl (own_W rfl) (hb hby at_135) (fun _ _ => ⟨rfl, e139, (by decide : 10 + 0 ≤ _), (by decide : 27 + 0 ≤ _)⟩))
  obtain ⟨rfl, N150q, K150, f151, f152, f153⟩ := hQ150
  have N150 := Fr.app N129 N150q
  have R154 := CHr.trans R141 (CHr.keep K150 (sfS (Safe.exa hZ.alike A139 (by decide) (by decide)) sf0) R141.1)
  have o155 := Old.keep o149 K150 (allS g147 all0)
  obtain ⟨_, T156, Lc156, X156, hQ156, st156⟩ := own_cS X150 hx hZ hown rfl (rm15_1 l Z a0 hw [] x4 x5 x6 x7 x8 x9 x10 T150.heap n0 o155 f33 hc38 hc41 hc42) (w 86 rfl) (w 87 rfl) (w 88 rfl) (w 89 rfl) (by decide) (W := 0) (by decide) (by decide) (by decide) (by decide) (g := (mkF m 182 #[lI x0, lI x1, lI x2, lI x3, lI x4, lI x5, lI x6, lI x7, lI x8, lI x9, lV vI0, lR b9, lR b53, lR b96, lR b139, lU, lU] [(.int x9), (.int x8), (.int x7), (.int x6), (.int x5), (.int x4), vI0])) rfl (by rw [hml]; rfl) (argsL := [vI0, (.int x4), (.int x5), (.int x6), (.int x7), (.int x8), (.int x9)]) (rest := []) (lenOf pd__ICCCCCC_Ljava_lang_String_ rfl) rfl (own_W rfl) (hb hby at_182)
  obtain ⟨b156_0, b156_1, k156_0, rfl, N156q, K156, f157, f158, f159, f160, f161, f162, f163, f164⟩ := hQ156
  have N156 := Fr.app N150 N156q
  have R165 := CHr.trans R154 (CHr.keep K156 sf0 R154.1)
  have sf166 : Safe Z consts_1 s.vm T150.heap b156_0 := Safe.new f157
  have sf167 : Safe Z consts_1 s.vm T150.heap b156_1 := Safe.new f161
  obtain ⟨T168, h168, X168, e168, E168, A168, D168, -, st168⟩ := newO X156 hx hZ hown (w 90 rfl) (w 91 rfl) (w 92 rfl) rfl (g := (mkF m 187 #[lI x0, lI x1, lI x2, lI x3, lI x4, lI x5, lI x6, lI x7, lI x8, lI x9, lV vI0, lR b9, lR b53, lR b96, lR b139, lR b156_0, lU] [])) rfl (hb hby at_187) (by decide) (by decide)
  obtain ⟨b168, g168⟩ : ∃ z, z = T156.heap.size := ⟨_, rfl⟩
  have sf169 : Safe Z consts_1 s.vm T156.heap b168 := Safe.new (Nat.le_of_eq g168.symm)
  rw [← g168] at A168 D168 st168
  have R170 := CHr.trans R165 (CHr.ext E168 R165.1)
  have f171 : Fld Z h168 b168 cs17 "key" cs18 .null := D168 (Or.inr (w 98 rfl)) (ty := (.object cs8)) (by decide)
  have f172 : Fld Z h168 b168 cs17 cs19 cs20 .null := D168 (Or.inr (w 186 rfl)) (ty := (.object cs11)) (by decide)
  have o174 := Old.keep o155 K156 all0
  have zz173 : n0 ≤ T156.heap.size := by rw [← o174.1]; exact o174.2.1
  have g175 := Nat.le_trans zz173 (Nat.le_of_eq g168.symm)
  have f176 := (((A139.keep K150).keep K156).ext E168)
  have f177 := ((f153.keep K156 nin0).ext E168)
  have zs178 := K150.1
  have zs179 := Nat.le_trans zs178 K156.1
  have n180 := Nat.ne_of_lt (Nat.lt_of_lt_of_le (Nat.lt_of_lt_of_le A139.lt zs179) (Nat.le_of_eq g168.symm))
  have o182 := Old.ext o174 E168
  obtain ⟨_, T183, Lc183, X183, hQ183, st183⟩ := own_fin (X168.specialBack hx (y := mN10) rfl hown (mvT hZ (w 93 rfl)) (mvT hZ (w 94 rfl)) (mvT hZ (w 95 rfl)) (by decide) (backOf (W := 1) (rm16_1 l Z a0 hw [] b168 b9 b139 r12 h168 n0 o182 A168 f171 g175 f176 f177 n180 f181 f172) hZ (w 95 rfl) (w 92 rfl) (by decide) (by decide)) (g := (mkF m 195 #[lI x0, lI x1, lI x2, lI x3, lI x4, lI x5, lI x6, lI x7, lI x8, lI x9, lV vI0, lR b9, lR b53, lR b96, lR b139, lR b156_0, lU] [(.ref b139), (.ref b9), (.ref b168), (.ref b168)])) rfl (by rw [hml]; rfl) (Steps.refl _) (a := b168) (argsL := [(.ref b9), (.ref b139)]) (rest := [(.ref b168)]) (lenOf pd__Ljava_lang_String_Ljava_util_List__V rfl) rfl (own_W rfl) (hb hby at_195) (fun _ _ => ⟨rfl, e168, (by decide : 14 + 0 ≤ _), (by decide : 121 + 0 ≤ _)⟩))
  obtain ⟨rfl, N183q, K183, f184, f185⟩ := hQ183
  have N183 := Fr.app N156 N183q
  have R186 := CHr.trans R170 (CHr.keep K183 (sfS (Safe.exa hZ.alike A168 (by decide) (by decide)) sf0) R170.1)
  have zs187 := K183.1
  have f188 := ((((((((((((((((f29.keep K43).ext E53).ext E58).wr W66).wr W70).keep K86).ext E96).ext E101).wr W109).wr W113).keep K129).ext E139).keep K150).keep K156).ext E168).keep K183)
  have zs189 := E14.1
  have zs190 := Nat.le_trans zs189 (Nat.le_of_eq W21.size.symm)
  have zs191 := Nat.le_trans zs190 (Nat.le_of_eq W25.size.symm)
  have zs192 := Nat.le_trans zs191 K43.1
  have zs193 := Nat.le_trans zs192 E53.1
  have n194 := Nat.ne_of_lt (Nat.lt_of_lt_of_le (Nat.lt_of_lt_of_le A9.lt zs193) (Nat.le_of_eq g58.symm))
  have n195 := Nat.ne_of_lt (Nat.lt_of_lt_of_le (Nat.lt_of_lt_of_le A9.lt zs192) (Nat.le_of_eq g53.symm))
  have zs196 := Nat.le_trans zs193 E58.1
  have zs197 := Nat.le_trans zs196 (Nat.le_of_eq W66.size.symm)
  have zs198 := Nat.le_trans zs197 (Nat.le_of_eq W70.size.symm)
  have zs199 := Nat.le_trans zs198 K86.1
  have zs200 := Nat.le_trans zs199 E96.1
  have n201 := Nat.ne_of_lt (Nat.lt_of_lt_of_le (Nat.lt_of_lt_of_le A9.lt zs200) (Nat.le_of_eq g101.symm))
  have n202 := Nat.ne_of_lt (Nat.lt_of_lt_of_le (Nat.lt_of_lt_of_le A9.lt zs199) (Nat.le_of_eq g96.symm))
  have zs203 := Nat.le_trans zs200 E101.1
  have zs204 := Nat.le_trans zs203 (Nat.le_of_eq W109.size.symm)
  have zs205 := Nat.le_trans zs204 (Nat.le_of_eq W113.size.symm)
  have zs206 := Nat.le_trans zs205 K129.1
  have n207 := Nat.ne_of_lt (Nat.lt_of_lt_of_le (Nat.lt_of_lt_of_le A9.lt zs206) (Nat.le_of_eq g139.symm))
  have zs208 := Nat.le_trans zs206 E139.1
  have zs209 := Nat.le_trans zs208 K150.1
  have zs210 := Nat.le_trans zs209 K156.1
  have n211 := Nat.ne_of_lt (Nat.lt_of_lt_of_le (Nat.lt_of_lt_of_le A9.lt zs210) (Nat.le_of_eq g168.symm))
  have f212 := (((((((((((((((f45.ext E53).ext E58).other W66 (Or.inl n194)).other W70 (Or.inl n194)).keep K86 (ninS n195 nin0)).ext E96).ext E101).other W109 (Or.inl n201)).other W113 (Or.inl n201)).keep K129 (ninS n202 nin0)).ext E139).keep K150 (ninS n207 nin0)).keep K156 nin0).ext E168).keep K183 (ninS n211 nin0))
  have zs213 := Nat.le_trans zs210 E168.1
  have zs214 := Nat.le_trans zs213 K183.1
  have zs215 := E53.1
  have n216 := Nat.ne_of_lt (Nat.lt_of_lt_of_le (Nat.lt_of_lt_of_le f47.lt zs215) (Nat.le_of_eq g58.symm))
  have n217 := Nat.ne_of_lt (Nat.lt_of_lt_of_le f47.lt (Nat.le_of_eq g53.symm))
  have zs218 := Nat.le_trans zs215 E58.1
  have zs219 := Nat.le_trans zs218 (Nat.le_of_eq W66.size.symm)
  have zs220 := Nat.le_trans zs219 (Nat.le_of_eq W70.size.symm)
  have zs221 := Nat.le_trans zs220 K86.1
  have zs222 := Nat.le_trans zs221 E96.1
  have n223 := Nat.ne_of_lt (Nat.lt_of_lt_of_le (Nat.lt_of_lt_of_le f47.lt zs222) (Nat.le_of_eq g101.symm))
  have n224 := Nat.ne_of_lt (Nat.lt_of_lt_of_le (Nat.lt_of_lt_of_le f47.lt zs221) (Nat.le_of_eq g96.symm))
  have zs225 := Nat.le_trans zs222 E101.1
  have zs226 := Nat.le_trans zs225 (Nat.le_of_eq W109.size.symm)
  have zs227 := Nat.le_trans zs226 (Nat.le_of_eq W113.size.symm)
  have zs228 := Nat.le_trans zs227 K129.1
  have n229 := Nat.ne_of_lt (Nat.lt_of_lt_of_le (Nat.lt_of_lt_of_le f47.lt zs228) (Nat.le_of_eq g139.symm))
  have zs230 := Nat.le_trans zs228 E139.1
  have zs231 := Nat.le_trans zs230 K150.1
  have zs232 := Nat.le_trans zs231 K156.1
  have n233 := Nat.ne_of_lt (Nat.lt_of_lt_of_le (Nat.lt_of_lt_of_le f47.lt zs232) (Nat.le_of_eq g168.symm))
  have f234 := (((((((((((((((f47.ext E53).ext E58).other W66 n216).other W70 n216).keep K86 (ninS n217 nin0)).ext E96).ext E101).other W109 n223).other W113 n223).keep K129 (ninS n224 nin0)).ext E139).keep K150 (ninS n229 nin0)).keep K156 nin0).ext E168).keep K183 (ninS n233 nin0))
  have zs235 := Nat.le_trans zs232 E168.1
  have zs236 := Nat.le_trans zs235 K183.1
  have f237 := (((((((((((((((f44.ext E53).ext E58).other W66 (Or.inl n194)).other W70 (Or.inl n194)).keep K86 (ninS n195 nin0)).ext E96).ext E101).other W109 (Or.inl n201)).other W113 (Or.inl n201)).keep K129 (ninS n202 nin0)).ext E139).keep K150 (ninS n207 nin0)).keep K156 nin0).ext E168).keep K183 (ninS n211 nin0))
  have o241 := Old.keep o182 K183 (allS g175 all0)
  have f243 := (A168.keep K183)
  obtain ⟨cqq244, kqq244, qq244a, qq244b, qq244c⟩ := isOf hZ rfl f243
  obtain ⟨_, _, ⟨T242, L242, k242, n242⟩, -, X242, hs242, hg242, ⟨Lc242, hQ242, l242, y242, z242, cr242⟩, st242⟩ := X183.virtualBackS hx (y := mN47) (z := mN47) hown (mvT hZ (w 187 rfl)) (mvT hZ (w 188 rfl)) (notFace_of_selects (args := #[]) (mvT hZ (w 190 rfl))) (mvT hZ (w 190 rfl)) (mvT hZ (w 189 rfl)) (by decide) (backOfSH (s := s) (vm0 := s.vm) (W := 1) (rm29_1 l Z a0 hw [] b168 x10 b9 b43_0 k43_0 ((nar .char x4).toInt8.toInt32) ((nar .char x5).toInt8.toInt32) r12 r13 c14 T183.heap n0 o241 f33 hc38 f184 (Nat.lt_of_lt_of_le A168.lt zs187) f188 f212 (Nat.lt_of_lt_of_le A9.lt zs214) f234 (Nat.lt_of_lt_of_le f47.lt zs236) f237 f185 f238 f239 f240) hZ (w 191 rfl) (w 92 rfl) (by decide) (by decide) hEL R186.1) qq244a qq244c (g := (mkF m 204 #[lI x0, lI x1, lI x2, lI x3, lI x4, lI x5, lI x6, lI x7, lI x8, lI x9, lV vI0, lR b9, lR b53, lR b96, lR b139, lR b156_0, lR b168] [(.ref b168), (.ref b156_0)])) rfl (by rw [hml]; rfl) (Steps.refl _) (argsL := []) (rest := [(.ref b156_0)]) (lenOf pd___Ljava_lang_String_ rfl) rfl (own_W rfl) (hb hby at_204) (fun _ _ => ⟨rfl, rfl, (by decide : 14 + 15 ≤ _), (by decide : 121 + 380 ≤ _)⟩)
  dsimp only [Pt.U, Pt.locs, Pt.cells, Pt.slots] at X242 l242 y242 z242 st242 hQ242 hs242 hg242 cr242
  subst l242 y242 z242
  obtain ⟨X242, hS242, hZ242, ho242⟩ := rebS (s := s) (vm0 := s.vm) hS1 ((Nat.zero_le _)) X242 hs242 hg242 hZ hown
  obtain ⟨b242_0, b242_1, k242_0, rfl, N242q, K242, f245, f246, f247, f248, f249, f250, f251, f252⟩ := hQ242
  have N242 := Fr.app N183 N242q
  have R253 := CHr.trans R186 cr242
  have n254 := Nat.ne_of_lt (Nat.lt_of_lt_of_le f158.lt (Nat.le_of_eq g168.symm))
  have f255 := (((f159.ext E168).keep K183 (ninS n254 nin0)).keep K242 nin0)
  have f256 := (((f160.ext E168).keep K183 (ninS n254 nin0)).keep K242 nin0)
  have n257 := Nat.ne_of_lt (Nat.lt_of_lt_of_le f162.lt (Nat.le_of_eq g168.symm))
  have f258 := (((f162.ext E168).keep K183 (ninS n257 nin0)).keep K242 nin0)
  have f259 := (((f158.ext E168).keep K183).keep K242)
  have o260 := Old.keep o241 K242 all0
  have f261 := f33.ext o260.2
  obtain ⟨cqq263, kqq263, qq263a, qq263b, qq263c⟩ := isOf hZ242 rfl f259
  obtain ⟨_, T262, Lc262, X262, hQ262, st262⟩ := own_fin (X242.virtualBack hx (y := mN48) (z := mN48) ho242 (mvT hZ242 (w 403 rfl)) (mvT hZ242 (w 404 rfl)) (notFace_of_selects (args := #[]) (mvT hZ242 (w 406 rfl))) (mvT hZ242 (w 406 rfl)) (mvT hZ242 (w 405 rfl)) (by decide) (own_strEq hZ242 hw (w 2 rfl) (bs := [(73 : Int32), (110 : Int32), (116 : Int32), (101 : Int32), (114 : Int32), (110 : Int32), (97 : Int32), (108 : Int32), (67 : Int32), (97 : Int32), (108 : Int32), (108 : Int32), (68 : Int32), (101 : Int32), (116 : Int32), (97 : Int32), (105 : Int32), (108 : Int32), (115 : Int32), (32 : Int32), (91 : Int32), (107 : Int32), (101 : Int32), (121 : Int32), (61 : Int32), ((nar .char x4).toInt8.toInt32), ((nar .char x5).toInt8.toInt32), (44 : Int32), (32 : Int32), (97 : Int32), (117 : Int32), (116 : Int32), (104 : Int32), (111 : Int32), (114 : Int32), (105 : Int32), (116 : Int32), (105 : Int32), (101 : Int32), (115 : Int32), (61 : Int32), (91 : Int32), (93 : Int32), (93 : Int32)]) f259 f256 f255 f258 (own_ofLen (n := 44) (by decide) rfl) (Nat.le_of_ble_eq_true rfl) (ds := [(73 : Int32), (110 : Int32), (116 : Int32), (101 : Int32), (114 : Int32), (110 : Int32), (97 : Int32), (108 : Int32), (67 : Int32), (97 : Int32), (108 : Int32), (108 : Int32), (68 : Int32), (101 : Int32), (116 : Int32), (97 : Int32), (105 : Int32), (108 : Int32), (115 : Int32), (32 : Int32), (91 : Int32), (107 : Int32), (101 : Int32), (121 : Int32), (61 : Int32), ((nar .char x4).toInt8.toInt32), ((nar .char x5).toInt8.toInt32), (44 : Int32), (32 : Int32), (97 : Int32), (117 : Int32), (116 : Int32), (104 : Int32), (111 : Int32), (114 : Int32), (105 : Int32), (116 : Int32), (105 : Int32), (101 : Int32), (115 : Int32), (61 : Int32), (91 : Int32), (93 : Int32), (93 : Int32)]) f246 f248 f247 f250 (own_ofLen (n := 44) (by decide) rfl) (Nat.le_of_ble_eq_true rfl) f261 hc38 (r := 1) (n0 := n0) (Or.inl ⟨rfl, rfl⟩) (by decide) (by decide : 0 + 28 ≤ _)) qq263a qq263c (g := (mkF m 207 #[lI x0, lI x1, lI x2, lI x3, lI x4, lI x5, lI x6, lI x7, lI x8, lI x9, lV vI0, lR b9, lR b53, lR b96, lR b139, lR b156_0, lR b168] [(.ref b242_0), (.ref b156_0)])) rfl (by rw [hml]; rfl) (Steps.refl _) (argsL := [(.ref b242_0)]) (rest := []) (lenOf pd__Ljava_lang_Object__Z rfl) rfl (own_W rfl) (hb hby at_207) (fun _ _ => ⟨rfl, rfl, (by decide : 29 + 0 ≤ _), (by decide : 501 + 0 ≤ _)⟩))
  obtain ⟨rfl, N262q, E262⟩ := hQ262
  have N262 := Fr.app N242 N262q
  refine ⟨some vI1, _, _, _, _, _, _, _, nofun, X262, by decide, by decide, hS242, (by rw [E262]; exact (Nat.le_refl _)), hZ242, E262, R253, ?_, fun fs hr => ?_⟩
  · rw [E262]; exact ⟨rfl, N262⟩
  · show SG p e below s₁ (mkF m 0 #[lI x0, lI x1, lI x2, lI x3, lU, lU, lU, lU, lU, lU, lU, lU, lU, lU, lU, lU, lU] []) _
    refine qiN X0 hx hby at_0 ?_
    refine XS.sipush X0.here hx rfl (hb hby at_1) ?_
    refine XS.iand X0.here hx rfl (hb hby at_4) rfl ?_
    refine XS.i2c X0.here hx rfl (hb hby at_5) rfl ?_
    show SG p e below s₁ (mkF m 6 #[lI x0, lI x1, lI x2, lI x3, lU, lU, lU, lU, lU, lU, lU, lU, lU, lU, lU, lU, lU] [(.int ((x0 &&& (255 : Int32)).toUInt32.toUInt16.toUInt32.toInt32))]) _
    rw [hq2]
    refine XS.istore X0.here hx rfl (hb hby at_6) rfl (l' := #[lI x0, lI x1, lI x2, lI x3, lI x4, lU, lU, lU, lU, lU, lU, lU, lU, lU, lU, lU, lU]) rfl ?_
    refine qiN X0 hx hby at_8 ?_
    refine qb X0 hx hby at_9 ?_
    refine XS.iushr X0.here hx rfl (hb hby at_11) rfl ?_
    refine XS.sipush X0.here hx rfl (hb hby at_12) ?_
    refine XS.iand X0.here hx rfl (hb hby at_15) rfl ?_
    refine XS.i2c X0.here hx rfl (hb hby at_16) rfl ?_
    show SG p e below s₁ (mkF m 17 #[lI x0, lI x1, lI x2, lI x3, lI x4, lU, lU, lU, lU, lU, lU, lU, lU, lU, lU, lU, lU] [(.int ((((x0.toUInt32 >>> ((8 : Int32) &&& 31).toUInt32).toInt32) &&& (255 : Int32)).toUInt32.toUInt16.toUInt32.toInt32))]) _
    rw [hq3]
    refine XS.istore X0.here hx rfl (hb hby at_17) rfl (l' := #[lI x0, lI x1, lI x2, lI x3, lI x4, lI x5, lU, lU, lU, lU, lU, lU, lU, lU, lU, lU, lU]) rfl ?_
    refine qiN X0 hx hby at_19 ?_
    refine XS.sipush X0.here hx rfl (hb hby at_20) ?_
    refine XS.iand X0.here hx rfl (hb hby at_23) rfl ?_
    refine XS.i2c X0.here hx rfl (hb hby at_24) rfl ?_
    show SG p e below s₁ (mkF m 25 #[lI x0, lI x1, lI x2, lI x3, lI x4, lI x5, lU, lU, lU, lU, lU, lU, lU, lU, lU, lU, lU] [(.int ((x1 &&& (255 : Int32)).toUInt32.toUInt16.toUInt32.toInt32))]) _
    rw [hq4]
    refine XS.istore X0.here hx rfl (hb hby at_25) rfl (l' := #[lI x0, lI x1, lI x2, lI x3, lI x4, lI x5, lI x6, lU, lU, lU, lU, lU, lU, lU, lU, lU, lU]) rfl ?_
    refine qiN X0 hx hby at_27 ?_
    refine qb X0 hx hby at_28 ?_
    refine XS.iushr X0.here hx rfl (hb hby at_30) rfl ?_
    refine XS.sipush X0.here hx rfl (hb hby at_31) ?_
    refine XS.iand X0.here hx rfl (hb hby at_34) rfl ?_
    refine XS.i2c X0.here hx rfl (hb hby at_35) rfl ?_
    show SG p e below s₁ (mkF m 36 #[lI x0, lI x1, lI x2, lI x3, lI x4, lI x5, lI x6, lU, lU, lU, lU, lU, lU, lU, lU, lU, lU] [(.int ((((x1.toUInt32 >>> ((8 : Int32) &&& 31).toUInt32).toInt32) &&& (255 : Int32)).toUInt32.toUInt16.toUInt32.toInt32))]) _
    rw [hq5]
    refine XS.istore X0.here hx rfl (hb hby at_36) rfl (l' := #[lI x0, lI x1, lI x2, lI x3, lI x4, lI x5, lI x6, lI x7, lU, lU, lU, lU, lU, lU, lU, lU, lU]) rfl ?_
    refine qiN X0 hx hby at_38 ?_
    show SG p e below s₁ (mkF m 39 #[lI x0, lI x1, lI x2, lI x3, lI x4, lI x5, lI x6, lI x7, lU, lU, lU, lU, lU, lU, lU, lU, lU] [(.int x2)]) _
    refine XS.sipush X0.here hx rfl (hb hby at_39) ?_
    refine XS.iand X0.here hx rfl (hb hby at_42) rfl ?_
    refine XS.i2c X0.here hx rfl (hb hby at_43) rfl ?_
    show SG p e below s₁ (mkF m 44 #[lI x0, lI x1, lI x2, lI x3, lI x4, lI x5, lI x6, lI x7, lU, lU, lU, lU, lU, lU, lU, lU, lU] [(.int ((x2 &&& (255 : Int32)).toUInt32.toUInt16.toUInt32.toInt32))]) _
    rw [hq6]
    refine XS.istore X0.here hx rfl (hb hby at_44) rfl (l' := #[lI x0, lI x1, lI x2, lI x3, lI x4, lI x5, lI x6, lI x7, lI x8, lU, lU, lU, lU, lU, lU, lU, lU]) rfl ?_
    refine qiN X0 hx hby at_46 ?_
    refine qb X0 hx hby at_47 ?_
    refine XS.iushr X0.here hx rfl (hb hby at_49) rfl ?_
    refine XS.sipush X0.here hx rfl (hb hby at_50) ?_
    refine XS.iand X0.here hx rfl (hb hby at_53) rfl ?_
    refine XS.i2c X0.here hx rfl (hb hby at_54) rfl ?_
    show SG p e below s₁ (mkF m 55 #[lI x0, lI x1, lI x2, lI x3, lI x4, lI x5, lI x6, lI x7, lI x8, lU, lU, lU, lU, lU, lU, lU, lU] [(.int ((((x2.toUInt32 >>> ((8 : Int32) &&& 31).toUInt32).toInt32) &&& (255 : Int32)).toUInt32.toUInt16.toUInt32.toInt32))]) _
    rw [hq7]
    refine XS.istore X0.here hx rfl (hb hby at_55) rfl (l' := #[lI x0, lI x1, lI x2, lI x3, lI x4, lI x5, lI x6, lI x7, lI x8, lI x9, lU, lU, lU, lU, lU, lU, lU]) rfl ?_
    refine qiN X0 hx hby at_57 ?_
    refine X0.ldcInt hx hown (mvT hZ (w 0 rfl)) (g := (mkF m 58 #[lI x0, lI x1, lI x2, lI x3, lI x4, lI x5, lI x6, lI x7, lI x8, lI x9, lU, lU, lU, lU, lU, lU, lU] [(.int x3)])) rfl (hb hby at_58) _ ?_
    refine XS.iand X0.here hx rfl (hb hby at_60) rfl ?_
    refine qc X0 hx hby at_61 ?_
    refine iremM (g := (mkF m 62 #[lI x0, lI x1, lI x2, lI x3, lI x4, lI x5, lI x6, lI x7, lI x8, lI x9, lU, lU, lU, lU, lU, lU, lU] [vI3, (.int (x3 &&& (2147483647 : Int32)))])) X0 hx rfl (hb hby at_62) rfl (by decide : ¬ ((3 : Int32) = (0 : Int32))) ?_
    show SG p e below s₁ (mkF m 63 #[lI x0, lI x1, lI x2, lI x3, lI x4, lI x5, lI x6, lI x7, lI x8, lI x9, lU, lU, lU, lU, lU, lU, lU] [(.int ((x3 &&& (2147483647 : Int32)) % (3 : Int32)))]) _
    rw [hc8]
    refine XS.istore X0.here hx rfl (hb hby at_63) rfl (l' := #[lI x0, lI x1, lI x2, lI x3, lI x4, lI x5, lI x6, lI x7, lI x8, lI x9, lV vI0, lU, lU, lU, lU, lU, lU]) rfl ?_
    refine st9 _ ?_
    refine qd X9 hx hby at_68 ?_
    refine qc X9 hx hby at_69 ?_
    refine st14 _ ?_
    refine qd X14 hx hby at_72 ?_
    refine qc X14 hx hby at_73 ?_
    refine qi X14 hx hby at_74 ?_
    refine st21 _ ?_
    show SG p e below T21 (mkF m 77 #[lI x0, lI x1, lI x2, lI x3, lI x4, lI x5, lI x6, lI x7, lI x8, lI x9, lV vI0, lU, lU, lU, lU, lU, lU] [(.ref b14), (.ref b9), (.ref b9)]) _
    refine qd X21 hx hby at_77 ?_
    refine qc X21 hx hby at_78 ?_
    refine qi X21 hx hby at_79 ?_
    refine st25 _ ?_
    refine st43.trans ?_
    refine XS.astore X43.here hx rfl (hb hby at_85) rfl rfl (l' := #[lI x0, lI x1, lI x2, lI x3, lI x4, lI x5, lI x6, lI x7, lI x8, lI x9, lV vI0, lR b9, lU, lU, lU, lU, lU]) rfl ?_
    refine st53 _ ?_
    refine qd X53 hx hby at_90 ?_
    refine qc X53 hx hby at_91 ?_
    refine st58 _ ?_
    refine qd X58 hx hby at_94 ?_
    refine qc X58 hx hby at_95 ?_
    refine qi X58 hx hby at_96 ?_
    refine st66 _ ?_
    refine qd X66 hx hby at_99 ?_
    refine qc X66 hx hby at_100 ?_
    refine qi X66 hx hby at_101 ?_
    refine st70 _ ?_
    refine st86.trans ?_
    refine XS.astore X86.here hx rfl (hb hby at_107) rfl rfl (l' := #[lI x0, lI x1, lI x2, lI x3, lI x4, lI x5, lI x6, lI x7, lI x8, lI x9, lV vI0, lR b9, lR b53, lU, lU, lU, lU]) rfl ?_
    refine st96 _ ?_
    refine qd X96 hx hby at_112 ?_
    refine qc X96 hx hby at_113 ?_
    refine st101 _ ?_
    refine qd X101 hx hby at_116 ?_
    show SG p e below T101 (mkF m 117 #[lI x0, lI x1, lI x2, lI x3, lI x4, lI x5, lI x6, lI x7, lI x8, lI x9, lV vI0, lR b9, lR b53, lU, lU, lU, lU] [(.ref b101), (.ref b101), (.ref b96), (.ref b96)]) _
    refine qc X101 hx hby at_117 ?_
    refine qi X101 hx hby at_118 ?_
    refine st109 _ ?_
    refine qd X109 hx hby at_121 ?_
    refine qc X109 hx hby at_122 ?_
    refine qi X109 hx hby at_123 ?_
    refine st113 _ ?_
    refine st129.trans ?_
    refine XS.astore X129.here hx rfl (hb hby at_129) rfl rfl (l' := #[lI x0, lI x1, lI x2, lI x3, lI x4, lI x5, lI x6, lI x7, lI x8, lI x9, lV vI0, lR b9, lR b53, lR b96, lU, lU, lU]) rfl ?_
    refine st139 _ ?_
    refine qd X139 hx hby at_134 ?_
    refine st150.trans ?_
    refine XS.astore X150.here hx rfl (hb hby at_138) rfl rfl (l' := #[lI x0, lI x1, lI x2, lI x3, lI x4, lI x5, lI x6, lI x7, lI x8, lI x9, lV vI0, lR b9, lR b53, lR b96, lR b139, lU, lU]) rfl ?_
    refine qi X150 hx hby at_140 ?_
    refine qc X150 hx hby at_142 ?_
    refine XS.icmpYes X150.here hx rfl (pc0 := 143) (pc' := 154) rfl (hb hby at_143) rfl (tlt (by decide : (0 : Int32) < (1 : Int32))).1 (by decide) (by decide) ?_
    refine qi X150 hx hby at_154 ?_
    refine qc X150 hx hby at_156 ?_
    refine XS.icmpYes X150.here hx rfl (pc0 := 157) (pc' := 168) rfl (hb hby at_157) rfl (tlt (by decide : (0 : Int32) < (2 : Int32))).1 (by decide) (by decide) ?_
    refine qi X150 hx hby at_168 ?_
    refine qi X150 hx hby at_170 ?_
    refine qi X150 hx hby at_172 ?_
    refine qi X150 hx hby at_174 ?_
    refine qi X150 hx hby at_176 ?_
    refine qi X150 hx hby at_178 ?_
    show SG p e below T150 (mkF m 180 #[lI x0, lI x1, lI x2, lI x3, lI x4, lI x5, lI x6, lI x7, lI x8, lI x9, lV vI0, lR b9, lR b53, lR b96, lR b139, lU, lU] [(.int x8), (.int x7), (.int x6), (.int x5), (.int x4), vI0]) _
    refine qi X150 hx hby at_180 ?_
    refine st156 _ ?_
    refine XS.astore X156.here hx rfl (hb hby at_185) rfl rfl (l' := #[lI x0, lI x1, lI x2, lI x3, lI x4, lI x5, lI x6, lI x7, lI x8, lI x9, lV vI0, lR b9, lR b53, lR b96, lR b139, lR b156_0, lU]) rfl ?_
    refine st168 _ ?_
    refine qd X168 hx hby at_190 ?_
    refine qa X168 hx hby at_191 ?_
    refine qa X168 hx hby at_193 ?_
    refine st183.trans ?_
    refine XS.astore X183.here hx rfl (hb hby at_198) rfl rfl (l' := #[lI x0, lI x1, lI x2, lI x3, lI x4, lI x5, lI x6, lI x7, lI x8, lI x9, lV vI0, lR b9, lR b53, lR b96, lR b139, lR b156_0, lR b168]) rfl ?_
    refine qa X183 hx hby at_200 ?_
    refine qa X183 hx hby at_202 ?_
    refine st242.trans ?_
    refine st262.trans ?_
    exact retN X262 hx (t := .boolean) hret (by simp) (hb hby at_210) hr
theorem d10_0 : DK cB10 0 (.aload_n 0) 1 := by decide +kernel
theorem d10_1 : DK cB10 1 (.dup) 1 := by decide +kernel
theorem d10_2 : DK cB10 2 (.getfield 63) 3 := by decide +kernel
theorem d10_5 : DK cB10 5 (.iconst 1) 1 := by decide +kernel
theorem d10_6 : DK cB10 6 (.iadd) 1 := by decide +kernel
theorem d10_7 : DK cB10 7 (.putfield 63) 3 := by decide +kernel
theorem d10_10 : DK cB10 10 (.aload_n 0) 1 := by decide +kernel
theorem d10_11 : DK cB10 11 (.aload_n 1) 1 := by decide +kernel
theorem d10_12 : DK cB10 12 (.aload_n 0) 1 := by decide +kernel
theorem d10_13 : DK cB10 13 (.getfield 9) 3 := by decide +kernel
theorem d10_16 : DK cB10 16 (.aload_n 0) 1 := by decide +kernel
theorem d10_17 : DK cB10 17 (.getfield 48) 3 := by decide +kernel
theorem d10_20 : DK cB10 20 (.invokevirtual 131) 3 := by decide +kernel
theorem d11_0 : DK cB11 0 (.iload_n 3) 1 := by decide +kernel
theorem d11_1 : DK cB11 1 (.aload_n 2) 1 := by decide +kernel
theorem d11_2 : DK cB11 2 (.arraylength) 1 := by decide +kernel
theorem d11_3 : DK cB11 3 (.if_icmp .ne 8) 3 := by decide +kernel
theorem d11_6 : DK cB11 6 (.aload_n 0) 1 := by decide +kernel
theorem d11_7 : DK cB11 7 (.invokevirtual 129) 3 := by decide +kernel
theorem d12_0 : DK cB12 0 (.aload_n 0) 1 := by decide +kernel
theorem d12_1 : DK cB12 1 (.aload_n 0) 1 := by decide +kernel
theorem d12_2 : DK cB12 2 (.getfield 48) 3 := by decide +kernel
theorem d12_5 : DK cB12 5 (.iconst 1) 1 := by decide +kernel
theorem d12_6 : DK cB12 6 (.iadd) 1 := by decide +kernel
theorem d12_7 : DK cB12 7 (.invokevirtual 69) 3 := by decide +kernel
theorem d13_0 : DK cB13 0 (.aload_n 0) 1 := by decide +kernel
theorem d13_1 : DK cB13 1 (.getfield 9) 3 := by decide +kernel
theorem d13_4 : DK cB13 4 (.arraylength) 1 := by decide +kernel
theorem d13_5 : DK cB13 5 (.istore_n 2) 1 := by decide +kernel
theorem d13_6 : DK cB13 6 (.iload_n 2) 1 := by decide +kernel
theorem d13_7 : DK cB13 7 (.ifCond .gt 13) 3 := by decide +kernel
theorem d13_10 : DK cB13 10 (.aload_n 0) 1 := by decide +kernel
theorem d13_11 : DK cB13 11 (.getfield 9) 3 := by decide +kernel
theorem d13_14 : DK cB13 14 (.getstatic 39) 3 := by decide +kernel
theorem d13_17 : DK cB13 17 (.if_acmp .eq 28) 3 := by decide +kernel
theorem d13_45 : DK cB13 45 (.aload_n 0) 1 := by decide +kernel
theorem d13_46 : DK cB13 46 (.bipush 10) 2 := by decide +kernel
theorem d13_48 : DK cB13 48 (.iload_n 1) 1 := by decide +kernel
theorem d13_49 : DK cB13 49 (.invokestatic 79) 3 := by decide +kernel
theorem d14_5 : DK cB14 5 (.iload_n 0) 1 := by decide +kernel
theorem d14_6 : DK cB14 6 (.goto 4) 3 := by decide +kernel
def Q14_3 (Z : State)  (h0 : Heap) (n0 : Nat) (v : Option Value) (h : Heap) (L : List Loc) : Prop := v = some vI10 ∧ Fr n0 L ∧ h = h0
theorem rm14_3 (l : Launch) (Z : State) (a0 : Array Value) (hw : own_HW a0 Z) (ws : List Jvm.Cond)  (h0 : Heap) (n0 : Nat) (O0 : Old Z n0 h0) :
    own_MF l mN15 jdk_29_method_65_code 2 (some .int) ws rR0_0_0_0 Z h0 #[vI10, vI1] (Q14_3 Z  h0 n0) := by
  refine own_open (Jvm.Free.JP.mathPlain rfl (by decide +kernel)) (L0 := #[lV vI10, lV vI1]) (fun _ => by first | (simp [entryFrame, mkF, argsToLocals, Value.category]; done) | rfl) ?_
  intro p e s m below meth c s₁ hx hby hml hret hnn hZ hown X0 e0
  have N0 := Fr.nil n0
  refine ⟨some vI10, _, _, _, _, nofun, X0, by decide, by decide, ?_, fun fs hr => ?_⟩
  · rw [e0]; exact ⟨rfl, N0, rfl⟩
  · show SG p e below s₁ (mkF m 0 #[lV vI10, lV vI1] []) _
    refine qiN X0 hx hby d14_0 ?_
    refine qiN X0 hx hby d14_1 ?_
    refine XS.icmpNo X0.here hx rfl (hb hby d14_2) rfl (flt (by decide : ¬ ((10 : Int32) < (1 : Int32)))).1 ?_
    refine qiN X0 hx hby d14_5 ?_
    refine XS.goto X0.here hx rfl (pc0 := 6) (pc' := 10) rfl (hb hby d14_6) (by decide) (by decide) ?_
    exact retOut X0 hx (i := .ireturn) hret rfl (Or.inl ⟨rfl, Or.inl rfl, _, rfl⟩) (hb hby d14_10) hr
theorem d13_52 : DK cB13 52 (.anewarray 7) 3 := by decide +kernel
theorem d13_55 : DK cB13 55 (.dup_x1) 1 := by decide +kernel
theorem d13_56 : DK cB13 56 (.putfield 9) 3 := by decide +kernel
theorem d13_59 : DK cB13 59 (.areturn) 1 := by decide +kernel
def Q13_1 (Z : State) (r0 : Addr) (h0 : Heap) (n0 : Nat) (v : Option Value) (h : Heap) (L : List Loc) : Prop := ∃ (b11 : Addr) (k11 : ClassId), v = some (.ref b11) ∧ Fr n0 L ∧ Keep h0 h [r0] ∧ Fld Z h r0 cs2 cs3 cs4 (.ref b11) ∧ Fld Z h r0 cs2 "size" "I" vI0 ∧ Fld Z h r0 cs1 "modCount" "I" vI1 ∧ h0.size ≤ b11 ∧ Arv Z h b11 k11 (.object cs5) (10 : Int32) [.null, .null, .null, .null, .null, .null, .null, .null, .null, .null] .null ∧ Exa Z h b11 cs4 ∧ Ovr Z k11 cs5
theorem rm13_1 (l : Launch) (Z : State) (a0 : Array Value) (hw : own_HW a0 Z) (ws : List Jvm.Cond) (r0 r1 : Addr) (c2 : ClassId) (h0 : Heap) (n0 : Nat) (O0 : Old Z n0 h0) (f1 : Fld Z h0 r0 cs2 cs3 cs4 (.ref r1)) (f3 : Arv Z Z.heap r1 c2 (.object cs5) (0 : Int32) [] .null) (f7 : Sta Z Z.heap cs2 cs6 cs4 (.ref r1)) (f12 : Exa Z h0 r0 cs2) (g15 : n0 ≤ r0) (f17 : Fld Z h0 r0 cs2 "size" "I" vI0) (f19 : Fld Z h0 r0 cs1 "modCount" "I" vI1) (l21 : r0 < h0.size) :
    own_MF l mN49 jdk_38_method_6_code 4 (some (.array (.object cs5))) ws rR1_1_10_14 Z h0 #[(.ref r0), vI1] (Q13_1 Z r0 h0 n0) := by
  refine own_open (plainFor_of_name pn_java_util_ArrayList) (L0 := #[lR r0, lV vI1, lU, lU]) (fun _ => by first | (simp [entryFrame, mkF, argsToLocals, Value.category]; done) | rfl) ?_
  intro p e s m below meth c s₁ hx hby hml hret hnn hZ hown X0 e0
  have N0 := Fr.nil n0; have w := @ww Z a0 hw
  obtain ⟨T2, X2, e2, st2⟩ := getF X0 hx hZ hown (host := "") (Or.inl (w 53 rfl)) Via.refl e0 f1 (g := (mkF m 1 #[lR r0, lV vI1, lU, lU] [(.ref r0)])) rfl rfl (hb hby d13_1)
  have f4 := f3.ext O0.2
  obtain ⟨clq5, Arq5, qq5, Sq5, Nq5, Hq5, Gq5⟩ := id f4
  obtain ⟨T6, X6, e6, st6⟩ := getF X2 hx hZ hown (host := "") (Or.inl (w 53 rfl)) Via.refl e2 f1 (g := (mkF m 11 #[lR r0, lV vI1, lV vI0, lU] [(.ref r0)])) rfl rfl (hb hby d13_11)
  have f8 := f7.ext O0.2
  obtain ⟨T9, X9, e9, st9⟩ := getS2 X6 hx hZ hown (host := "") (Or.inl (w 52 rfl)) Via.refl e6 f8 (g := (mkF m 14 #[lR r0, lV vI1, lV vI0, lU] [(.ref r1)])) rfl (hb hby d13_14)
  obtain ⟨_, T10, Lc10, X10, hQ10, st10⟩ := own_cS X9 hx hZ hown e9 (rm14_3 l Z a0 hw [] h0 n0 O0) (w 79 rfl) (w 80 rfl) (w 81 rfl) (w 82 rfl) (by decide) (W := 1) (by decide) (by decide) (by decide) (by decide) (g := (mkF m 49 #[lR r0, lV vI1, lV vI0, lU] [vI1, vI10, (.ref r0)])) rfl (by rw [hml]; rfl) (argsL := [vI10, vI1]) (rest := [(.ref r0)]) (lenOf pd__II_I rfl) rfl (own_W rfl) (hb hby d13_49)
  obtain ⟨rfl, N10q, E10⟩ := hQ10
  have N10 := Fr.app N0 N10q
  obtain ⟨T11, h11, k11, X11, e11, E11, A11, B11, O11, st11⟩ := newRE X10 hx hZ hown (w 83 rfl) (w 84 rfl) E10 (g := (mkF m 52 #[lR r0, lV vI1, lV vI0, lU] [vI10, (.ref r0)])) rfl (hb hby d13_52) rfl (by decide) (cap := 10) (by decide) (by decide) (by decide) (by decide) (ad := cs4) rfl
  obtain ⟨b11, g11⟩ : ∃ z, z = h0.size := ⟨_, rfl⟩
  rw [← g11] at A11 B11 st11
  have V11 : Arv Z h11 b11 k11 (.object cs5) (10 : Int32) [.null, .null, .null, .null, .null, .null, .null, .null, .null, .null] .null := (Arv.new A11 (by decide)).pad (pad_rep [] .null 10)
  have f13 := (f12.ext E11)
  have f14 := (f1.ext E11)
  obtain ⟨T16, h16, X16, e16, W16, st16⟩ := putF X11 hx hZ hown (host := "") (Or.inl (w 53 rfl)) Via.refl e11 f14 f13 (Or.inl (w 54 rfl)) (w 32 rfl) (ty := (.array (.object cs5))) (by decide) rfl rfl (g := (mkF m 56 #[lR r0, lV vI1, lV vI0, lU] [(.ref b11), (.ref r0), (.ref b11)])) rfl rfl (hb hby d13_56)
  have Fw16 := f14.same W16
  have N16 := Fr.snoc X16 N10 g15
  have f18 := ((f17.ext E11).other W16 (Or.inr (slot_ne (Or.inl (w 63 rfl)) (Or.inl (w 54 rfl)) (by decide) (t := .int) (t' := (.array (.object cs5))) (by decide) (by decide))))
  have f20 := ((f19.ext E11).other W16 (Or.inr (slot_ne (Or.inl (w 51 rfl)) (Or.inl (w 54 rfl)) (by decide) (t := .int) (t' := (.array (.object cs5))) (by decide) (by decide))))
  have n22 := Nat.ne_of_lt (Nat.lt_of_lt_of_le l21 (Nat.le_of_eq g11.symm))
  have f23 := (V11.other W16 (Ne.symm n22))
  have f24 := (B11.wr W16)
  have kp25 : Keep h0 h11 [r0] := (Keep.refl h0 [r0]).ext E11
  have kp26 : Keep h0 h16 [r0] := kp25.wr W16 (Or.inl (List.mem_of_getElem? (i := 0) rfl))
  refine ⟨some (.ref b11), _, _, _, _, nofun, X16, by decide, by decide, ?_, fun fs hr => ?_⟩
  · rw [e16]; exact ⟨b11, k11, rfl, N16, kp26, Fw16, f18, f20, (Nat.le_of_eq g11.symm), f23, f24, O11⟩
  · show SG p e below s₁ (mkF m 0 #[lR r0, lV vI1, lU, lU] []) _
    refine qaN X0 hx hby d13_0 ?_
    refine st2 _ ?_
    refine X2.arraylength hx (by rw [e2]; exact Arq5.1) (State.isArrayOf_alike hZ.alike Arq5.2.1) (g := (mkF m 4 #[lR r0, lV vI1, lU, lU] [(.ref r1)])) rfl rfl (hb hby d13_4) _ ?_
    rw [len_of Sq5 Nq5]
    refine XS.istoreN X2.here hx rfl (hb hby d13_5) rfl (l' := #[lR r0, lV vI1, lV vI0, lU]) rfl ?_
    refine qiN X2 hx hby d13_6 ?_
    refine XS.ifNo X2.here hx rfl (hb hby d13_7) rfl ((if0 _ _).trans (flt (by decide : ¬ ((0 : Int32) < (0 : Int32)))).2.2.1) ?_
    refine qaN X2 hx hby d13_10 ?_
    refine st6 _ ?_
    refine st9 _ ?_
    refine Jvm.RoadKit.acmp (g := (mkF m 17 #[lR r0, lV vI1, lV vI0, lU] [(.ref r1), (.ref r1)])) X9 hx rfl rfl rfl (pc0 := 17) (pc' := 45) (same := true) rfl (hb hby d13_17) rfl (decide_eq_true rfl) (by decide) (by decide) ?_
    refine qaN X9 hx hby d13_45 ?_
    refine qb X9 hx hby d13_46 ?_
    refine qiN X9 hx hby d13_48 ?_
    refine st10 _ ?_
    refine st11 _ ?_
    refine XS.dupX1 X11.here hx rfl (hb hby d13_55) rfl rfl rfl ?_
    refine st16 _ ?_
    exact retOut X16 hx (i := .areturn) hret rfl (Or.inr (Or.inr (Or.inr (Or.inr ⟨rfl, rfl, rfl⟩)))) (hb hby d13_59) hr
theorem pd__I__Ljava_lang_Object_ : parseMethodDescriptor "(I)[Ljava/lang/Object;" = some ⟨[.int], some (.array (.object "java/lang/Object"))⟩ := by decide +kernel
theorem d12_10 : DK cB12 10 (.areturn) 1 := by decide +kernel
def Q12_1 (Z : State) (r0 : Addr) (h0 : Heap) (n0 : Nat) (v : Option Value) (h : Heap) (L : List Loc) : Prop := ∃ (b10_0 : Addr) (k10_0 : ClassId), v = some (.ref b10_0) ∧ Fr n0 L ∧ Keep h0 h [r0] ∧ Fld Z h r0 cs2 cs3 cs4 (.ref b10_0) ∧ Fld Z h r0 cs2 "size" "I" vI0 ∧ Fld Z h r0 cs1 "modCount" "I" vI1 ∧ h0.size ≤ b10_0 ∧ Arv Z h b10_0 k10_0 (.object cs5) (10 : Int32) [.null, .null, .null, .null, .null, .null, .null, .null, .null, .null] .null ∧ Exa Z h b10_0 cs4 ∧ Ovr Z k10_0 cs5
theorem rm12_1 (l : Launch) (Z : State) (a0 : Array Value) (hw : own_HW a0 Z) (ws : List Jvm.Cond) (r0 r1 : Addr) (c2 : ClassId) (h0 : Heap) (n0 : Nat) (O0 : Old Z n0 h0) (f1 : Fld Z h0 r0 cs2 "size" "I" vI0) (f3 : Exa Z h0 r0 cs2) (f4 : Fld Z h0 r0 cs2 cs3 cs4 (.ref r1)) (f5 : Arv Z Z.heap r1 c2 (.object cs5) (0 : Int32) [] .null) (f6 : Sta Z Z.heap cs2 cs6 cs4 (.ref r1)) (g7 : n0 ≤ r0) (f8 : Fld Z h0 r0 cs1 "modCount" "I" vI1) (l9 : r0 < h0.size) :
    own_MF l mN50 jdk_38_method_7_code 1 (some (.array (.object cs5))) ws rR2_1_10_29 Z h0 #[(.ref r0)] (Q12_1 Z r0 h0 n0) := by
  refine own_open (plainFor_of_name pn_java_util_ArrayList) (L0 := #[lR r0]) (fun _ => by first | (simp [entryFrame, mkF, argsToLocals, Value.category]; done) | rfl) ?_
  intro p e s m below meth c s₁ hx hby hml hret hnn hZ hown X0 e0
  have N0 := Fr.nil n0; have w := @ww Z a0 hw
  obtain ⟨T2, X2, e2, st2⟩ := getF X0 hx hZ hown (host := "") (Or.inl (w 62 rfl)) Via.refl e0 f1 (g := (mkF m 2 #[lR r0] [(.ref r0), (.ref r0)])) rfl rfl (hb hby d12_2)
  obtain ⟨cqq11, qq11, qq11'⟩ := f3.cell
  obtain ⟨_, T10, Lc10, X10, hQ10, st10⟩ := own_fin (X2.privateBack hx (y := mN49) hown (mvT hZ (w 74 rfl)) (mvT hZ (w 75 rfl)) (mvT hZ (w 77 rfl)) (Cond.privateMethod_at (mvP hZ (w 76 rfl) (args := #[]))) (mvT hZ (w 78 rfl)) (by decide) (backOf (W := 0) (rm13_1 l Z a0 hw [] r0 r1 c2 h0 n0 O0 f4 f5 f6 f3 g7 f1 f8 l9) hZ (w 78 rfl) (w 33 rfl) (by decide) (by decide)) (g := (mkF m 7 #[lR r0] [vI1, (.ref r0)])) rfl (by rw [hml]; rfl) (Steps.refl _) (a := r0) (by rw [e2]; exact qq11) qq11' (argsL := [vI1]) (rest := []) (lenOf pd__I__Ljava_lang_Object_ rfl) rfl (own_W rfl) (hb hby d12_7) (fun _ _ => ⟨rfl, e2, (by decide : 0 + 1 ≤ _), (by decide : 0 + 10 ≤ _)⟩))
  obtain ⟨b10_0, k10_0, rfl, N10q, K10, f12, f13, f14, f15, f16, f17, f18⟩ := hQ10
  have N10 := Fr.app N0 N10q
  have kp19 : Keep h0 T10.heap [r0] := (Keep.refl h0 [r0]).trans K10 (allS (Or.inl (List.mem_of_getElem? (i := 0) rfl)) all0)
  refine ⟨some (.ref b10_0), _, _, _, _, nofun, X10, by decide, by decide, ?_, fun fs hr => ?_⟩
  · exact ⟨b10_0, k10_0, rfl, N10, kp19, f12, f13, f14, f15, f16, f17, f18⟩
  · show SG p e below s₁ (mkF m 0 #[lR r0] []) _
    refine qaN X0 hx hby d12_0 ?_
    refine qaN X0 hx hby d12_1 ?_
    refine st2 _ ?_
    refine qc X2 hx hby d12_5 ?_
    refine XS.iadd X2.here hx rfl (hb hby d12_6) rfl ?_
    refine st10.trans ?_
    exact retOut X10 hx (i := .areturn) hret rfl (Or.inr (Or.inr (Or.inr (Or.inr ⟨rfl, rfl, rfl⟩)))) (hb hby d12_10) hr
theorem pd____Ljava_lang_Object_ : parseMethodDescriptor "()[Ljava/lang/Object;" = some ⟨[], some (.array (.object "java/lang/Object"))⟩ := by decide +kernel
theorem d11_10 : DK cB11 10 (.astore_n 2) 1 := by decide +kernel
theorem d11_11 : DK cB11 11 (.aload_n 2) 1 := by decide +kernel
theorem d11_12 : DK cB11 12 (.iload_n 3) 1 := by decide +kernel
theorem d11_13 : DK cB11 13 (.aload_n 1) 1 := by decide +kernel
theorem d11_14 : DK cB11 14 (.aastore) 1 := by decide +kernel
theorem d11_15 : DK cB11 15 (.aload_n 0) 1 := by decide +kernel
theorem d11_16 : DK cB11 16 (.iload_n 3) 1 := by decide +kernel
theorem d11_17 : DK cB11 17 (.iconst 1) 1 := by decide +kernel
theorem d11_18 : DK cB11 18 (.iadd) 1 := by decide +kernel
theorem d11_19 : DK cB11 19 (.putfield 48) 3 := by decide +kernel
theorem d11_22 : DK cB11 22 (.return_) 1 := by decide +kernel
def Q11_1 (Z : State) (r0 r1 : Addr) (h0 : Heap) (n0 : Nat) (v : Option Value) (h : Heap) (L : List Loc) : Prop := ∃ (b11_0 : Addr) (k11_0 : ClassId), v = none ∧ Fr n0 L ∧ Keep h0 h [r0] ∧ Fld Z h r0 cs2 cs3 cs4 (.ref b11_0) ∧ Fld Z h r0 cs2 "size" "I" vI1 ∧ Fld Z h r0 cs1 "modCount" "I" vI1 ∧ h0.size ≤ b11_0 ∧ Arv Z h b11_0 k11_0 (.object cs5) (10 : Int32) [(.ref r1), .null, .null, .null, .null, .null, .null, .null, .null, .null] .null ∧ Exa Z h b11_0 cs4 ∧ Ovr Z k11_0 cs5
theorem rm11_1 (l : Launch) (Z : State) (a0 : Array Value) (hw : own_HW a0 Z) (ws : List Jvm.Cond) (r0 r1 r2 : Addr) (c3 : ClassId) (h0 : Heap) (n0 : Nat) (O0 : Old Z n0 h0) (f1 : Arv Z Z.heap r2 c3 (.object cs5) (0 : Int32) [] .null) (f4 : Exa Z h0 r0 cs2) (f5 : Fld Z h0 r0 cs2 "size" "I" vI0) (f6 : Fld Z h0 r0 cs2 cs3 cs4 (.ref r2)) (f7 : Sta Z Z.heap cs2 cs6 cs4 (.ref r2)) (g8 : n0 ≤ r0) (f9 : Fld Z h0 r0 cs1 "modCount" "I" vI1) (l10 : r0 < h0.size) (f21 : Exa Z h0 r1 cs8) :
    own_MF l mN51 jdk_38_method_24_code 4 none ws rR3_1_10_41 Z h0 #[(.ref r0), (.ref r1), (.ref r2), vI0] (Q11_1 Z r0 r1 h0 n0) := by
  refine own_open (plainFor_of_name pn_java_util_ArrayList) (L0 := #[lR r0, lR r1, lR r2, lV vI0]) (fun _ => by first | (simp [entryFrame, mkF, argsToLocals, Value.category]; done) | rfl) ?_
  intro p e s m below meth c s₁ hx hby hml hret hnn hZ hown X0 e0
  have N0 := Fr.nil n0; have w := @ww Z a0 hw
  have f2 := f1.ext O0.2
  obtain ⟨clq3, Arq3, qq3, Sq3, Nq3, Hq3, Gq3⟩ := id f2
  obtain ⟨cqq12, qq12, qq12'⟩ := f4.cell
  obtain ⟨_, T11, Lc11, X11, hQ11, st11⟩ := own_fin (X0.privateBack hx (y := mN50) hown (mvT hZ (w 69 rfl)) (mvT hZ (w 70 rfl)) (mvT hZ (w 72 rfl)) (Cond.privateMethod_at (mvP hZ (w 71 rfl) (args := #[]))) (mvT hZ (w 73 rfl)) (by decide) (backOf (W := 0) (rm12_1 l Z a0 hw [] r0 r2 c3 h0 n0 O0 f5 f4 f6 f1 f7 g8 f9 l10) hZ (w 73 rfl) (w 33 rfl) (by decide) (by decide)) (g := (mkF m 7 #[lR r0, lR r1, lR r2, lV vI0] [(.ref r0)])) rfl (by rw [hml]; rfl) (Steps.refl _) (a := r0) (by rw [e0]; exact qq12) qq12' (argsL := []) (rest := []) (lenOf pd____Ljava_lang_Object_ rfl) rfl (own_W rfl) (hb hby d11_7) (fun _ _ => ⟨rfl, e0, (by decide : 0 + 1 ≤ _), (by decide : 0 + 10 ≤ _)⟩))
  obtain ⟨b11_0, k11_0, rfl, N11q, K11, f13, f14, f15, f16, f17, f18, f19⟩ := hQ11
  have N11 := Fr.app N0 N11q
  obtain ⟨clq20, Arq20, qq20, Sq20, Nq20, Hq20, Gq20⟩ := id f17
  have f22 := (f21.keep K11)
  have zz23 : n0 ≤ h0.size := by rw [← O0.1]; exact O0.2.1
  have g24 := Nat.le_trans zz23 f16
  obtain ⟨T25, h25, X25, e25, W25, st25⟩ := stR X11 hx hZ rfl Arq20 (j := (0 : Int32)) (inb_of Sq20 ⟨(by decide : ¬ ((0 : Int32) < (0 : Int32))), (by decide : (0 : Int32) < (10 : Int32))⟩) rfl (Sto.ofV Arq20 qq20 f19 (Ins.of_exa f22 (w 85 rfl))) (g := (mkF m 14 #[lR r0, lR r1, lR b11_0, lV vI0] [(.ref r1), vI0, (.ref b11_0)])) rfl rfl (hb hby d11_14)
  have V25 : Arv Z h25 b11_0 k11_0 (.object cs5) (10 : Int32) [(.ref r1), .null, .null, .null, .null, .null, .null, .null, .null, .null] .null := Arv.set Arq20 qq20 Sq20 Nq20 Hq20 Gq20 rfl W25 0 rfl (Nat.le_of_ble_eq_true rfl)
  have N25 := Fr.snoc X25 N11 g24
  have f26 := ((f4.keep K11).wr W25)
  have n27 := Nat.ne_of_lt (Nat.lt_of_lt_of_le l10 f16)
  have f28 := (f14.other W25 (Or.inl n27))
  obtain ⟨T29, h29, X29, e29, W29, st29⟩ := putF X25 hx hZ hown (host := "") (Or.inl (w 62 rfl)) Via.refl e25 f28 f26 (Or.inl (w 63 rfl)) (w 32 rfl) (ty := .int) (by decide) rfl rfl (g := (mkF m 19 #[lR r0, lR r1, lR b11_0, lV vI0] [vI1, (.ref r0)])) rfl rfl (hb hby d11_19)
  have Fw29 := f28.same W29
  have N29 := Fr.snoc X29 N25 g8
  have f30 := ((f13.other W25 (Or.inl n27)).other W29 (Or.inr (slot_ne (Or.inl (w 54 rfl)) (Or.inl (w 63 rfl)) (by decide) (t := (.array (.object cs5))) (t' := .int) (by decide) (by decide))))
  have f31 := ((f15.other W25 (Or.inl n27)).other W29 (Or.inr (slot_ne (Or.inl (w 51 rfl)) (Or.inl (w 63 rfl)) (by decide) (t := .int) (t' := .int) (by decide) (by decide))))
  have f32 := (V25.other W29 (Ne.symm n27))
  have f33 := ((f18.wr W25).wr W29)
  have kp34 : Keep h0 T11.heap [r0] := (Keep.refl h0 [r0]).trans K11 (allS (Or.inl (List.mem_of_getElem? (i := 0) rfl)) all0)
  have kp35 : Keep h0 h25 [r0] := kp34.wr W25 (Or.inr f16)
  have kp36 : Keep h0 h29 [r0] := kp35.wr W29 (Or.inl (List.mem_of_getElem? (i := 0) rfl))
  refine ⟨none, _, _, _, _, (fun _ => rfl), X29, by decide, by decide, ?_, fun fs hr => ?_⟩
  · rw [e29]; exact ⟨b11_0, k11_0, rfl, N29, kp36, f30, Fw29, f31, f16, f32, f33, f19⟩
  · show SG p e below s₁ (mkF m 0 #[lR r0, lR r1, lR r2, lV vI0] []) _
    refine qiN X0 hx hby d11_0 ?_
    refine qaN X0 hx hby d11_1 ?_
    refine X0.arraylength hx (by rw [e0]; exact Arq3.1) (State.isArrayOf_alike hZ.alike Arq3.2.1) (g := (mkF m 2 #[lR r0, lR r1, lR r2, lV vI0] [(.ref r2), vI0])) rfl rfl (hb hby d11_2) _ ?_
    rw [len_of Sq3 Nq3]
    refine XS.icmpNo X0.here hx rfl (hb hby d11_3) rfl (teq (rfl : (0 : Int32) = (0 : Int32))).2 ?_
    refine qaN X0 hx hby d11_6 ?_
    refine st11.trans ?_
    refine XS.astoreN X11.here hx rfl (hb hby d11_10) rfl rfl (l' := #[lR r0, lR r1, lR b11_0, lV vI0]) rfl ?_
    refine qaN X11 hx hby d11_11 ?_
    refine qiN X11 hx hby d11_12 ?_
    refine qaN X11 hx hby d11_13 ?_
    refine st25 _ ?_
    refine qaN X25 hx hby d11_15 ?_
    refine qiN X25 hx hby d11_16 ?_
    refine qc X25 hx hby d11_17 ?_
    refine XS.iadd X25.here hx rfl (hb hby d11_18) rfl ?_
    refine st29 _ ?_
    exact X29.returnOut hx hret (hb hby d11_22) hr
theorem pd__Ljava_lang_Object__Ljava_lang_Object_I_V : parseMethodDescriptor "(Ljava/lang/Object;[Ljava/lang/Object;I)V" = some ⟨[(.object "java/lang/Object"), (.array (.object "java/lang/Object")), .int], none⟩ := by decide +kernel
theorem d10_23 : DK cB10 23 (.iconst 1) 1 := by decide +kernel
theorem d10_24 : DK cB10 24 (.ireturn) 1 := by decide +kernel
def Q10_1 (Z : State) (r0 r1 : Addr) (h0 : Heap) (n0 : Nat) (v : Option Value) (h : Heap) (L : List Loc) : Prop := ∃ (b20_0 : Addr) (k20_0 : ClassId), v = some vI1 ∧ Fr n0 L ∧ Keep h0 h [r0] ∧ Fld Z h r0 cs2 cs3 cs4 (.ref b20_0) ∧ Fld Z h r0 cs2 "size" "I" vI1 ∧ Fld Z h r0 cs1 "modCount" "I" vI1 ∧ h0.size ≤ b20_0 ∧ Arv Z h b20_0 k20_0 (.object cs5) (10 : Int32) [(.ref r1), .null, .null, .null, .null, .null, .null, .null, .null, .null] .null ∧ Exa Z h b20_0 cs4 ∧ Ovr Z k20_0 cs5
theorem rm10_1 (l : Launch) (Z : State) (a0 : Array Value) (hw : own_HW a0 Z) (ws : List Jvm.Cond) (r0 r1 r2 : Addr) (c3 : ClassId) (h0 : Heap) (n0 : Nat) (O0 : Old Z n0 h0) (f1 : Fld Z h0 r0 cs1 "modCount" "I" vI0) (f3 : Exa Z h0 r0 cs2) (g4 : n0 ≤ r0) (f6 : Fld Z h0 r0 cs2 cs3 cs4 (.ref r2)) (f9 : Fld Z h0 r0 cs2 "size" "I" vI0) (f12 : Arv Z Z.heap r2 c3 (.object cs5) (0 : Int32) [] .null) (f14 : Sta Z Z.heap cs2 cs6 cs4 (.ref r2)) (l15 : r0 < h0.size) (f17 : Exa Z h0 r1 cs8) :
    own_MF l mN52 jdk_38_method_25_code 2 (some .boolean) ws rR4_1_10_56 Z h0 #[(.ref r0), (.ref r1)] (Q10_1 Z r0 r1 h0 n0) := by
  refine own_open (plainFor_of_name pn_java_util_ArrayList) (L0 := #[lR r0, lR r1]) (fun _ => by first | (simp [entryFrame, mkF, argsToLocals, Value.category]; done) | rfl) ?_
  intro p e s m below meth c s₁ hx hby hml hret hnn hZ hown X0 e0
  have N0 := Fr.nil n0; have w := @ww Z a0 hw
  obtain ⟨T2, X2, e2, st2⟩ := getF X0 hx hZ hown (host := "") (Or.inl (w 60 rfl)) (Via.of (w 61 rfl)) e0 f1 (g := (mkF m 2 #[lR r0, lR r1] [(.ref r0), (.ref r0)])) rfl rfl (hb hby d10_2)
  obtain ⟨T5, h5, X5, e5, W5, st5⟩ := putF X2 hx hZ hown (host := "") (Or.inl (w 60 rfl)) (Via.of (w 61 rfl)) e2 f1 f3 (Or.inl (w 51 rfl)) (w 32 rfl) (ty := .int) (by decide) rfl rfl (g := (mkF m 7 #[lR r0, lR r1] [vI1, (.ref r0)])) rfl rfl (hb hby d10_7)
  have Fw5 := f1.same W5
  have N5 := Fr.snoc X5 N0 g4
  have f7 := (f6.other W5 (Or.inr (slot_ne (Or.inl (w 54 rfl)) (Or.inl (w 51 rfl)) (by decide) (t := (.array (.object cs5))) (t' := .int) (by decide) (by decide))))
  obtain ⟨T8, X8, e8, st8⟩ := getF X5 hx hZ hown (host := "") (Or.inl (w 53 rfl)) Via.refl e5 f7 (g := (mkF m 13 #[lR r0, lR r1] [(.ref r0), (.ref r1), (.ref r0)])) rfl rfl (hb hby d10_13)
  have f10 := (f9.other W5 (Or.inr (slot_ne (Or.inl (w 63 rfl)) (Or.inl (w 51 rfl)) (by decide) (t := .int) (t' := .int) (by decide) (by decide))))
  obtain ⟨T11, X11, e11, st11⟩ := getF X8 hx hZ hown (host := "") (Or.inl (w 62 rfl)) Via.refl e8 f10 (g := (mkF m 17 #[lR r0, lR r1] [(.ref r0), (.ref r2), (.ref r1), (.ref r0)])) rfl rfl (hb hby d10_17)
  have f13 := (f3.wr W5)
  have zs16 := (Nat.le_of_eq W5.size.symm)
  have f18 := (f17.wr W5)
  have o19 := Old.wr O0 W5 g4
  obtain ⟨cqq21, qq21, qq21'⟩ := f13.cell
  obtain ⟨_, T20, Lc20, X20, hQ20, st20⟩ := own_fin (X11.privateBack hx (y := mN51) hown (mvT hZ (w 64 rfl)) (mvT hZ (w 65 rfl)) (mvT hZ (w 67 rfl)) (Cond.privateMethod_at (mvP hZ (w 66 rfl) (args := #[]))) (mvT hZ (w 68 rfl)) (by decide) (backOf (W := 0) (rm11_1 l Z a0 hw [] r0 r1 r2 c3 h5 n0 o19 f12 f13 f10 f7 f14 g4 Fw5 (Nat.lt_of_lt_of_le l15 zs16) f18) hZ (w 68 rfl) (w 33 rfl) (by decide) (by decide)) (g := (mkF m 20 #[lR r0, lR r1] [vI0, (.ref r2), (.ref r1), (.ref r0)])) rfl (by rw [hml]; rfl) (Steps.refl _) (a := r0) (by rw [e11]; exact qq21) qq21' (argsL := [(.ref r1), (.ref r2), vI0]) (rest := []) (lenOf pd__Ljava_lang_Object__Ljava_lang_Object_I_V rfl) rfl (own_W rfl) (hb hby d10_20) (fun _ _ => ⟨rfl, e11, (by decide : 0 + 1 ≤ _), (by decide : 0 + 10 ≤ _)⟩))
  obtain ⟨b20_0, k20_0, rfl, N20q, K20, f22, f23, f24, f25, f26, f27, f28⟩ := hQ20
  have N20 := Fr.app N5 N20q
  have kp29 : Keep h0 h5 [r0] := (Keep.refl h0 [r0]).wr W5 (Or.inl (List.mem_of_getElem? (i := 0) rfl))
  have kp30 : Keep h0 T20.heap [r0] := kp29.trans K20 (allS (Or.inl (List.mem_of_getElem? (i := 0) rfl)) all0)
  refine ⟨some vI1, _, _, _, _, nofun, X20, by decide, by decide, ?_, fun fs hr => ?_⟩
  · exact ⟨b20_0, k20_0, rfl, N20, kp30, f22, f23, f24, (Nat.le_trans zs16 f25), f26, f27, f28⟩
  · show SG p e below s₁ (mkF m 0 #[lR r0, lR r1] []) _
    refine qaN X0 hx hby d10_0 ?_
    refine qd X0 hx hby d10_1 ?_
    refine st2 _ ?_
    refine qc X2 hx hby d10_5 ?_
    refine XS.iadd X2.here hx rfl (hb hby d10_6) rfl ?_
    refine st5 _ ?_
    refine qaN X5 hx hby d10_10 ?_
    refine qaN X5 hx hby d10_11 ?_
    refine qaN X5 hx hby d10_12 ?_
    refine st8 _ ?_
    refine qaN X8 hx hby d10_16 ?_
    refine st11 _ ?_
    refine st20.trans ?_
    refine qc X20 hx hby d10_23 ?_
    exact retN X20 hx (t := .boolean) hret (by simp) (hb hby d10_24) hr
theorem d15_272 : DK cB15 272 (.iload_n 0) 1 := by decide +kernel
theorem d15_273 : DK cB15 273 (.iconst 1) 1 := by decide +kernel
theorem d15_274 : DK cB15 274 (.if_icmp .ne 282) 3 := by decide +kernel
theorem d15_277 : DK cB15 277 (.new 8) 3 := by decide +kernel
theorem d15_280 : DK cB15 280 (.dup) 1 := by decide +kernel
theorem d15_281 : DK cB15 281 (.bipush 46) 2 := by decide +kernel
theorem d15_283 : DK cB15 283 (.newarray .char) 2 := by decide +kernel
theorem pl15_285 : own_plan method_3_code (46 : Int32) 46 46 285 = some ([(0, .inl 73), (1, .inl 110), (2, .inl 116), (3, .inl 101), (4, .inl 114), (5, .inl 110), (6, .inl 97), (7, .inl 108), (8, .inl 67), (9, .inl 97), (10, .inl 108), (11, .inl 108), (12, .inl 68), (13, .inl 101), (14, .inl 116), (15, .inl 97), (16, .inl 105), (17, .inl 108), (18, .inl 115), (19, .inl 32), (20, .inl 91), (21, .inl 107), (22, .inl 101), (23, .inl 121), (24, .inl 61), (25, .inr 1), (26, .inr 2), (27, .inl 44), (28, .inl 32), (29, .inl 97), (30, .inl 117), (31, .inl 116), (32, .inl 104), (33, .inl 111), (34, .inl 114), (35, .inl 105), (36, .inl 116), (37, .inl 105), (38, .inl 101), (39, .inl 115), (40, .inl 61), (41, .inl 91), (42, .inr 3), (43, .inr 4), (44, .inl 93), (45, .inl 93)], 552) := by decide +kernel
theorem d15_552 : DK cB15 552 (.invokespecial 10) 3 := by decide +kernel
theorem d15_555 : DK cB15 555 (.areturn) 1 := by decide +kernel
def Q15_2 (Z : State) (x0 x1 : Int32) (x2 x3 : Int32) (h0 : Heap) (n0 : Nat) (v : Option Value) (h : Heap) (L : List Loc) : Prop := ∃ (b1 b24_0 : Addr) (k24_0 : ClassId), v = some (.ref b1) ∧ Fr n0 L ∧ Keep h0 h [] ∧ h0.size ≤ b1 ∧ Exa Z h b1 cs8 ∧ Fld Z h b1 cs8 "coder" "B" vI0 ∧ Fld Z h b1 cs8 "value" "[B" (.ref b24_0) ∧ h0.size ≤ b24_0 ∧ Arv Z h b24_0 k24_0 .byte (46 : Int32) [vI73, vI110, vI116, vI101, vI114, vI110, vI97, vI108, vI67, vI97, vI108, vI108, vI68, vI101, vI116, vI97, vI105, vI108, vI115, vI32, vI91, vI107, vI101, vI121, vI61, (.int ((nar .char x0).toInt8.toInt32)), (.int ((nar .char x1).toInt8.toInt32)), vI44, vI32, vI97, vI117, vI116, vI104, vI111, vI114, vI105, vI116, vI105, vI101, vI115, vI61, vI91, (.int ((nar .char x2).toInt8.toInt32)), (.int ((nar .char x3).toInt8.toInt32)), vI93, vI93] vI0 ∧ Exa Z h b24_0 "[B" ∧ b1 ≠ b24_0
theorem rm15_2 (l : Launch) (Z : State) (a0 : Array Value) (hw : own_HW a0 Z) (ws : List Jvm.Cond) (x0 x1 : Int32) (x2 x3 : Int32) (x4 x5 x6 : Int32) (h0 : Heap) (n0 : Nat) (O0 : Old Z n0 h0) (f13 : Sta Z Z.heap cs8 cs9 "Z" (.int x6)) (hc17 : ¬ (x6 = (0 : Int32))) (hc20 : ¬ ((255 : Int32) < (nar .char x0))) (hc21 : ¬ ((255 : Int32) < (nar .char x1))) (hc22 : ¬ ((255 : Int32) < (nar .char x2))) (hc23 : ¬ ((255 : Int32) < (nar .char x3))) :
    own_MF l mN3 method_3_code 7 (some (.object cs8)) ws rR4_3_96_66 Z h0 #[vI1, (.int x0), (.int x1), (.int x2), (.int x3), (.int x4), (.int x5)] (Q15_2 Z x0 x1 x2 x3 h0 n0) := by
  refine own_open (plainFor_of_name pn_com_example_innerkey_innerkey_InternalCallDetailsToStringPinLaw) (L0 := #[lV vI1, lI x0, lI x1, lI x2, lI x3, lI x4, lI x5]) (fun _ => by first | (simp [entryFrame, mkF, argsToLocals, Value.category]; done) | rfl) ?_
  intro p e s m below meth c s₁ hx hby hml hret hnn hZ hown X0 e0
  have N0 := Fr.nil n0; have w := @ww Z a0 hw
  obtain ⟨T1, h1, X1, e1, E1, A1, D1, -, st1⟩ := newO X0 hx hZ hown (w 1 rfl) (w 2 rfl) (w 3 rfl) e0 (g := (mkF m 277 #[lV vI1, lI x0, lI x1, lI x2, lI x3, lI x4, lI x5] [])) rfl (hb hby d15_277) (by decide) (by decide)
  obtain ⟨b1, g1⟩ : ∃ z, z = h0.size := ⟨_, rfl⟩
  rw [← g1] at A1 D1 st1
  have f2 : Fld Z h1 b1 cs8 "coder" "B" vI0 := D1 (Or.inr (w 28 rfl)) (ty := .byte) (by decide)
  have f3 : Fld Z h1 b1 cs8 "value" "[B" .null := D1 (Or.inr (w 30 rfl)) (ty := (.array .byte)) (by decide)
  obtain ⟨T4, h4, k4, X4, e4, E4, A4, B4, st4⟩ := newPE X1 hx hZ (w 4 rfl) e1 (g := (mkF m 283 #[lV vI1, lI x0, lI x1, lI x2, lI x3, lI x4, lI x5] [vI46, (.ref b1), (.ref b1)])) rfl (hb hby d15_283) rfl (by decide) (cap := 46) (by decide) (by decide) (by decide) (by decide) (ad := "[C") rfl
  obtain ⟨b4, g4⟩ : ∃ z, z = h1.size := ⟨_, rfl⟩
  rw [← g4] at A4 B4 st4
  have V4 : Arv Z h4 b4 k4 .char (46 : Int32) [vI0, vI0, vI0, vI0, vI0, vI0, vI0, vI0, vI0, vI0, vI0, vI0, vI0, vI0, vI0, vI0, vI0, vI0, vI0, vI0, vI0, vI0, vI0, vI0, vI0, vI0, vI0, vI0, vI0, vI0, vI0, vI0, vI0, vI0, vI0, vI0, vI0, vI0, vI0, vI0, vI0, vI0, vI0, vI0, vI0, vI0] vI0 := (Arv.new A4 (by decide)).pad (pad_rep [] vI0 46)
  have o6 := Old.ext O0 E1
  have zz5 : n0 ≤ h1.size := by rw [← o6.1]; exact o6.2.1
  have g7 := Nat.le_trans zz5 (Nat.le_of_eq g4.symm)
  obtain ⟨T8, h8, L8, X8, e8, N8, K8, V8, st8⟩ := own_fill hx hZ hby g7 46 285 _ _ pl15_285 (rest := [(.ref b1), (.ref b1)]) (Ls := #[lV vI1, lI x0, lI x1, lI x2, lI x3, lI x4, lI x5]) X4 e4 (Keep.refl _ _) V4 N0 rfl (vs' := [vI73, vI110, vI116, vI101, vI114, vI110, vI97, vI108, vI67, vI97, vI108, vI108, vI68, vI101, vI116, vI97, vI105, vI108, vI115, vI32, vI91, vI107, vI101, vI121, vI61, (.int (nar .char x0)), (.int (nar .char x1)), vI44, vI32, vI97, vI117, vI116, vI104, vI111, vI114, vI105, vI116, vI105, vI101, vI115, vI61, vI91, (.int (nar .char x2)), (.int (nar .char x3)), vI93, vI93]) (by simp only [own_app, own_v2, List.set]; rfl)
  have f9 := ((A1.ext E4).keep K8)
  have n10 := Nat.ne_of_lt (Nat.lt_of_lt_of_le A1.lt (Nat.le_of_eq g4.symm))
  have f11 := ((f3.ext E4).keep K8 (ninS n10 nin0))
  have f12 := ((f2.ext E4).keep K8 (ninS n10 nin0))
  have o14 := Old.ext o6 E4
  have o15 := Old.keep o14 K8 (allS g7 all0)
  have f16 := f13.ext o15.2
  have zz18 : n0 ≤ h0.size := by rw [← O0.1]; exact O0.2.1
  have g19 := Nat.le_trans zz18 (Nat.le_of_eq g1.symm)
  obtain ⟨_, T24, Lc24, X24, hQ24, st24⟩ := own_fin (X8.specialBack hx (y := mN4) rfl hown (mvT hZ (w 5 rfl)) (mvT hZ (w 6 rfl)) (mvT hZ (w 7 rfl)) (by decide) (own_newStr hZ hw (w 2 rfl) (cs := [(73 : Int32), (110 : Int32), (116 : Int32), (101 : Int32), (114 : Int32), (110 : Int32), (97 : Int32), (108 : Int32), (67 : Int32), (97 : Int32), (108 : Int32), (108 : Int32), (68 : Int32), (101 : Int32), (116 : Int32), (97 : Int32), (105 : Int32), (108 : Int32), (115 : Int32), (32 : Int32), (91 : Int32), (107 : Int32), (101 : Int32), (121 : Int32), (61 : Int32), (nar .char x0), (nar .char x1), (44 : Int32), (32 : Int32), (97 : Int32), (117 : Int32), (116 : Int32), (104 : Int32), (111 : Int32), (114 : Int32), (105 : Int32), (116 : Int32), (105 : Int32), (101 : Int32), (115 : Int32), (61 : Int32), (91 : Int32), (nar .char x2), (nar .char x3), (93 : Int32), (93 : Int32)]) (n := 46) g19 f9 f11 f12 V8 f16 hc17 rfl rfl (by decide) (by decide) (own_acS (by decide : ¬ ((255 : Int32) < (73 : Int32))) (own_acS (by decide : ¬ ((255 : Int32) < (110 : Int32))) (own_acS (by decide : ¬ ((255 : Int32) < (116 : Int32))) (own_acS (by decide : ¬ ((255 : Int32) < (101 : Int32))) (own_acS (by decide : ¬ ((255 : Int32) < (114 : Int32))) (own_acS (by decide : ¬ ((255 : Int32) < (110 : Int32))) (own_acS (by decide : ¬ ((255 : Int32) < (97 : Int32))) (own_acS (by decide : ¬ ((255 : Int32) < (108 : Int32))) (own_acS (by decide : ¬ ((255 : Int32) < (67 : Int32))) (own_acS (by decide : ¬ ((255 : Int32) < (97 : Int32))) (own_acS (by decide : ¬ ((255 : Int32) < (108 : Int32))) (own_acS (by decide : ¬ ((255 : Int32) < (108 : Int32))) (own_acS (by decide : ¬ ((255 : Int32) < (68 : Int32))) (own_acS (by decide : ¬ ((255 : Int32) < (101 : Int32))) (own_acS (by decide : ¬ ((255 : Int32) < (116 : Int32))) (own_acS (by decide : ¬ ((255 : Int32) < (97 : Int32))) (own_acS (by decide : ¬ ((255 : Int32) < (105 : Int32))) (own_acS (by decide : ¬ ((255 : Int32) < (108 : Int32))) (own_acS (by decide : ¬ ((255 : Int32) < (115 : Int32))) (own_acS (by decide : ¬ ((255 : Int32) < (32 : Int32))) (own_acS (by decide : ¬ ((255 : Int32) < (91 : Int32))) (own_acS (by decide : ¬ ((255 : Int32) < (107 : Int32))) (own_acS (by decide : ¬ ((255 : Int32) < (101 : Int32))) (own_acS (by decide : ¬ ((255 : Int32) < (121 : Int32))) (own_acS (by decide : ¬ ((255 : Int32) < (61 : Int32))) (own_acS hc20 (own_acS hc21 (own_acS (by decide : ¬ ((255 : Int32) < (44 : Int32))) (own_acS (by decide : ¬ ((255 : Int32) < (32 : Int32))) (own_acS (by decide : ¬ ((255 : Int32) < (97 : Int32))) (own_acS (by decide : ¬ ((255 : Int32) < (117 : Int32))) (own_acS (by decide : ¬ ((255 : Int32) < (116 : Int32))) (own_acS (by decide : ¬ ((255 : Int32) < (104 : Int32))) (own_acS (by decide : ¬ ((255 : Int32) < (111 : Int32))) (own_acS (by decide : ¬ ((255 : Int32) < (114 : Int32))) (own_acS (by decide : ¬ ((255 : Int32) < (105 : Int32))) (own_acS (by decide : ¬ ((255 : Int32) < (116 : Int32))) (own_acS (by decide : ¬ ((255 : Int32) < (105 : Int32))) (own_acS (by decide : ¬ ((255 : Int32) < (101 : Int32))) (own_acS (by decide : ¬ ((255 : Int32) < (115 : Int32))) (own_acS (by decide : ¬ ((255 : Int32) < (61 : Int32))) (own_acS (by decide : ¬ ((255 : Int32) < (91 : Int32))) (own_acS hc22 (own_acS hc23 (own_acS (by decide : ¬ ((255 : Int32) < (93 : Int32))) (own_acS (by decide : ¬ ((255 : Int32) < (93 : Int32))) own_ac0)))))))))))))))))))))))))))))))))))))))))))))) (own_bsS (by decide : ((73 : Int32)).toInt8.toInt32 = (73 : Int32)) (own_bsS (by decide : ((110 : Int32)).toInt8.toInt32 = (110 : Int32)) (own_bsS (by decide : ((116 : Int32)).toInt8.toInt32 = (116 : Int32)) (own_bsS (by decide : ((101 : Int32)).toInt8.toInt32 = (101 : Int32)) (own_bsS (by decide : ((114 : Int32)).toInt8.toInt32 = (114 : Int32)) (own_bsS (by decide : ((110 : Int32)).toInt8.toInt32 = (110 : Int32)) (own_bsS (by decide : ((97 : Int32)).toInt8.toInt32 = (97 : Int32)) (own_bsS (by decide : ((108 : Int32)).toInt8.toInt32 = (108 : Int32)) (own_bsS (by decide : ((67 : Int32)).toInt8.toInt32 = (67 : Int32)) (own_bsS (by decide : ((97 : Int32)).toInt8.toInt32 = (97 : Int32)) (own_bsS (by decide : ((108 : Int32)).toInt8.toInt32 = (108 : Int32)) (own_bsS (by decide : ((108 : Int32)).toInt8.toInt32 = (108 : Int32)) (own_bsS (by decide : ((68 : Int32)).toInt8.toInt32 = (68 : Int32)) (own_bsS (by decide : ((101 : Int32)).toInt8.toInt32 = (101 : Int32)) (own_bsS (by decide : ((116 : Int32)).toInt8.toInt32 = (116 : Int32)) (own_bsS (by decide : ((97 : Int32)).toInt8.toInt32 = (97 : Int32)) (own_bsS (by decide : ((105 : Int32)).toInt8.toInt32 = (105 : Int32)) (own_bsS (by decide : ((108 : Int32)).toInt8.toInt32 = (108 : Int32)) (own_bsS (by decide : ((115 : Int32)).toInt8.toInt32 = (115 : Int32)) (own_bsS (by decide : ((32 : Int32)).toInt8.toInt32 = (32 : Int32)) (own_bsS (by decide : ((91 : Int32)).toInt8.toInt32 = (91 : Int32)) (own_bsS (by decide : ((107 : Int32)).toInt8.toInt32 = (107 : Int32)) (own_bsS (by decide : ((101 : Int32)).toInt8.toInt32 = (101 : Int32)) (own_bsS (by decide : ((121 : Int32)).toInt8.toInt32 = (121 : Int32)) (own_bsS (by decide : ((61 : Int32)).toInt8.toInt32 = (61 : Int32)) (own_bsS rfl (own_bsS rfl (own_bsS (by decide : ((44 : Int32)).toInt8.toInt32 = (44 : Int32)) (own_bsS (by decide : ((32 : Int32)).toInt8.toInt32 = (32 : Int32)) (own_bsS (by decide : ((97 : Int32)).toInt8.toInt32 = (97 : Int32)) (own_bsS (by decide : ((117 : Int32)).toInt8.toInt32 = (117 : Int32)) (own_bsS (by decide : ((116 : Int32)).toInt8.toInt32 = (116 : Int32)) (own_bsS (by decide : ((104 : Int32)).toInt8.toInt32 = (104 : Int32)) (own_bsS (by decide : ((111 : Int32)).toInt8.toInt32 = (111 : Int32)) (own_bsS (by decide : ((114 : Int32)).toInt8.toInt32 = (114 : Int32)) (own_bsS (by decide : ((105 : Int32)).toInt8.toInt32 = (105 : Int32)) (own_bsS (by decide : ((116 : Int32)).toInt8.toInt32 = (116 : Int32)) (own_bsS (by decide : ((105 : Int32)).toInt8.toInt32 = (105 : Int32)) (own_bsS (by decide : ((101 : Int32)).toInt8.toInt32 = (101 : Int32)) (own_bsS (by decide : ((115 : Int32)).toInt8.toInt32 = (115 : Int32)) (own_bsS (by decide : ((61 : Int32)).toInt8.toInt32 = (61 : Int32)) (own_bsS (by decide : ((91 : Int32)).toInt8.toInt32 = (91 : Int32)) (own_bsS rfl (own_bsS rfl (own_bsS (by decide : ((93 : Int32)).toInt8.toInt32 = (93 : Int32)) (own_bsS (by decide : ((93 : Int32)).toInt8.toInt32 = (93 : Int32)) own_bs0)))))))))))))))))))))))))))))))))))))))))))))) (by decide) (by decide : 1 + 65 ≤ _)) (g := (mkF m 552 #[lV vI1, lI x0, lI x1, lI x2, lI x3, lI x4, lI x5] [(.ref b4), (.ref b1), (.ref b1)])) rfl (by rw [hml]; rfl) (Steps.refl _) (a := b1) (argsL := [(.ref b4)]) (rest := [(.ref b1)]) (lenOf pd___C_V rfl) rfl (own_W rfl) (hb hby d15_552) (fun _ _ => ⟨rfl, e8, (by decide : 2 + 1 ≤ _), (by decide : 50 + 46 ≤ _)⟩))
  obtain ⟨b24_0, k24_0, rfl, N24q, K24, f25, f26, f27, f28, f29, f30⟩ := hQ24
  have N24 := Fr.app N8 N24q
  have f31 := (f9.keep K24)
  have zs32 := E1.1
  have zs33 := Nat.le_trans zs32 E4.1
  have zs34 := Nat.le_trans zs33 K8.1
  have zs35 := E4.1
  have zs36 := Nat.le_trans zs35 K8.1
  have n37 := Nat.ne_of_lt (Nat.lt_of_lt_of_le (Nat.lt_of_lt_of_le A1.lt zs36) f27)
  have kp38 : Keep h0 h1 [] := (Keep.refl h0 []).ext E1
  have kp39 : Keep h0 h4 [] := kp38.ext E4
  have kp40 : Keep h0 h8 [] := kp39.trans K8 (allS (Or.inr (Nat.le_trans zs32 (Nat.le_of_eq g4.symm))) all0)
  have kp41 : Keep h0 T24.heap [] := kp40.trans K24 (allS (Or.inr (Nat.le_of_eq g1.symm)) all0)
  refine ⟨some (.ref b1), _, _, _, _, nofun, X24, by decide, by decide, ?_, fun fs hr => ?_⟩
  · exact ⟨b1, b24_0, k24_0, rfl, N24, kp41, (Nat.le_of_eq g1.symm), f31, f25, f26, (Nat.le_trans zs34 f27), f28, f29, n37⟩
  · show SG p e below s₁ (mkF m 0 #[lV vI1, lI x0, lI x1, lI x2, lI x3, lI x4, lI x5] []) _
    refine qiN X0 hx hby d15_0 ?_
    refine XS.ifYes X0.here hx rfl (pc0 := 1) (pc' := 272) rfl (hb hby d15_1) rfl ((if0 _ _).trans (feq (by decide : ¬ ((1 : Int32) = (0 : Int32)))).2) (by decide) (by decide) ?_
    refine qiN X0 hx hby d15_272 ?_
    refine qc X0 hx hby d15_273 ?_
    refine XS.icmpNo X0.here hx rfl (hb hby d15_274) rfl (teq (rfl : (1 : Int32) = (1 : Int32))).2 ?_
    refine st1 _ ?_
    refine qd X1 hx hby d15_280 ?_
    refine qb X1 hx hby d15_281 ?_
    refine st4 _ ?_
    show SG p e below T4 (mkF m 285 #[lV vI1, lI x0, lI x1, lI x2, lI x3, lI x4, lI x5] [(.ref b4), (.ref b1), (.ref b1)]) _
    refine st8 _ ?_
    show SG p e below T8 (mkF m 552 #[lV vI1, lI x0, lI x1, lI x2, lI x3, lI x4, lI x5] [(.ref b4), (.ref b1), (.ref b1)]) _
    refine st24.trans ?_
    exact retOut X24 hx (i := .areturn) hret rfl (Or.inr (Or.inr (Or.inr (Or.inr ⟨rfl, rfl, rfl⟩)))) (hb hby d15_555) hr
theorem d19_11 : DK cB19 11 (.iconst 0) 1 := by decide +kernel
def Q19_2 (Z : State)  (h0 : Heap) (n0 : Nat) (v : Option Value) (h : Heap) (L : List Loc) : Prop := v = some vI0 ∧ Fr n0 L ∧ h = h0
theorem rm19_2 (l : Launch) (Z : State) (a0 : Array Value) (hw : own_HW a0 Z) (ws : List Jvm.Cond) (r0 : Addr) (h0 : Heap) (n0 : Nat) (O0 : Old Z n0 h0) (f1 : Fld Z h0 r0 cs2 "size" "I" vI1) :
    own_MF l mN5 jdk_38_method_9_code 1 (some .boolean) ws rR0_0_0_0 Z h0 #[(.ref r0)] (Q19_2 Z  h0 n0) := by
  refine own_open (plainFor_of_name pn_java_util_ArrayList) (L0 := #[lR r0]) (fun _ => by first | (simp [entryFrame, mkF, argsToLocals, Value.category]; done) | rfl) ?_
  intro p e s m below meth c s₁ hx hby hml hret hnn hZ hown X0 e0
  have N0 := Fr.nil n0
  obtain ⟨T2, X2, e2, st2⟩ := getF X0 hx hZ hown (host := "") (Or.inl (ww hw 62 rfl)) Via.refl e0 f1 (g := (mkF m 1 #[lR r0] [(.ref r0)])) rfl rfl (hb hby d19_1)
  refine ⟨some vI0, _, _, _, _, nofun, X2, by decide, by decide, ?_, fun fs hr => ?_⟩
  · rw [e2]; exact ⟨rfl, N0, rfl⟩
  · show SG p e below s₁ (mkF m 0 #[lR r0] []) _
    refine qaN X0 hx hby d19_0 ?_
    refine st2 _ ?_
    refine XS.ifYes X2.here hx rfl (pc0 := 4) (pc' := 11) rfl (hb hby d19_4) rfl ((if0 _ _).trans (feq (by decide : ¬ ((1 : Int32) = (0 : Int32)))).2) (by decide) (by decide) ?_
    refine qc X2 hx hby d19_11 ?_
    exact retN X2 hx (t := .boolean) hret (by simp) (hb hby d19_12) hr
theorem d18_44 : DK cB18 44 (.aload_n 0) 1 := by decide +kernel
theorem d18_45 : DK cB18 45 (.invokeinterface 30 1) 5 := by decide +kernel
theorem d20_0 : DK cB20 0 (.aload_n 0) 1 := by decide +kernel
theorem d20_1 : DK cB20 1 (.getfield 9) 3 := by decide +kernel
theorem d20_4 : DK cB20 4 (.aload_n 0) 1 := by decide +kernel
theorem d20_5 : DK cB20 5 (.getfield 48) 3 := by decide +kernel
theorem d20_8 : DK cB20 8 (.invokestatic 66) 3 := by decide +kernel
theorem d21_0 : DK cB21 0 (.aload_n 0) 1 := by decide +kernel
theorem d21_1 : DK cB21 1 (.iload_n 1) 1 := by decide +kernel
theorem d21_2 : DK cB21 2 (.aload_n 0) 1 := by decide +kernel
theorem d21_3 : DK cB21 3 (.invokevirtual 86) 3 := by decide +kernel
theorem d21_6 : DK cB21 6 (.invokestatic 300) 3 := by decide +kernel
theorem d22_0 : DK cB22 0 (.aload_n 2) 1 := by decide +kernel
theorem d22_1 : DK cB22 1 (.ldc 110) 2 := by decide +kernel
theorem d22_3 : DK cB22 3 (.if_acmp .ne 10) 3 := by decide +kernel
theorem d22_6 : DK cB22 6 (.iload_n 1) 1 := by decide +kernel
theorem d22_7 : DK cB22 7 (.anewarray 2) 3 := by decide +kernel
theorem d22_10 : DK cB22 10 (.goto 14) 3 := by decide +kernel
theorem d22_24 : DK cB22 24 (.astore_n 3) 1 := by decide +kernel
theorem d22_25 : DK cB22 25 (.aload_n 0) 1 := by decide +kernel
theorem d22_26 : DK cB22 26 (.iconst 0) 1 := by decide +kernel
theorem d22_27 : DK cB22 27 (.aload_n 3) 1 := by decide +kernel
theorem d22_28 : DK cB22 28 (.iconst 0) 1 := by decide +kernel
theorem d22_29 : DK cB22 29 (.aload_n 0) 1 := by decide +kernel
theorem d22_30 : DK cB22 30 (.arraylength) 1 := by decide +kernel
theorem d22_31 : DK cB22 31 (.iload_n 1) 1 := by decide +kernel
theorem d22_32 : DK cB22 32 (.invokestatic 304) 3 := by decide +kernel
theorem d22_35 : DK cB22 35 (.invokestatic 150) 3 := by decide +kernel
theorem d22_38 : DK cB22 38 (.aload_n 3) 1 := by decide +kernel
theorem d22_39 : DK cB22 39 (.areturn) 1 := by decide +kernel
def Q22_1 (Z : State) (r3 : Addr) (h0 : Heap) (n0 : Nat) (v : Option Value) (h : Heap) (L : List Loc) : Prop := ∃ (b3 : Addr) (k3 : ClassId), v = some (.ref b3) ∧ Fr n0 L ∧ Keep h0 h [] ∧ h0.size ≤ b3 ∧ Arv Z h b3 k3 (.object cs5) (1 : Int32) [(.ref r3)] .null ∧ Exa Z h b3 cs4 ∧ Ovr Z k3 cs5
theorem rm22_1 (l : Launch) (Z : State) (a0 : Array Value) (hw : own_HW a0 Z) (ws : List Jvm.Cond) (r0 r1 : Addr) (c2 : ClassId) (r3 : Addr) (h0 : Heap) (n0 : Nat) (O0 : Old Z n0 h0) (f1 : own_Mir Z cs4 r1) (f4 : Arv Z h0 r0 c2 (.object cs5) (10 : Int32) [(.ref r3), .null, .null, .null, .null, .null, .null, .null, .null, .null] .null) (f10 : Exa Z h0 r3 cs8) :
    own_MF l mN53 jdk_65_method_120_code 4 (some (.array (.object cs5))) ws rR1_1_1_24 Z h0 #[(.ref r0), vI1, (.ref r1)] (Q22_1 Z r3 h0 n0) := by
  refine own_open (plainFor_of_name pn_java_util_Arrays) (L0 := #[lR r0, lV vI1, lR r1, lU]) (fun _ => by first | (simp [entryFrame, mkF, argsToLocals, Value.category]; done) | rfl) ?_
  intro p e s m below meth c s₁ hx hby hml hret hnn hZ hown X0 e0
  have N0 := Fr.nil n0; have w := @ww Z a0 hw
  obtain ⟨T2, X2, e2, st2⟩ := own_ldcM X0 hx hZ hown (w 143 rfl) e0 f1 (g := (mkF m 1 #[lR r0, lV vI1, lR r1, lU] [(.ref r1)])) rfl (hb hby d22_1)
  obtain ⟨T3, h3, k3, X3, e3, E3, A3, B3, O3, st3⟩ := newRE X2 hx hZ hown (w 144 rfl) (w 84 rfl) e2 (g := (mkF m 7 #[lR r0, lV vI1, lR r1, lU] [vI1])) rfl (hb hby d22_7) rfl (by decide) (cap := 1) (by decide) (by decide) (by decide) (by decide) (ad := cs4) rfl
  obtain ⟨b3, g3⟩ : ∃ z, z = h0.size := ⟨_, rfl⟩
  rw [← g3] at A3 B3 st3
  have V3 : Arv Z h3 b3 k3 (.object cs5) (1 : Int32) [.null] .null := (Arv.new A3 (by decide)).pad (pad_rep [] .null 1)
  have f5 := (f4.ext E3)
  obtain ⟨clq6, Arq6, qq6, Sq6, Nq6, Hq6, Gq6⟩ := id f5
  have o7 := Old.ext O0 E3
  obtain ⟨_, T8, Lc8, X8, hQ8, st8⟩ := own_cS X3 hx hZ hown e3 (rm23_2 l Z a0 hw [] (10 : Int32) (1 : Int32) h3 n0 o7 (by decide)) (w 145 rfl) (w 146 rfl) (w 81 rfl) (w 147 rfl) (by decide) (W := 4) (by decide) (by decide) (by decide) (by decide) (g := (mkF m 32 #[lR r0, lV vI1, lR r1, lR b3] [vI1, vI10, vI0, (.ref b3), vI0, (.ref r0)])) rfl (by rw [hml]; rfl) (argsL := [vI10, vI1]) (rest := [vI0, (.ref b3), vI0, (.ref r0)]) (lenOf pd__II_I rfl) rfl (own_W rfl) (hb hby d22_32)
  obtain ⟨rfl, N8q, E8⟩ := hQ8
  have N8 := Fr.app N0 N8q
  obtain ⟨clq9, Arq9, qq9, Sq9, Nq9, Hq9, Gq9⟩ := id V3
  have f11 := (f10.ext E3)
  have zz12 : n0 ≤ h0.size := by rw [← O0.1]; exact O0.2.1
  have g13 := Nat.le_trans zz12 (Nat.le_of_eq g3.symm)
  obtain ⟨T14, h14, L14, X14, e14, N14, K14, B14, st14⟩ := cpA X8 hx hZ hown (w 148 rfl) (w 151 rfl) (w 149 rfl) (w 150 rfl) E8 f5 V3 (us := [(.ref r3)]) (Or.inr ⟨rfl, rfl, (And.intro (Sto.ofV Arq9 qq9 O3 (Ins.of_exa f11 (w 85 rfl))) trivial)⟩) (by decide) (by decide) (by decide) (by decide) (by decide) rfl (by decide) N8 g13 (g := (mkF m 35 #[lR r0, lV vI1, lR r1, lR b3] [vI1, vI0, (.ref b3), vI0, (.ref r0)])) rfl (by rw [hml]; rfl) rfl (hb hby d22_35) (by decide) (W := 0) (own_W rfl) (by decide)
  have V14 : Arv Z h14 b3 k3 (.object cs5) (1 : Int32) [(.ref r3)] .null := B14
  have f15 := (B3.keep K14)
  have kp16 : Keep h0 h3 [] := (Keep.refl h0 []).ext E3
  have kp17 : Keep h0 h14 [] := kp16.trans K14 (allS (Or.inr (Nat.le_of_eq g3.symm)) all0)
  refine ⟨some (.ref b3), _, _, _, _, nofun, X14, by decide, by decide, ?_, fun fs hr => ?_⟩
  · rw [e14]; exact ⟨b3, k3, rfl, N14, kp17, (Nat.le_of_eq g3.symm), V14, f15, O3⟩
  · show SG p e below s₁ (mkF m 0 #[lR r0, lV vI1, lR r1, lU] []) _
    refine qaN X0 hx hby d22_0 ?_
    refine st2 _ ?_
    refine Jvm.RoadKit.acmp (g := (mkF m 3 #[lR r0, lV vI1, lR r1, lU] [(.ref r1), (.ref r1)])) X2 hx rfl rfl rfl (pc0 := 3) (pc' := 6) (same := true) rfl (hb hby d22_3) rfl (decide_eq_true rfl) (by decide) (by decide) ?_
    refine qiN X2 hx hby d22_6 ?_
    refine st3 _ ?_
    refine XS.goto X3.here hx rfl (pc0 := 10) (pc' := 24) rfl (hb hby d22_10) (by decide) (by decide) ?_
    refine XS.astoreN X3.here hx rfl (hb hby d22_24) rfl rfl (l' := #[lR r0, lV vI1, lR r1, lR b3]) rfl ?_
    refine qaN X3 hx hby d22_25 ?_
    refine qc X3 hx hby d22_26 ?_
    refine qaN X3 hx hby d22_27 ?_
    refine qc X3 hx hby d22_28 ?_
    refine qaN X3 hx hby d22_29 ?_
    refine X3.arraylength hx (by rw [e3]; exact Arq6.1) (State.isArrayOf_alike hZ.alike Arq6.2.1) (g := (mkF m 30 #[lR r0, lV vI1, lR r1, lR b3] [(.ref r0), vI0, (.ref b3), vI0, (.ref r0)])) rfl rfl (hb hby d22_30) _ ?_
    rw [len_of Sq6 Nq6]
    refine qiN X3 hx hby d22_31 ?_
    refine st8 _ ?_
    refine st14 _ ?_
    refine qaN X14 hx hby d22_38 ?_
    exact retOut X14 hx (i := .areturn) hret rfl (Or.inr (Or.inr (Or.inr (Or.inr ⟨rfl, rfl, rfl⟩)))) (hb hby d22_39) hr
theorem pd___Ljava_lang_Object_ILjava_lang_Class___Ljava_lang_Object_ : parseMethodDescriptor "([Ljava/lang/Object;ILjava/lang/Class;)[Ljava/lang/Object;" = some ⟨[(.array (.object "java/lang/Object")), .int, (.object "java/lang/Class")], some (.array (.object "java/lang/Object"))⟩ := by decide +kernel
theorem d21_9 : DK cB21 9 (.areturn) 1 := by decide +kernel
def Q21_1 (Z : State) (r3 : Addr) (h0 : Heap) (n0 : Nat) (v : Option Value) (h : Heap) (L : List Loc) : Prop := ∃ (b6_0 : Addr) (k6_0 : ClassId), v = some (.ref b6_0) ∧ Fr n0 L ∧ Keep h0 h [] ∧ h0.size ≤ b6_0 ∧ Arv Z h b6_0 k6_0 (.object cs5) (1 : Int32) [(.ref r3)] .null ∧ Exa Z h b6_0 cs4 ∧ Ovr Z k6_0 cs5
theorem rm21_1 (l : Launch) (Z : State) (a0 : Array Value) (hw : own_HW a0 Z) (ws : List Jvm.Cond) (r0 r1 : Addr) (c2 : ClassId) (r3 : Addr) (h0 : Heap) (n0 : Nat) (O0 : Old Z n0 h0) (f1 : Exa Z h0 r0 cs4) (f2 : own_Mir Z cs4 r1) (f4 : Arv Z h0 r0 c2 (.object cs5) (10 : Int32) [(.ref r3), .null, .null, .null, .null, .null, .null, .null, .null, .null] .null) (f5 : Exa Z h0 r3 cs8) :
    own_MF l mN54 jdk_65_method_119_code 2 (some (.array (.object cs5))) ws rR2_1_1_39 Z h0 #[(.ref r0), vI1] (Q21_1 Z r3 h0 n0) := by
  refine own_open (plainFor_of_name pn_java_util_Arrays) (L0 := #[lR r0, lV vI1]) (fun _ => by first | (simp [entryFrame, mkF, argsToLocals, Value.category]; done) | rfl) ?_
  intro p e s m below meth c s₁ hx hby hml hret hnn hZ hown X0 e0
  have N0 := Fr.nil n0; have w := @ww Z a0 hw
  obtain ⟨T3, X3, e3, st3⟩ := own_gcls X0 hx hZ hown (w 134 rfl) (w 135 rfl) (w 111 rfl) (w 137 rfl) (w 136 rfl) (w 138 rfl) e0 f1 f2 (g := (mkF m 3 #[lR r0, lV vI1] [(.ref r0), vI1, (.ref r0)])) rfl (by rw [hml]; rfl) rfl (hb hby d21_3) (by decide) (W := 2) (own_W rfl) (by decide)
  obtain ⟨_, T6, Lc6, X6, hQ6, st6⟩ := own_cS X3 hx hZ hown e3 (rm22_1 l Z a0 hw [] r0 r1 c2 r3 h0 n0 O0 f2 f4 f5) (w 140 rfl) (w 141 rfl) (w 132 rfl) (w 142 rfl) (by decide) (W := 0) (by decide) (by decide) (by decide) (by decide) (g := (mkF m 6 #[lR r0, lV vI1] [(.ref r1), vI1, (.ref r0)])) rfl (by rw [hml]; rfl) (argsL := [(.ref r0), vI1, (.ref r1)]) (rest := []) (lenOf pd___Ljava_lang_Object_ILjava_lang_Class___Ljava_lang_Object_ rfl) rfl (own_W rfl) (hb hby d21_6)
  obtain ⟨b6_0, k6_0, rfl, N6q, K6, f7, f8, f9, f10⟩ := hQ6
  have N6 := Fr.app N0 N6q
  have kp11 : Keep h0 T6.heap [] := (Keep.refl h0 []).trans K6 all0
  refine ⟨some (.ref b6_0), _, _, _, _, nofun, X6, by decide, by decide, ?_, fun fs hr => ?_⟩
  · exact ⟨b6_0, k6_0, rfl, N6, kp11, f7, f8, f9, f10⟩
  · show SG p e below s₁ (mkF m 0 #[lR r0, lV vI1] []) _
    refine qaN X0 hx hby d21_0 ?_
    refine qiN X0 hx hby d21_1 ?_
    refine qaN X0 hx hby d21_2 ?_
    refine st3 _ ?_
    refine st6 _ ?_
    exact retOut X6 hx (i := .areturn) hret rfl (Or.inr (Or.inr (Or.inr (Or.inr ⟨rfl, rfl, rfl⟩)))) (hb hby d21_9) hr
theorem pd___Ljava_lang_Object_I__Ljava_lang_Object_ : parseMethodDescriptor "([Ljava/lang/Object;I)[Ljava/lang/Object;" = some ⟨[(.array (.object "java/lang/Object")), .int], some (.array (.object "java/lang/Object"))⟩ := by decide +kernel
theorem d20_11 : DK cB20 11 (.areturn) 1 := by decide +kernel
def Q20_1 (Z : State) (r4 : Addr) (h0 : Heap) (n0 : Nat) (v : Option Value) (h : Heap) (L : List Loc) : Prop := ∃ (b9_0 : Addr) (k9_0 : ClassId), v = some (.ref b9_0) ∧ Fr n0 L ∧ Keep h0 h [] ∧ h0.size ≤ b9_0 ∧ Arv Z h b9_0 k9_0 (.object cs5) (1 : Int32) [(.ref r4)] .null ∧ Exa Z h b9_0 cs4 ∧ Ovr Z k9_0 cs5
theorem rm20_1 (l : Launch) (Z : State) (a0 : Array Value) (hw : own_HW a0 Z) (ws : List Jvm.Cond) (r0 r1 r2 : Addr) (c3 : ClassId) (r4 : Addr) (h0 : Heap) (n0 : Nat) (O0 : Old Z n0 h0) (f1 : Fld Z h0 r0 cs2 cs3 cs4 (.ref r1)) (f3 : Fld Z h0 r0 cs2 "size" "I" vI1) (f5 : Exa Z h0 r1 cs4) (f6 : own_Mir Z cs4 r2) (f7 : Arv Z h0 r1 c3 (.object cs5) (10 : Int32) [(.ref r4), .null, .null, .null, .null, .null, .null, .null, .null, .null] .null) (f8 : Exa Z h0 r4 cs8) :
    own_MF l mN55 jdk_38_method_16_code 1 (some (.array (.object cs5))) ws rR3_1_1_52 Z h0 #[(.ref r0)] (Q20_1 Z r4 h0 n0) := by
  refine own_open (plainFor_of_name pn_java_util_ArrayList) (L0 := #[lR r0]) (fun _ => by first | (simp [entryFrame, mkF, argsToLocals, Value.category]; done) | rfl) ?_
  intro p e s m below meth c s₁ hx hby hml hret hnn hZ hown X0 e0
  have N0 := Fr.nil n0; have w := @ww Z a0 hw
  obtain ⟨T2, X2, e2, st2⟩ := getF X0 hx hZ hown (host := "") (Or.inl (w 53 rfl)) Via.refl e0 f1 (g := (mkF m 1 #[lR r0] [(.ref r0)])) rfl rfl (hb hby d20_1)
  obtain ⟨T4, X4, e4, st4⟩ := getF X2 hx hZ hown (host := "") (Or.inl (w 62 rfl)) Via.refl e2 f3 (g := (mkF m 5 #[lR r0] [(.ref r0), (.ref r1)])) rfl rfl (hb hby d20_5)
  obtain ⟨_, T9, Lc9, X9, hQ9, st9⟩ := own_cS X4 hx hZ hown e4 (rm21_1 l Z a0 hw [] r1 r2 c3 r4 h0 n0 O0 f5 f6 f7 f8) (w 130 rfl) (w 131 rfl) (w 132 rfl) (w 133 rfl) (by decide) (W := 0) (by decide) (by decide) (by decide) (by decide) (g := (mkF m 8 #[lR r0] [vI1, (.ref r1)])) rfl (by rw [hml]; rfl) (argsL := [(.ref r1), vI1]) (rest := []) (lenOf pd___Ljava_lang_Object_I__Ljava_lang_Object_ rfl) rfl (own_W rfl) (hb hby d20_8)
  obtain ⟨b9_0, k9_0, rfl, N9q, K9, f10, f11, f12, f13⟩ := hQ9
  have N9 := Fr.app N0 N9q
  have kp14 : Keep h0 T9.heap [] := (Keep.refl h0 []).trans K9 all0
  refine ⟨some (.ref b9_0), _, _, _, _, nofun, X9, by decide, by decide, ?_, fun fs hr => ?_⟩
  · exact ⟨b9_0, k9_0, rfl, N9, kp14, f10, f11, f12, f13⟩
  · show SG p e below s₁ (mkF m 0 #[lR r0] []) _
    refine qaN X0 hx hby d20_0 ?_
    refine st2 _ ?_
    refine qaN X2 hx hby d20_4 ?_
    refine st4 _ ?_
    refine st9 _ ?_
    exact retOut X9 hx (i := .areturn) hret rfl (Or.inr (Or.inr (Or.inr (Or.inr ⟨rfl, rfl, rfl⟩)))) (hb hby d20_11) hr
theorem d18_50 : DK cB18 50 (.invokestatic 34) 3 := by decide +kernel
theorem d24_0 : DK cB24 0 (.aload_n 0) 1 := by decide +kernel
theorem d24_1 : DK cB24 1 (.arraylength) 1 := by decide +kernel
theorem d24_2 : DK cB24 2 (.tableswitch 57 0 2 #[26, 32, 43]) 26 := by decide +kernel
theorem d24_34 : DK cB24 34 (.new 96) 3 := by decide +kernel
theorem d24_37 : DK cB24 37 (.dup) 1 := by decide +kernel
theorem d24_38 : DK cB24 38 (.aload_n 0) 1 := by decide +kernel
theorem d24_39 : DK cB24 39 (.iconst 0) 1 := by decide +kernel
theorem d24_40 : DK cB24 40 (.aaload) 1 := by decide +kernel
theorem d24_41 : DK cB24 41 (.invokespecial 98) 3 := by decide +kernel
theorem d25_0 : DK cB25 0 (.aload_n 0) 1 := by decide +kernel
theorem d25_1 : DK cB25 1 (.invokespecial 1) 3 := by decide +kernel
theorem d26_0 : DK cB26 0 (.aload_n 0) 1 := by decide +kernel
theorem d26_1 : DK cB26 1 (.invokespecial 1) 3 := by decide +kernel
theorem d27_0 : DK cB27 0 (.aload_n 0) 1 := by decide +kernel
theorem d27_1 : DK cB27 1 (.invokespecial 1) 3 := by decide +kernel
theorem d27_4 : DK cB27 4 (.return_) 1 := by decide +kernel
theorem pn_java_util_ImmutableCollections_AbstractImmutableCollection : plainName "java/util/ImmutableCollections$AbstractImmutableCollection" = true := by first | (simp [plainName, overriddenIn]; done) | decide +kernel
def Q27_1 (Z : State)  (h0 : Heap) (n0 : Nat) (v : Option Value) (h : Heap) (L : List Loc) : Prop := v = none ∧ Fr n0 L ∧ h = h0
theorem rm27_1 (l : Launch) (Z : State) (a0 : Array Value) (hw : own_HW a0 Z) (ws : List Jvm.Cond) (r0 : Addr) (h0 : Heap) (n0 : Nat) (O0 : Old Z n0 h0) :
    own_MF l mN56 jdk_47_method_1_code 1 none ws rR2_0_0_24 Z h0 #[(.ref r0)] (Q27_1 Z  h0 n0) := by
  refine own_open (plainFor_of_name pn_java_util_ImmutableCollections_AbstractImmutableCollection) (L0 := #[lR r0]) (fun _ => by first | (simp [entryFrame, mkF, argsToLocals, Value.category]; done) | rfl) ?_
  intro p e s m below meth c s₁ hx hby hml hret hnn hZ hown X0 e0
  have N0 := Fr.nil n0; have w := @ww Z a0 hw
  obtain ⟨_, T1, Lc1, X1, hQ1, st1⟩ := own_fin (X0.specialBack hx (y := mN0) rfl hown (mvT hZ (w 174 rfl)) (mvT hZ (w 44 rfl)) (mvT hZ (w 48 rfl)) (by decide) (backOf (W := 0) (rm9_1 l Z a0 hw [] r0 h0 n0 O0) hZ (w 48 rfl) (w 47 rfl) (by decide) (by decide)) (g := (mkF m 1 #[lR r0] [(.ref r0)])) rfl (by rw [hml]; rfl) (Steps.refl _) (a := r0) (argsL := []) (rest := []) (lenOf pd___V rfl) rfl (own_W rfl) (hb hby d27_1) (fun _ _ => ⟨rfl, e0, (by decide : 0 + 0 ≤ _), (by decide : 0 + 0 ≤ _)⟩))
  obtain ⟨rfl, N1q, E1⟩ := hQ1
  have N1 := Fr.app N0 N1q
  refine ⟨none, _, _, _, _, (fun _ => rfl), X1, by decide, by decide, ?_, fun fs hr => ?_⟩
  · rw [E1]; exact ⟨rfl, N1, rfl⟩
  · show SG p e below s₁ (mkF m 0 #[lR r0] []) _
    refine qaN X0 hx hby d27_0 ?_
    refine st1.trans ?_
    exact X1.returnOut hx hret (hb hby d27_4) hr
theorem d26_4 : DK cB26 4 (.return_) 1 := by decide +kernel
def Q26_1 (Z : State)  (h0 : Heap) (n0 : Nat) (v : Option Value) (h : Heap) (L : List Loc) : Prop := v = none ∧ Fr n0 L ∧ h = h0
theorem rm26_1 (l : Launch) (Z : State) (a0 : Array Value) (hw : own_HW a0 Z) (ws : List Jvm.Cond) (r0 : Addr) (h0 : Heap) (n0 : Nat) (O0 : Old Z n0 h0) :
    own_MF l mN57 jdk_46_method_1_code 1 none ws rR3_0_0_36 Z h0 #[(.ref r0)] (Q26_1 Z  h0 n0) := by
  refine own_open (plainFor_of_name pn_java_util_ImmutableCollections_AbstractImmutableList) (L0 := #[lR r0]) (fun _ => by first | (simp [entryFrame, mkF, argsToLocals, Value.category]; done) | rfl) ?_
  intro p e s m below meth c s₁ hx hby hml hret hnn hZ hown X0 e0
  have N0 := Fr.nil n0; have w := @ww Z a0 hw
  obtain ⟨_, T1, Lc1, X1, hQ1, st1⟩ := own_fin (X0.specialBack hx (y := mN56) rfl hown (mvT hZ (w 168 rfl)) (mvT hZ (w 169 rfl)) (mvT hZ (w 173 rfl)) (by decide) (backOf (W := 0) (rm27_1 l Z a0 hw [] r0 h0 n0 O0) hZ (w 173 rfl) (w 172 rfl) (by decide) (by decide)) (g := (mkF m 1 #[lR r0] [(.ref r0)])) rfl (by rw [hml]; rfl) (Steps.refl _) (a := r0) (argsL := []) (rest := []) (lenOf pd___V rfl) rfl (own_W rfl) (hb hby d26_1) (fun _ _ => ⟨rfl, e0, (by decide : 0 + 0 ≤ _), (by decide : 0 + 0 ≤ _)⟩))
  obtain ⟨rfl, N1q, E1⟩ := hQ1
  have N1 := Fr.app N0 N1q
  refine ⟨none, _, _, _, _, (fun _ => rfl), X1, by decide, by decide, ?_, fun fs hr => ?_⟩
  · rw [E1]; exact ⟨rfl, N1, rfl⟩
  · show SG p e below s₁ (mkF m 0 #[lR r0] []) _
    refine qaN X0 hx hby d26_0 ?_
    refine st1.trans ?_
    exact X1.returnOut hx hret (hb hby d26_4) hr
theorem d25_4 : DK cB25 4 (.aload_n 0) 1 := by decide +kernel
theorem d25_5 : DK cB25 5 (.aload_n 1) 1 := by decide +kernel
theorem d25_6 : DK cB25 6 (.invokestatic 7) 3 := by decide +kernel
theorem d28_0 : DK cB28 0 (.aload_n 0) 1 := by decide +kernel
theorem d28_1 : DK cB28 1 (.ifnonnull 11) 3 := by decide +kernel
theorem d28_12 : DK cB28 12 (.aload_n 0) 1 := by decide +kernel
theorem d28_13 : DK cB28 13 (.areturn) 1 := by decide +kernel
theorem pn_java_util_Objects : plainName "java/util/Objects" = true := by first | (simp [plainName, overriddenIn]; done) | decide +kernel
def Q28_1 (Z : State) (r0 : Addr) (h0 : Heap) (n0 : Nat) (v : Option Value) (h : Heap) (L : List Loc) : Prop := v = some (.ref r0) ∧ Fr n0 L ∧ h = h0
theorem rm28_1 (l : Launch) (Z : State) (a0 : Array Value) (hw : own_HW a0 Z) (ws : List Jvm.Cond) (r0 : Addr) (h0 : Heap) (n0 : Nat) (O0 : Old Z n0 h0) :
    own_MF l mN58 jdk_31_method_10_code 1 (some (.object cs5)) ws rR0_0_0_0 Z h0 #[(.ref r0)] (Q28_1 Z r0 h0 n0) := by
  refine own_open (plainFor_of_name pn_java_util_Objects) (L0 := #[lR r0]) (fun _ => by first | (simp [entryFrame, mkF, argsToLocals, Value.category]; done) | rfl) ?_
  intro p e s m below meth c s₁ hx hby hml hret hnn hZ hown X0 e0
  have N0 := Fr.nil n0
  refine ⟨some (.ref r0), _, _, _, _, nofun, X0, by decide, by decide, ?_, fun fs hr => ?_⟩
  · rw [e0]; exact ⟨rfl, N0, rfl⟩
  · show SG p e below s₁ (mkF m 0 #[lR r0] []) _
    refine qaN X0 hx hby d28_0 ?_
    refine XS.ifnonnullYes X0.here hx rfl (pc0 := 1) (pc' := 12) rfl (hb hby d28_1) rfl (by decide) (by decide) ?_
    refine qaN X0 hx hby d28_12 ?_
    exact retOut X0 hx (i := .areturn) hret rfl (Or.inr (Or.inr (Or.inr (Or.inr ⟨rfl, rfl, rfl⟩)))) (hb hby d28_13) hr
theorem pd__Ljava_lang_Object__Ljava_lang_Object_ : parseMethodDescriptor "(Ljava/lang/Object;)Ljava/lang/Object;" = some ⟨[(.object "java/lang/Object")], some (.object "java/lang/Object")⟩ := by decide +kernel
theorem d25_9 : DK cB25 9 (.putfield 13) 3 := by decide +kernel
theorem d25_12 : DK cB25 12 (.aload_n 0) 1 := by decide +kernel
theorem d25_13 : DK cB25 13 (.getstatic 19) 3 := by decide +kernel
theorem d25_16 : DK cB25 16 (.putfield 24) 3 := by decide +kernel
theorem d25_19 : DK cB25 19 (.return_) 1 := by decide +kernel
theorem pn_java_util_ImmutableCollections_List12 : plainName "java/util/ImmutableCollections$List12" = true := by first | (simp [plainName, overriddenIn]; done) | decide +kernel
def Q25_1 (Z : State) (r0 r1 r2 : Addr) (h0 : Heap) (n0 : Nat) (v : Option Value) (h : Heap) (L : List Loc) : Prop := v = none ∧ Fr n0 L ∧ Keep h0 h [r0] ∧ Fld Z h r0 cs45 "e0" cs46 (.ref r1) ∧ Fld Z h r0 cs45 "e1" cs46 (.ref r2)
theorem rm25_1 (l : Launch) (Z : State) (a0 : Array Value) (hw : own_HW a0 Z) (ws : List Jvm.Cond) (r0 r1 r2 : Addr) (h0 : Heap) (n0 : Nat) (O0 : Old Z n0 h0) (f3 : Exa Z h0 r0 cs45) (f4 : Fld Z h0 r0 cs45 "e0" cs46 .null) (g5 : n0 ≤ r0) (f7 : Sta Z Z.heap cs12 "EMPTY" cs46 (.ref r2)) (f12 : Fld Z h0 r0 cs45 "e1" cs46 .null) :
    own_MF l mN59 jdk_44_method_1_code 2 none ws rR4_0_0_48 Z h0 #[(.ref r0), (.ref r1)] (Q25_1 Z r0 r1 r2 h0 n0) := by
  refine own_open (plainFor_of_name pn_java_util_ImmutableCollections_List12) (L0 := #[lR r0, lR r1]) (fun _ => by first | (simp [entryFrame, mkF, argsToLocals, Value.category]; done) | rfl) ?_
  intro p e s m below meth c s₁ hx hby hml hret hnn hZ hown X0 e0
  have N0 := Fr.nil n0; have w := @ww Z a0 hw
  have hnm := (name_of_methodNamed hnn.1 hnn.2).1
  obtain ⟨_, T1, Lc1, X1, hQ1, st1⟩ := own_fin (X0.specialBack hx (y := mN57) rfl hown (mvT hZ (w 162 rfl)) (mvT hZ (w 163 rfl)) (mvT hZ (w 167 rfl)) (by decide) (backOf (W := 0) (rm26_1 l Z a0 hw [] r0 h0 n0 O0) hZ (w 167 rfl) (w 166 rfl) (by decide) (by decide)) (g := (mkF m 1 #[lR r0, lR r1] [(.ref r0)])) rfl (by rw [hml]; rfl) (Steps.refl _) (a := r0) (argsL := []) (rest := []) (lenOf pd___V rfl) rfl (own_W rfl) (hb hby d25_1) (fun _ _ => ⟨rfl, e0, (by decide : 0 + 0 ≤ _), (by decide : 0 + 0 ≤ _)⟩))
  obtain ⟨rfl, N1q, E1⟩ := hQ1
  have N1 := Fr.app N0 N1q
  obtain ⟨_, T2, Lc2, X2, hQ2, st2⟩ := own_cS X1 hx hZ hown E1 (rm28_1 l Z a0 hw [] r1 h0 n0 O0) (w 176 rfl) (w 177 rfl) (w 178 rfl) (w 179 rfl) (by decide) (W := 1) (by decide) (by decide) (by decide) (by decide) (g := (mkF m 6 #[lR r0, lR r1] [(.ref r1), (.ref r0)])) rfl (by rw [hml]; rfl) (argsL := [(.ref r1)]) (rest := [(.ref r0)]) (lenOf pd__Ljava_lang_Object__Ljava_lang_Object_ rfl) rfl (own_W rfl) (hb hby d25_6)
  obtain ⟨rfl, N2q, E2⟩ := hQ2
  have N2 := Fr.app N1 N2q
  obtain ⟨T6, h6, X6, e6, W6, st6⟩ := putF X2 hx hZ hown (host := "") (Or.inl (w 180 rfl)) Via.refl E2 f4 f3 (Or.inr ⟨(w 181 rfl), rfl, hnm⟩) (w 156 rfl) (ty := (.object cs5)) (by decide) rfl rfl (g := (mkF m 9 #[lR r0, lR r1] [(.ref r1), (.ref r0)])) rfl rfl (hb hby d25_9)
  have Fw6 := f4.same W6
  have N6 := Fr.snoc X6 N2 g5
  have o8 := Old.wr O0 W6 g5
  have f9 := f7.ext o8.2
  obtain ⟨T10, X10, e10, st10⟩ := getS2 X6 hx hZ hown (Or.inr (w 182 rfl)) Via.refl e6 f9 (g := (mkF m 13 #[lR r0, lR r1] [(.ref r0)])) rfl (hb hby d25_13)
  have f11 := (f3.wr W6)
  have f13 := (f12.other W6 (Or.inr (slot_ne (Or.inr (w 184 rfl)) (Or.inr (w 181 rfl)) (by decide) (t := (.object cs5)) (t' := (.object cs5)) (by decide) (by decide))))
  obtain ⟨T14, h14, X14, e14, W14, st14⟩ := putF X10 hx hZ hown (host := "") (Or.inl (w 183 rfl)) Via.refl e10 f13 f11 (Or.inr ⟨(w 184 rfl), rfl, hnm⟩) (w 156 rfl) (ty := (.object cs5)) (by decide) rfl rfl (g := (mkF m 16 #[lR r0, lR r1] [(.ref r2), (.ref r0)])) rfl rfl (hb hby d25_16)
  have Fw14 := f13.same W14
  have N14 := Fr.snoc X14 N6 g5
  have f15 := (Fw6.other W14 (Or.inr (slot_ne (Or.inr (w 181 rfl)) (Or.inr (w 184 rfl)) (by decide) (t := (.object cs5)) (t' := (.object cs5)) (by decide) (by decide))))
  have kp16 : Keep h0 h6 [r0] := (Keep.refl h0 [r0]).wr W6 (Or.inl (List.mem_of_getElem? (i := 0) rfl))
  have kp17 : Keep h0 h14 [r0] := kp16.wr W14 (Or.inl (List.mem_of_getElem? (i := 0) rfl))
  refine ⟨none, _, _, _, _, (fun _ => rfl), X14, by decide, by decide, ?_, fun fs hr => ?_⟩
  · rw [e14]; exact ⟨rfl, N14, kp17, f15, Fw14⟩
  · show SG p e below s₁ (mkF m 0 #[lR r0, lR r1] []) _
    refine qaN X0 hx hby d25_0 ?_
    refine st1.trans ?_
    refine qaN X1 hx hby d25_4 ?_
    refine qaN X1 hx hby d25_5 ?_
    refine st2 _ ?_
    refine st6 _ ?_
    refine qaN X6 hx hby d25_12 ?_
    refine st10 _ ?_
    refine st14 _ ?_
    exact X14.returnOut hx hret (hb hby d25_19) hr
theorem pd__Ljava_lang_Object__V : parseMethodDescriptor "(Ljava/lang/Object;)V" = some ⟨[(.object "java/lang/Object")], none⟩ := by decide +kernel
theorem d24_44 : DK cB24 44 (.areturn) 1 := by decide +kernel
def Q24_1 (Z : State) (r2 r3 : Addr) (h0 : Heap) (n0 : Nat) (v : Option Value) (h : Heap) (L : List Loc) : Prop := ∃ (b3 : Addr), v = some (.ref b3) ∧ Fr n0 L ∧ Keep h0 h [] ∧ h0.size ≤ b3 ∧ Exa Z h b3 cs45 ∧ Fld Z h b3 cs45 "e0" cs46 (.ref r2) ∧ Fld Z h b3 cs45 "e1" cs46 (.ref r3)
theorem rm24_1 (l : Launch) (Z : State) (a0 : Array Value) (hw : own_HW a0 Z) (ws : List Jvm.Cond) (r0 : Addr) (c1 : ClassId) (r2 r3 : Addr) (h0 : Heap) (n0 : Nat) (O0 : Old Z n0 h0) (f1 : Arv Z h0 r0 c1 (.object cs5) (1 : Int32) [(.ref r2)] .null) (f10 : Sta Z Z.heap cs12 "EMPTY" cs46 (.ref r3)) :
    own_MF l mN60 jdk_40_method_47_code 2 (some (.object cs11)) ws rR5_1_2_62 Z h0 #[(.ref r0)] (Q24_1 Z r2 r3 h0 n0) := by
  refine own_open (plainFor_of_name pn_java_util_List) (L0 := #[lR r0, lU]) (fun _ => by first | (simp [entryFrame, mkF, argsToLocals, Value.category]; done) | rfl) ?_
  intro p e s m below meth c s₁ hx hby hml hret hnn hZ hown X0 e0
  have N0 := Fr.nil n0; have w := @ww Z a0 hw
  obtain ⟨clq2, Arq2, qq2, Sq2, Nq2, Hq2, Gq2⟩ := id f1
  obtain ⟨T3, h3, X3, e3, E3, A3, D3, -, st3⟩ := newO X0 hx hZ hown (w 155 rfl) (w 156 rfl) (w 157 rfl) e0 (g := (mkF m 34 #[lR r0, lU] [])) rfl (hb hby d24_34) (by decide) (by decide)
  obtain ⟨b3, g3⟩ : ∃ z, z = h0.size := ⟨_, rfl⟩
  rw [← g3] at A3 D3 st3
  have f4 : Fld Z h3 b3 cs45 "e0" cs46 .null := D3 (Or.inr (w 181 rfl)) (ty := (.object cs5)) (by decide)
  have f5 : Fld Z h3 b3 cs45 "e1" cs46 .null := D3 (Or.inr (w 184 rfl)) (ty := (.object cs5)) (by decide)
  have f6 := (f1.ext E3)
  obtain ⟨clq7, Arq7, qq7, Sq7, Nq7, Hq7, Gq7⟩ := id f6
  have zz8 : n0 ≤ h0.size := by rw [← O0.1]; exact O0.2.1
  have g9 := Nat.le_trans zz8 (Nat.le_of_eq g3.symm)
  have o11 := Old.ext O0 E3
  obtain ⟨_, T12, Lc12, X12, hQ12, st12⟩ := own_fin (X3.specialBack hx (y := mN59) rfl hown (mvT hZ (w 158 rfl)) (mvT hZ (w 159 rfl)) (mvT hZ (w 161 rfl)) (by decide) (backOf (W := 1) (rm25_1 l Z a0 hw [] b3 r2 r3 h3 n0 o11 A3 f4 g9 f10 f5) hZ (w 161 rfl) (w 157 rfl) (by decide) (by decide)) (g := (mkF m 41 #[lR r0, lU] [(.ref r2), (.ref b3), (.ref b3)])) rfl (by rw [hml]; rfl) (Steps.refl _) (a := b3) (argsL := [(.ref r2)]) (rest := [(.ref b3)]) (lenOf pd__Ljava_lang_Object__V rfl) rfl (own_W rfl) (hb hby d24_41) (fun _ _ => ⟨rfl, e3, (by decide : 1 + 0 ≤ _), (by decide : 2 + 0 ≤ _)⟩))
  obtain ⟨rfl, N12q, K12, f13, f14⟩ := hQ12
  have N12 := Fr.app N0 N12q
  have f15 := (A3.keep K12)
  have kp16 : Keep h0 h3 [] := (Keep.refl h0 []).ext E3
  have kp17 : Keep h0 T12.heap [] := kp16.trans K12 (allS (Or.inr (Nat.le_of_eq g3.symm)) all0)
  refine ⟨some (.ref b3), _, _, _, _, nofun, X12, by decide, by decide, ?_, fun fs hr => ?_⟩
  · exact ⟨b3, rfl, N12, kp17, (Nat.le_of_eq g3.symm), f15, f13, f14⟩
  · show SG p e below s₁ (mkF m 0 #[lR r0, lU] []) _
    refine qaN X0 hx hby d24_0 ?_
    refine X0.arraylength hx (by rw [e0]; exact Arq2.1) (State.isArrayOf_alike hZ.alike Arq2.2.1) (g := (mkF m 1 #[lR r0, lU] [(.ref r0)])) rfl rfl (hb hby d24_1) _ ?_
    rw [len_of Sq2 Nq2]
    refine XS.tswIn X0.here hx rfl (pc0 := 2) (pc' := 34) rfl (hb hby d24_2) rfl (by decide) rfl (by decide) (by decide) ?_
    refine st3 _ ?_
    refine qd X3 hx hby d24_37 ?_
    refine qaN X3 hx hby d24_38 ?_
    refine qc X3 hx hby d24_39 ?_
    refine X3.aaload hx (j := (0 : Int32)) (v := (.ref r2)) (by rw [e3]; exact Arq7.1) (State.isArrayOf_alike hZ.alike Arq7.2.1) rfl Arq7.2.2 (inb_of Sq7 ⟨(by decide : ¬ ((0 : Int32) < (0 : Int32))), (by decide : (0 : Int32) < (1 : Int32))⟩) (Has.at Hq7 (inb_of Sq7 ⟨(by decide : ¬ ((0 : Int32) < (0 : Int32))), (by decide : (0 : Int32) < (1 : Int32))⟩) rfl) (g := (mkF m 40 #[lR r0, lU] [vI0, (.ref r0), (.ref b3), (.ref b3)])) rfl rfl (hb hby d24_40) _ ?_
    refine st12.trans ?_
    exact retOut X12 hx (i := .areturn) hret rfl (Or.inr (Or.inr (Or.inr (Or.inr ⟨rfl, rfl, rfl⟩)))) (hb hby d24_44) hr
theorem pd___Ljava_lang_Object__Ljava_util_List_ : parseMethodDescriptor "([Ljava/lang/Object;)Ljava/util/List;" = some ⟨[(.array (.object "java/lang/Object"))], some (.object "java/util/List")⟩ := by decide +kernel
theorem d18_53 : DK cB18 53 (.areturn) 1 := by decide +kernel
def Q18_2 (Z : State) (r4 r5 : Addr) (h0 : Heap) (n0 : Nat) (v : Option Value) (h : Heap) (L : List Loc) : Prop := ∃ (b18_0 : Addr), v = some (.ref b18_0) ∧ Fr n0 L ∧ Keep h0 h [] ∧ h0.size ≤ b18_0 ∧ Exa Z h b18_0 cs45 ∧ Fld Z h b18_0 cs45 "e0" cs46 (.ref r4) ∧ Fld Z h b18_0 cs45 "e1" cs46 (.ref r5)
theorem rm18_2 (l : Launch) (Z : State) (a0 : Array Value) (hw : own_HW a0 Z) (ws : List Jvm.Cond) (r0 r1 r2 : Addr) (c3 : ClassId) (r4 r5 : Addr) (h0 : Heap) (n0 : Nat) (O0 : Old Z n0 h0) (f1 : Exa Z h0 r0 cs2) (f4 : Fld Z h0 r0 cs2 "size" "I" vI1) (f6 : Fld Z h0 r0 cs2 cs3 cs4 (.ref r1)) (f7 : Exa Z h0 r1 cs4) (f8 : own_Mir Z cs4 r2) (f9 : Arv Z h0 r1 c3 (.object cs5) (10 : Int32) [(.ref r4), .null, .null, .null, .null, .null, .null, .null, .null, .null] .null) (f10 : Exa Z h0 r4 cs8) (f16 : Sta Z Z.heap cs12 "EMPTY" cs46 (.ref r5)) :
    own_MF l mN7 jdk_56_method_3_code 2 (some (.object cs11)) ws rR6_2_3_75 Z h0 #[(.ref r0)] (Q18_2 Z r4 r5 h0 n0) := by
  refine own_open (plainFor_of_name pn_java_util_ImmutableCollections) (L0 := #[lR r0, lU]) (fun _ => by first | (simp [entryFrame, mkF, argsToLocals, Value.category]; done) | rfl) ?_
  intro p e s m below meth c s₁ hx hby hml hret hnn hZ hown X0 e0
  have N0 := Fr.nil n0; have w := @ww Z a0 hw
  obtain ⟨T2, X2, e2, st2⟩ := instNo X0 hx hZ hown (w 107 rfl) e0 f1 (own_NSno (w 108 rfl) (w 156 rfl) (NS.step (w 108 rfl) (NS.step (w 109 rfl) (NS.step (w 110 rfl) (own_NSroot (w 111 rfl) (w 156 rfl) (by decide)) (by decide)) (by decide)) (by decide)) (by decide)) (g := (mkF m 1 #[lR r0, lU] [(.ref r0)])) rfl rfl (hb hby d18_1)
  obtain ⟨T3, X3, e3, st3⟩ := instNo X2 hx hZ hown (w 112 rfl) e2 f1 (own_NSnoS (w 108 rfl) (w 421 rfl) rfl (NS.step (w 108 rfl) (NS.step (w 109 rfl) (NS.step (w 110 rfl) (own_NSrootS (w 111 rfl) (w 421 rfl) rfl (by decide)) (by decide)) (by decide)) (by decide)) (by decide)) (g := (mkF m 8 #[lR r0, lU] [(.ref r0)])) rfl rfl (hb hby d18_8)
  obtain ⟨_, T5, Lc5, X5, hQ5, st5⟩ := own_cI (xi := mN8) X3 hx hZ hown e3 (rm19_2 l Z a0 hw [] r0 h0 n0 O0 f4) f1 (w 113 rfl) (w 114 rfl) (w 115 rfl) (w 116 rfl) (w 117 rfl) (w 118 rfl) (w 119 rfl) (w 120 rfl) (w 121 rfl) (w 33 rfl) (by decide) (W := 0) (by decide) (by decide) (by decide) (by decide) (g := (mkF m 32 #[lR r0, lU] [(.ref r0)])) rfl (by rw [hml]; rfl) (argsL := []) (rest := []) (lenOf pd___Z rfl) rfl (own_W rfl) (hb hby d18_32)
  obtain ⟨rfl, N5q, E5⟩ := hQ5
  have N5 := Fr.app N0 N5q
  obtain ⟨_, T11, Lc11, X11, hQ11, st11⟩ := own_cI (xi := mN61) X5 hx hZ hown E5 (rm20_1 l Z a0 hw [] r0 r1 r2 c3 r4 h0 n0 O0 f6 f4 f7 f8 f9 f10) f1 (w 122 rfl) (w 123 rfl) (w 124 rfl) (w 125 rfl) (w 126 rfl) (w 127 rfl) (w 128 rfl) (w 120 rfl) (w 129 rfl) (w 33 rfl) (by decide) (W := 0) (by decide) (by decide) (by decide) (by decide) (g := (mkF m 45 #[lR r0, lU] [(.ref r0)])) rfl (by rw [hml]; rfl) (argsL := []) (rest := []) (lenOf pd____Ljava_lang_Object_ rfl) rfl (own_W rfl) (hb hby d18_45)
  obtain ⟨b11_0, k11_0, rfl, N11q, K11, f12, f13, f14, f15⟩ := hQ11
  have N11 := Fr.app N5 N11q
  have o17 := Old.keep O0 K11 all0
  obtain ⟨_, T18, Lc18, X18, hQ18, st18⟩ := own_cS X11 hx hZ hown rfl (rm24_1 l Z a0 hw [] b11_0 k11_0 r4 r5 T11.heap n0 o17 f13 f16) (w 152 rfl) (w 153 rfl) (w 101 rfl) (w 154 rfl) (by decide) (W := 0) (by decide) (by decide) (by decide) (by decide) (g := (mkF m 50 #[lR r0, lU] [(.ref b11_0)])) rfl (by rw [hml]; rfl) (argsL := [(.ref b11_0)]) (rest := []) (lenOf pd___Ljava_lang_Object__Ljava_util_List_ rfl) rfl (own_W rfl) (hb hby d18_50)
  obtain ⟨b18_0, rfl, N18q, K18, f19, f20, f21, f22⟩ := hQ18
  have N18 := Fr.app N11 N18q
  have zs23 := K11.1
  have kp24 : Keep h0 T11.heap [] := (Keep.refl h0 []).trans K11 all0
  have kp25 : Keep h0 T18.heap [] := kp24.trans K18 all0
  refine ⟨some (.ref b18_0), _, _, _, _, nofun, X18, by decide, by decide, ?_, fun fs hr => ?_⟩
  · exact ⟨b18_0, rfl, N18, kp25, (Nat.le_trans zs23 f19), f20, f21, f22⟩
  · show SG p e below s₁ (mkF m 0 #[lR r0, lU] []) _
    refine qaN X0 hx hby d18_0 ?_
    refine st2 _ ?_
    refine XS.ifNo X2.here hx rfl (hb hby d18_4) rfl ((if0 _ _).trans (teq (rfl : (0 : Int32) = (0 : Int32))).2) ?_
    refine qaN X2 hx hby d18_7 ?_
    refine st3 _ ?_
    refine XS.ifYes X3.here hx rfl (pc0 := 11) (pc' := 31) rfl (hb hby d18_11) rfl ((if0 _ _).trans (teq (rfl : (0 : Int32) = (0 : Int32))).1) (by decide) (by decide) ?_
    refine qaN X3 hx hby d18_31 ?_
    refine st5 _ ?_
    refine XS.ifYes X5.here hx rfl (pc0 := 37) (pc' := 44) rfl (hb hby d18_37) rfl ((if0 _ _).trans (teq (rfl : (0 : Int32) = (0 : Int32))).1) (by decide) (by decide) ?_
    refine qaN X5 hx hby d18_44 ?_
    refine st11 _ ?_
    refine st18 _ ?_
    exact retOut X18 hx (i := .areturn) hret rfl (Or.inr (Or.inr (Or.inr (Or.inr ⟨rfl, rfl, rfl⟩)))) (hb hby d18_53) hr
def Q17_2 (Z : State) (r4 r5 : Addr) (h0 : Heap) (n0 : Nat) (v : Option Value) (h : Heap) (L : List Loc) : Prop := ∃ (b9_0 : Addr), v = some (.ref b9_0) ∧ Fr n0 L ∧ Keep h0 h [] ∧ h0.size ≤ b9_0 ∧ Exa Z h b9_0 cs45 ∧ Fld Z h b9_0 cs45 "e0" cs46 (.ref r4) ∧ Fld Z h b9_0 cs45 "e1" cs46 (.ref r5)
theorem rm17_2 (l : Launch) (Z : State) (a0 : Array Value) (hw : own_HW a0 Z) (ws : List Jvm.Cond) (r0 r1 r2 : Addr) (c3 : ClassId) (r4 r5 : Addr) (h0 : Heap) (n0 : Nat) (O0 : Old Z n0 h0) (f1 : Exa Z h0 r0 cs2) (f2 : Fld Z h0 r0 cs2 "size" "I" vI1) (f3 : Fld Z h0 r0 cs2 cs3 cs4 (.ref r1)) (f4 : Exa Z h0 r1 cs4) (f5 : own_Mir Z cs4 r2) (f6 : Arv Z h0 r1 c3 (.object cs5) (10 : Int32) [(.ref r4), .null, .null, .null, .null, .null, .null, .null, .null, .null] .null) (f7 : Exa Z h0 r4 cs8) (f8 : Sta Z Z.heap cs12 "EMPTY" cs46 (.ref r5)) :
    own_MF l mN9 jdk_40_method_48_code 1 (some (.object cs11)) ws rR7_2_3_88 Z h0 #[(.ref r0)] (Q17_2 Z r4 r5 h0 n0) := by
  refine own_open (plainFor_of_name pn_java_util_List) (L0 := #[lR r0]) (fun _ => by first | (simp [entryFrame, mkF, argsToLocals, Value.category]; done) | rfl) ?_
  intro p e s m below meth c s₁ hx hby hml hret hnn hZ hown X0 e0
  have N0 := Fr.nil n0
  obtain ⟨_, T9, Lc9, X9, hQ9, st9⟩ := own_cS X0 hx hZ hown e0 (rm18_2 l Z a0 hw [] r0 r1 r2 c3 r4 r5 h0 n0 O0 f1 f2 f3 f4 f5 f6 f7 f8) (ww hw 103 rfl) (ww hw 104 rfl) (ww hw 105 rfl) (ww hw 106 rfl) (by decide) (W := 0) (by decide) (by decide) (by decide) (by decide) (g := (mkF m 1 #[lR r0] [(.ref r0)])) rfl (by rw [hml]; rfl) (argsL := [(.ref r0)]) (rest := []) (lenOf pd__Ljava_util_Collection__Ljava_util_List_ rfl) rfl (own_W rfl) (hb hby d17_1)
  obtain ⟨b9_0, rfl, N9q, K9, f10, f11, f12, f13⟩ := hQ9
  have N9 := Fr.app N0 N9q
  have kp14 : Keep h0 T9.heap [] := (Keep.refl h0 []).trans K9 all0
  refine ⟨some (.ref b9_0), _, _, _, _, nofun, X9, by decide, by decide, ?_, fun fs hr => ?_⟩
  · exact ⟨b9_0, rfl, N9, kp14, f10, f11, f12, f13⟩
  · show SG p e below s₁ (mkF m 0 #[lR r0] []) _
    refine qaN X0 hx hby d17_0 ?_
    refine st9 _ ?_
    exact retOut X9 hx (i := .areturn) hret rfl (Or.inr (Or.inr (Or.inr (Or.inr ⟨rfl, rfl, rfl⟩)))) (hb hby d17_4) hr
def Q16_2 (Z : State) (r0 r1 : Addr) (r6 r7 : Addr) (h0 : Heap) (n0 : Nat) (v : Option Value) (h : Heap) (L : List Loc) : Prop := ∃ (b23_0 : Addr), v = none ∧ Fr n0 L ∧ Keep h0 h [r0] ∧ Fld Z h r0 cs17 "key" cs18 (.ref r1) ∧ Fld Z h r0 cs17 cs19 cs20 (.ref b23_0) ∧ h0.size ≤ b23_0 ∧ Exa Z h b23_0 cs45 ∧ Fld Z h b23_0 cs45 "e0" cs46 (.ref r6) ∧ Fld Z h b23_0 cs45 "e1" cs46 (.ref r7)
theorem rm16_2 (l : Launch) (Z : State) (a0 : Array Value) (hw : own_HW a0 Z) (ws : List Jvm.Cond) (r0 r1 : Addr) (r2 r3 r4 : Addr) (c5 : ClassId) (r6 r7 : Addr) (h0 : Heap) (n0 : Nat) (O0 : Old Z n0 h0) (f2 : Exa Z h0 r0 cs17) (f3 : Fld Z h0 r0 cs17 "key" cs18 .null) (g4 : n0 ≤ r0) (f6 : Exa Z h0 r2 cs2) (f8 : Fld Z h0 r2 cs2 "size" "I" vI1) (n9 : r2 ≠ r0) (f11 : Fld Z h0 r2 cs2 cs3 cs4 (.ref r3)) (f13 : Exa Z h0 r3 cs4) (f15 : own_Mir Z cs4 r4) (f16 : Arv Z h0 r3 c5 (.object cs5) (10 : Int32) [(.ref r6), .null, .null, .null, .null, .null, .null, .null, .null, .null] .null) (n17 : r3 ≠ r0) (f19 : Exa Z h0 r6 cs8) (f21 : Sta Z Z.heap cs12 "EMPTY" cs46 (.ref r7)) (f29 : Fld Z h0 r0 cs17 cs19 cs20 .null) (l35 : r0 < h0.size) :
    own_MF l mN10 prog_4_method_1_code 3 none ws rR8_2_3_101 Z h0 #[(.ref r0), (.ref r1), (.ref r2)] (Q16_2 Z r0 r1 r6 r7 h0 n0) := by
  refine own_open (plainFor_of_name pn_com_example_innerkey_innerkey_InternalCallDetails) (L0 := #[lR r0, lR r1, lR r2]) (fun _ => by first | (simp [entryFrame, mkF, argsToLocals, Value.category]; done) | rfl) ?_
  intro p e s m below meth c s₁ hx hby hml hret hnn hZ hown X0 e0
  have N0 := Fr.nil n0; have w := @ww Z a0 hw
  have hnm := (name_of_methodNamed hnn.1 hnn.2).1
  obtain ⟨T1, X1, e1, st1⟩ := initO X0 hx hZ hown (w 96 rfl) (w 13 rfl) (w 14 rfl) e0 (g := (mkF m 1 #[lR r0, lR r1, lR r2] [(.ref r0)])) rfl (by rw [hml]; rfl) rfl (hb hby d16_1) (by decide) (W := 0) (own_W rfl) (by decide)
  obtain ⟨T5, h5, X5, e5, W5, st5⟩ := putF X1 hx hZ hown (host := "") (Or.inl (w 97 rfl)) Via.refl e1 f3 f2 (Or.inr ⟨(w 98 rfl), rfl, hnm⟩) (w 91 rfl) (ty := (.object cs8)) (by decide) rfl rfl (g := (mkF m 6 #[lR r0, lR r1, lR r2] [(.ref r1), (.ref r0)])) rfl rfl (hb hby d16_6)
  have Fw5 := f3.same W5
  have N5 := Fr.snoc X5 N0 g4
  have f7 := (f6.wr W5)
  have f10 := (f8.other W5 (Or.inl n9))
  have f12 := (f11.other W5 (Or.inl n9))
  have f14 := (f13.wr W5)
  have f18 := (f16.other W5 n17)
  have f20 := (f19.wr W5)
  have o22 := Old.wr O0 W5 g4
  obtain ⟨_, T23, Lc23, X23, hQ23, st23⟩ := own_cS X5 hx hZ hown e5 (rm17_2 l Z a0 hw [] r2 r3 r4 c5 r6 r7 h5 n0 o22 f7 f10 f12 f14 f15 f18 f20 f21) (w 99 rfl) (w 100 rfl) (w 101 rfl) (w 102 rfl) (by decide) (W := 1) (by decide) (by decide) (by decide) (by decide) (g := (mkF m 11 #[lR r0, lR r1, lR r2] [(.ref r2), (.ref r0)])) rfl (by rw [hml]; rfl) (argsL := [(.ref r2)]) (rest := [(.ref r0)]) (lenOf pd__Ljava_util_Collection__Ljava_util_List_ rfl) rfl (own_W rfl) (hb hby d16_11)
  obtain ⟨b23_0, rfl, N23q, K23, f24, f25, f26, f27⟩ := hQ23
  have N23 := Fr.app N5 N23q
  have f28 := ((f2.wr W5).keep K23)
  have f30 := ((f29.other W5 (Or.inr (slot_ne (Or.inr (w 186 rfl)) (Or.inr (w 98 rfl)) (by decide) (t := (.object cs11)) (t' := (.object cs8)) (by decide) (by decide)))).keep K23 nin0)
  obtain ⟨T31, h31, X31, e31, W31, st31⟩ := putF X23 hx hZ hown (host := "") (Or.inl (w 185 rfl)) Via.refl rfl f30 f28 (Or.inr ⟨(w 186 rfl), rfl, hnm⟩) (w 91 rfl) (ty := (.object cs11)) (by decide) rfl rfl (g := (mkF m 14 #[lR r0, lR r1, lR r2] [(.ref b23_0), (.ref r0)])) rfl rfl (hb hby d16_14)
  have Fw31 := f30.same W31
  have N31 := Fr.snoc X31 N23 g4
  have f32 := ((Fw5.keep K23 nin0).other W31 (Or.inr (slot_ne (Or.inr (w 98 rfl)) (Or.inr (w 186 rfl)) (by decide) (t := (.object cs8)) (t' := (.object cs11)) (by decide) (by decide))))
  have zs33 := (Nat.le_of_eq W5.size.symm)
  have f34 := (f25.wr W31)
  have n36 := Nat.ne_of_lt (Nat.lt_of_lt_of_le (Nat.lt_of_lt_of_le l35 zs33) f24)
  have f37 := (f26.other W31 (Or.inl (Ne.symm n36)))
  have f38 := (f27.other W31 (Or.inl (Ne.symm n36)))
  have kp39 : Keep h0 h5 [r0] := (Keep.refl h0 [r0]).wr W5 (Or.inl (List.mem_of_getElem? (i := 0) rfl))
  have kp40 : Keep h0 T23.heap [r0] := kp39.trans K23 all0
  have kp41 : Keep h0 h31 [r0] := kp40.wr W31 (Or.inl (List.mem_of_getElem? (i := 0) rfl))
  refine ⟨none, _, _, _, _, (fun _ => rfl), X31, by decide, by decide, ?_, fun fs hr => ?_⟩
  · rw [e31]; exact ⟨b23_0, rfl, N31, kp41, f32, Fw31, (Nat.le_trans zs33 f24), f34, f37, f38⟩
  · show SG p e below s₁ (mkF m 0 #[lR r0, lR r1, lR r2] []) _
    refine qaN X0 hx hby d16_0 ?_
    refine st1 _ ?_
    refine qaN X1 hx hby d16_4 ?_
    refine qaN X1 hx hby d16_5 ?_
    refine st5 _ ?_
    refine qaN X5 hx hby d16_9 ?_
    refine qaN X5 hx hby d16_10 ?_
    refine st23 _ ?_
    refine st31 _ ?_
    exact X31.returnOut hx hret (hb hby d16_17) hr
theorem d47_0 : DK cB47 0 (.aload_n 0) 1 := by decide +kernel
theorem d47_1 : DK cB47 1 (.getfield 24) 3 := by decide +kernel
theorem d47_4 : DK cB47 4 (.getstatic 19) 3 := by decide +kernel
theorem d47_7 : DK cB47 7 (.if_acmp .eq 7) 3 := by decide +kernel
theorem d47_14 : DK cB47 14 (.iconst 1) 1 := by decide +kernel
theorem d47_15 : DK cB47 15 (.ireturn) 1 := by decide +kernel
def Q47_1 (Z : State)  (h0 : Heap) (n0 : Nat) (v : Option Value) (h : Heap) (L : List Loc) : Prop := v = some vI1 ∧ Fr n0 L ∧ h = h0
theorem rm47_1 (l : Launch) (Z : State) (a0 : Array Value) (hw : own_HW a0 Z) (ws : List Jvm.Cond) (r0 r1 : Addr) (h0 : Heap) (n0 : Nat) (O0 : Old Z n0 h0) (f1 : Fld Z h0 r0 cs45 "e1" cs46 (.ref r1)) (f3 : Sta Z Z.heap cs12 "EMPTY" cs46 (.ref r1)) :
    own_MF l mN62 jdk_44_method_3_code 1 (some .int) ws rR0_0_0_0 Z h0 #[(.ref r0)] (Q47_1 Z  h0 n0) := by
  refine own_open (plainFor_of_name pn_java_util_ImmutableCollections_List12) (L0 := #[lR r0]) (fun _ => by first | (simp [entryFrame, mkF, argsToLocals, Value.category]; done) | rfl) ?_
  intro p e s m below meth c s₁ hx hby hml hret hnn hZ hown X0 e0
  have N0 := Fr.nil n0
  obtain ⟨T2, X2, e2, st2⟩ := getF X0 hx hZ hown (host := "") (Or.inl (ww hw 183 rfl)) Via.refl e0 f1 (g := (mkF m 1 #[lR r0] [(.ref r0)])) rfl rfl (hb hby d47_1)
  have f4 := f3.ext O0.2
  obtain ⟨T5, X5, e5, st5⟩ := getS2 X2 hx hZ hown (Or.inr (ww hw 182 rfl)) Via.refl e2 f4 (g := (mkF m 4 #[lR r0] [(.ref r1)])) rfl (hb hby d47_4)
  refine ⟨some vI1, _, _, _, _, nofun, X5, by decide, by decide, ?_, fun fs hr => ?_⟩
  · rw [e5]; exact ⟨rfl, N0, rfl⟩
  · show SG p e below s₁ (mkF m 0 #[lR r0] []) _
    refine qaN X0 hx hby d47_0 ?_
    refine st2 _ ?_
    refine st5 _ ?_
    refine Jvm.RoadKit.acmp (g := (mkF m 7 #[lR r0] [(.ref r1), (.ref r1)])) X5 hx rfl rfl rfl (pc0 := 7) (pc' := 14) (same := true) rfl (hb hby d47_7) rfl (decide_eq_true rfl) (by decide) (by decide) ?_
    refine qc X5 hx hby d47_14 ?_
    exact retOut X5 hx (i := .ireturn) hret rfl (Or.inl ⟨rfl, Or.inl rfl, _, rfl⟩) (hb hby d47_15) hr
def Q48_2 (Z : State) (r0 r1 : Addr) (h0 : Heap) (n0 : Nat) (v : Option Value) (h : Heap) (L : List Loc) : Prop := v = none ∧ Fr n0 L ∧ Keep h0 h [r0] ∧ Fld Z h r0 cs33 "list" cs20 (.ref r1) ∧ Fld Z h r0 cs33 "size" "I" vI1 ∧ Fld Z h r0 cs33 "cursor" "I" vI0 ∧ Fld Z h r0 cs33 cs34 "Z" vI0
theorem rm48_2 (l : Launch) (Z : State) (a0 : Array Value) (hw : own_HW a0 Z) (ws : List Jvm.Cond) (r0 r1 : Addr) (h0 : Heap) (n0 : Nat) (O0 : Old Z n0 h0) (f2 : Exa Z h0 r0 cs33) (f3 : Fld Z h0 r0 cs33 "list" cs20 .null) (g4 : n0 ≤ r0) (f7 : Fld Z h0 r0 cs33 "size" "I" vI0) (f11 : Fld Z h0 r0 cs33 "cursor" "I" vI0) (f15 : Fld Z h0 r0 cs33 cs34 "Z" vI0) :
    own_MF l mN27 jdk_53_method_1_code 3 none ws rR1_0_0_12 Z h0 #[(.ref r0), (.ref r1), vI1] (Q48_2 Z r0 r1 h0 n0) := by
  refine own_open (plainFor_of_name pn_java_util_ImmutableCollections_ListItr) (L0 := #[lR r0, lR r1, lV vI1]) (fun _ => by first | (simp [entryFrame, mkF, argsToLocals, Value.category]; done) | rfl) ?_
  intro p e s m below meth c s₁ hx hby hml hret hnn hZ hown X0 e0
  have N0 := Fr.nil n0; have w := @ww Z a0 hw
  have hnm := (name_of_methodNamed hnn.1 hnn.2).1
  obtain ⟨T1, X1, e1, st1⟩ := initO X0 hx hZ hown (w 305 rfl) (w 13 rfl) (w 14 rfl) e0 (g := (mkF m 1 #[lR r0, lR r1, lV vI1] [(.ref r0)])) rfl (by rw [hml]; rfl) rfl (hb hby d48_1) (by decide) (W := 0) (own_W rfl) (by decide)
  obtain ⟨T5, h5, X5, e5, W5, st5⟩ := putF X1 hx hZ hown (host := "") (Or.inl (w 306 rfl)) Via.refl e1 f3 f2 (Or.inr ⟨(w 307 rfl), rfl, hnm⟩) (w 293 rfl) (ty := (.object cs11)) (by decide) rfl rfl (g := (mkF m 6 #[lR r0, lR r1, lV vI1] [(.ref r1), (.ref r0)])) rfl rfl (hb hby d48_6)
  have Fw5 := f3.same W5
  have N5 := Fr.snoc X5 N0 g4
  have f6 := (f2.wr W5)
  have f8 := (f7.other W5 (Or.inr (slot_ne (Or.inr (w 309 rfl)) (Or.inr (w 307 rfl)) (by decide) (t := .int) (t' := (.object cs11)) (by decide) (by decide))))
  obtain ⟨T9, h9, X9, e9, W9, st9⟩ := putF X5 hx hZ hown (host := "") (Or.inl (w 308 rfl)) Via.refl e5 f8 f6 (Or.inr ⟨(w 309 rfl), rfl, hnm⟩) (w 293 rfl) (ty := .int) (by decide) rfl rfl (g := (mkF m 11 #[lR r0, lR r1, lV vI1] [vI1, (.ref r0)])) rfl rfl (hb hby d48_11)
  have Fw9 := f8.same W9
  have N9 := Fr.snoc X9 N5 g4
  have f10 := (f6.wr W9)
  have f12 := ((f11.other W5 (Or.inr (slot_ne (Or.inl (w 311 rfl)) (Or.inr (w 307 rfl)) (by decide) (t := .int) (t' := (.object cs11)) (by decide) (by decide)))).other W9 (Or.inr (slot_ne (Or.inl (w 311 rfl)) (Or.inr (w 309 rfl)) (by decide) (t := .int) (t' := .int) (by decide) (by decide))))
  obtain ⟨T13, h13, X13, e13, W13, st13⟩ := putF X9 hx hZ hown (host := "") (Or.inl (w 310 rfl)) Via.refl e9 f12 f10 (Or.inl (w 311 rfl)) (w 293 rfl) (ty := .int) (by decide) rfl rfl (g := (mkF m 16 #[lR r0, lR r1, lV vI1] [vI0, (.ref r0)])) rfl rfl (hb hby d48_16)
  have Fw13 := f12.same W13
  have N13 := Fr.snoc X13 N9 g4
  have f14 := (f10.wr W13)
  have f16 := (((f15.other W5 (Or.inr (slot_ne (Or.inr (w 313 rfl)) (Or.inr (w 307 rfl)) (by decide) (t := .boolean) (t' := (.object cs11)) (by decide) (by decide)))).other W9 (Or.inr (slot_ne (Or.inr (w 313 rfl)) (Or.inr (w 309 rfl)) (by decide) (t := .boolean) (t' := .int) (by decide) (by decide)))).other W13 (Or.inr (slot_ne (Or.inr (w 313 rfl)) (Or.inl (w 311 rfl)) (by decide) (t := .boolean) (t' := .int) (by decide) (by decide))))
  obtain ⟨T17, h17, X17, e17, W17, st17⟩ := putFN X13 hx hZ hown (w 312 rfl) Via.refl e13 f16 f14 (Or.inr ⟨(w 313 rfl), rfl, hnm⟩) (w 293 rfl) (ty := .boolean) (v' := vI0) (by decide) rfl (by decide) (g := (mkF m 21 #[lR r0, lR r1, lV vI1] [vI0, (.ref r0)])) rfl rfl (hb hby d48_21)
  have Fw17 := f16.same W17
  have N17 := Fr.snoc X17 N13 g4
  have f18 := (((Fw5.other W9 (Or.inr (slot_ne (Or.inr (w 307 rfl)) (Or.inr (w 309 rfl)) (by decide) (t := (.object cs11)) (t' := .int) (by decide) (by decide)))).other W13 (Or.inr (slot_ne (Or.inr (w 307 rfl)) (Or.inl (w 311 rfl)) (by decide) (t := (.object cs11)) (t' := .int) (by decide) (by decide)))).other W17 (Or.inr (slot_ne (Or.inr (w 307 rfl)) (Or.inr (w 313 rfl)) (by decide) (t := (.object cs11)) (t' := .boolean) (by decide) (by decide))))
  have f19 := ((Fw9.other W13 (Or.inr (slot_ne (Or.inr (w 309 rfl)) (Or.inl (w 311 rfl)) (by decide) (t := .int) (t' := .int) (by decide) (by decide)))).other W17 (Or.inr (slot_ne (Or.inr (w 309 rfl)) (Or.inr (w 313 rfl)) (by decide) (t := .int) (t' := .boolean) (by decide) (by decide))))
  have f20 := (Fw13.other W17 (Or.inr (slot_ne (Or.inl (w 311 rfl)) (Or.inr (w 313 rfl)) (by decide) (t := .int) (t' := .boolean) (by decide) (by decide))))
  have kp21 : Keep h0 h5 [r0] := (Keep.refl h0 [r0]).wr W5 (Or.inl (List.mem_of_getElem? (i := 0) rfl))
  have kp22 : Keep h0 h9 [r0] := kp21.wr W9 (Or.inl (List.mem_of_getElem? (i := 0) rfl))
  have kp23 : Keep h0 h13 [r0] := kp22.wr W13 (Or.inl (List.mem_of_getElem? (i := 0) rfl))
  have kp24 : Keep h0 h17 [r0] := kp23.wr W17 (Or.inl (List.mem_of_getElem? (i := 0) rfl))
  refine ⟨none, _, _, _, _, (fun _ => rfl), X17, by decide, by decide, ?_, fun fs hr => ?_⟩
  · rw [e17]; exact ⟨rfl, N17, kp24, f18, f19, f20, Fw17⟩
  · show SG p e below s₁ (mkF m 0 #[lR r0, lR r1, lV vI1] []) _
    refine qaN X0 hx hby d48_0 ?_
    refine st1 _ ?_
    refine qaN X1 hx hby d48_4 ?_
    refine qaN X1 hx hby d48_5 ?_
    refine st5 _ ?_
    refine qaN X5 hx hby d48_9 ?_
    refine qiN X5 hx hby d48_10 ?_
    refine st9 _ ?_
    refine qaN X9 hx hby d48_14 ?_
    refine qc X9 hx hby d48_15 ?_
    refine st13 _ ?_
    refine qaN X13 hx hby d48_19 ?_
    refine qc X13 hx hby d48_20 ?_
    refine st17 _ ?_
    exact X17.returnOut hx hret (hb hby d48_24) hr
def Q46_2 (Z : State) (r0 : Addr) (h0 : Heap) (n0 : Nat) (v : Option Value) (h : Heap) (L : List Loc) : Prop := ∃ (b1 : Addr), v = some (.ref b1) ∧ Fr n0 L ∧ Keep h0 h [] ∧ h0.size ≤ b1 ∧ Exa Z h b1 cs33 ∧ Fld Z h b1 cs33 "list" cs20 (.ref r0) ∧ Fld Z h b1 cs33 "size" "I" vI1 ∧ Fld Z h b1 cs33 "cursor" "I" vI0 ∧ Fld Z h b1 cs33 cs34 "Z" vI0
theorem rm46_2 (l : Launch) (Z : State) (a0 : Array Value) (hw : own_HW a0 Z) (ws : List Jvm.Cond) (r0 r1 : Addr) (h0 : Heap) (n0 : Nat) (O0 : Old Z n0 h0) (f6 : Exa Z h0 r0 cs45) (f8 : Fld Z h0 r0 cs45 "e1" cs46 (.ref r1)) (f10 : Sta Z Z.heap cs12 "EMPTY" cs46 (.ref r1)) :
    own_MF l mN28 jdk_46_method_10_code 1 (some (.object cs38)) ws rR2_1_4_27 Z h0 #[(.ref r0)] (Q46_2 Z r0 h0 n0) := by
  refine own_open (plainFor_of_name pn_java_util_ImmutableCollections_AbstractImmutableList) (L0 := #[lR r0]) (fun _ => by first | (simp [entryFrame, mkF, argsToLocals, Value.category]; done) | rfl) ?_
  intro p e s m below meth c s₁ hx hby hml hret hnn hZ hown X0 e0
  have N0 := Fr.nil n0; have w := @ww Z a0 hw
  obtain ⟨T1, h1, X1, e1, E1, A1, D1, -, st1⟩ := newO X0 hx hZ hown (w 292 rfl) (w 293 rfl) (w 294 rfl) e0 (g := (mkF m 0 #[lR r0] [])) rfl (hb hby d46_0) (by decide) (by decide)
  obtain ⟨b1, g1⟩ : ∃ z, z = h0.size := ⟨_, rfl⟩
  rw [← g1] at A1 D1 st1
  have f2 : Fld Z h1 b1 cs33 "list" cs20 .null := D1 (Or.inr (w 307 rfl)) (ty := (.object cs11)) (by decide)
  have f3 : Fld Z h1 b1 cs33 "size" "I" vI0 := D1 (Or.inr (w 309 rfl)) (ty := .int) (by decide)
  have f4 : Fld Z h1 b1 cs33 "cursor" "I" vI0 := D1 (Or.inl (w 311 rfl)) (ty := .int) (by decide)
  have f5 : Fld Z h1 b1 cs33 cs34 "Z" vI0 := D1 (Or.inr (w 313 rfl)) (ty := .boolean) (by decide)
  have f7 := (f6.ext E1)
  have f9 := (f8.ext E1)
  have o11 := Old.ext O0 E1
  obtain ⟨cqq13, kqq13, qq13a, qq13b, qq13c⟩ := isOf hZ e1 f7
  obtain ⟨_, T12, Lc12, X12, hQ12, st12⟩ := own_fin (X1.virtualBackUp hx (x := mN29) (y := mN62) hown (mvT hZ (w 295 rfl)) (mvT hZ (w 296 rfl)) (mvT hZ (w 297 rfl)) (by decide) (mvT hZ (w 298 rfl)) (mvT hZ (w 299 rfl)) (backOf (W := 3) (rm47_1 l Z a0 hw [] r0 r1 h1 n0 o11 f9 f10) hZ (w 300 rfl) (w 157 rfl) (by decide) (by decide)) qq13a qq13c (g := (mkF m 6 #[lR r0] [(.ref r0), (.ref r0), (.ref b1), (.ref b1)])) rfl (by rw [hml]; rfl) (Steps.refl _) (argsL := []) (rest := [(.ref r0), (.ref b1), (.ref b1)]) (lenOf pd___I rfl) rfl (own_W rfl) (hb hby d46_6) (fun _ _ => ⟨rfl, e1, (by decide : 1 + 0 ≤ _), (by decide : 4 + 0 ≤ _)⟩))
  obtain ⟨rfl, N12q, E12⟩ := hQ12
  have N12 := Fr.app N0 N12q
  have zz14 : n0 ≤ h0.size := by rw [← O0.1]; exact O0.2.1
  have g15 := Nat.le_trans zz14 (Nat.le_of_eq g1.symm)
  obtain ⟨_, T16, Lc16, X16, hQ16, st16⟩ := own_fin (X12.specialBack hx (y := mN27) rfl hown (mvT hZ (w 301 rfl)) (mvT hZ (w 302 rfl)) (mvT hZ (w 304 rfl)) (by decide) (backOf (W := 1) (rm48_2 l Z a0 hw [] b1 r0 h1 n0 o11 A1 f2 g15 f3 f4 f5) hZ (w 304 rfl) (w 294 rfl) (by decide) (by decide)) (g := (mkF m 9 #[lR r0] [vI1, (.ref r0), (.ref b1), (.ref b1)])) rfl (by rw [hml]; rfl) (Steps.refl _) (a := b1) (argsL := [(.ref r0), vI1]) (rest := [(.ref b1)]) (lenOf pd__Ljava_util_List_I_V rfl) rfl (own_W rfl) (hb hby d46_9) (fun _ _ => ⟨rfl, E12, (by decide : 1 + 0 ≤ _), (by decide : 4 + 0 ≤ _)⟩))
  obtain ⟨rfl, N16q, K16, f17, f18, f19, f20⟩ := hQ16
  have N16 := Fr.app N12 N16q
  have f21 := (A1.keep K16)
  have kp22 : Keep h0 h1 [] := (Keep.refl h0 []).ext E1
  have kp23 : Keep h0 T16.heap [] := kp22.trans K16 (allS (Or.inr (Nat.le_of_eq g1.symm)) all0)
  refine ⟨some (.ref b1), _, _, _, _, nofun, X16, by decide, by decide, ?_, fun fs hr => ?_⟩
  · exact ⟨b1, rfl, N16, kp23, (Nat.le_of_eq g1.symm), f21, f17, f18, f19, f20⟩
  · show SG p e below s₁ (mkF m 0 #[lR r0] []) _
    refine st1 _ ?_
    refine qd X1 hx hby d46_3 ?_
    refine qaN X1 hx hby d46_4 ?_
    refine qaN X1 hx hby d46_5 ?_
    refine st12.trans ?_
    refine st16.trans ?_
    exact retOut X16 hx (i := .areturn) hret rfl (Or.inr (Or.inr (Or.inr (Or.inr ⟨rfl, rfl, rfl⟩)))) (hb hby d46_12) hr
theorem d49_11 : DK cB49 11 (.iconst 1) 1 := by decide +kernel
theorem d49_12 : DK cB49 12 (.goto 4) 3 := by decide +kernel
def Q49_2 (Z : State)  (h0 : Heap) (n0 : Nat) (v : Option Value) (h : Heap) (L : List Loc) : Prop := v = some vI1 ∧ Fr n0 L ∧ h = h0
theorem rm49_2 (l : Launch) (Z : State) (a0 : Array Value) (hw : own_HW a0 Z) (ws : List Jvm.Cond) (r0 : Addr) (h0 : Heap) (n0 : Nat) (O0 : Old Z n0 h0) (f1 : Fld Z h0 r0 cs33 "cursor" "I" vI0) (f3 : Fld Z h0 r0 cs33 "size" "I" vI1) :
    own_MF l mN30 jdk_53_method_3_code 1 (some .boolean) ws rR0_0_0_0 Z h0 #[(.ref r0)] (Q49_2 Z  h0 n0) := by
  refine own_open (plainFor_of_name pn_java_util_ImmutableCollections_ListItr) (L0 := #[lR r0]) (fun _ => by first | (simp [entryFrame, mkF, argsToLocals, Value.category]; done) | rfl) ?_
  intro p e s m below meth c s₁ hx hby hml hret hnn hZ hown X0 e0
  have N0 := Fr.nil n0
  obtain ⟨T2, X2, e2, st2⟩ := getF X0 hx hZ hown (host := "") (Or.inl (ww hw 310 rfl)) Via.refl e0 f1 (g := (mkF m 1 #[lR r0] [(.ref r0)])) rfl rfl (hb hby d49_1)
  obtain ⟨T4, X4, e4, st4⟩ := getF X2 hx hZ hown (host := "") (Or.inl (ww hw 308 rfl)) Via.refl e2 f3 (g := (mkF m 5 #[lR r0] [(.ref r0), vI0])) rfl rfl (hb hby d49_5)
  refine ⟨some vI1, _, _, _, _, nofun, X4, by decide, by decide, ?_, fun fs hr => ?_⟩
  · rw [e4]; exact ⟨rfl, N0, rfl⟩
  · show SG p e below s₁ (mkF m 0 #[lR r0] []) _
    refine qaN X0 hx hby d49_0 ?_
    refine st2 _ ?_
    refine qaN X2 hx hby d49_4 ?_
    refine st4 _ ?_
    refine XS.icmpNo X4.here hx rfl (hb hby d49_8) rfl (feq (by decide : ¬ ((0 : Int32) = (1 : Int32)))).1 ?_
    refine qc X4 hx hby d49_11 ?_
    refine XS.goto X4.here hx rfl (pc0 := 12) (pc' := 16) rfl (hb hby d49_12) (by decide) (by decide) ?_
    exact retN X4 hx (t := .boolean) hret (by simp) (hb hby d49_16) hr
theorem d45_17 : DK cB45 17 (.new 94) 3 := by decide +kernel
theorem d45_20 : DK cB45 20 (.dup) 1 := by decide +kernel
theorem d45_21 : DK cB45 21 (.invokespecial 96) 3 := by decide +kernel
theorem d45_24 : DK cB45 24 (.astore_n 2) 1 := by decide +kernel
theorem d45_25 : DK cB45 25 (.aload_n 2) 1 := by decide +kernel
theorem d45_26 : DK cB45 26 (.bipush 91) 2 := by decide +kernel
theorem d45_28 : DK cB45 28 (.invokevirtual 97) 3 := by decide +kernel
theorem d50_0 : DK cB50 0 (.aload_n 0) 1 := by decide +kernel
theorem d50_1 : DK cB50 1 (.iload_n 1) 1 := by decide +kernel
theorem d50_2 : DK cB50 2 (.invokespecial 50) 3 := by decide +kernel
theorem d51_0 : DK cB51 0 (.aload_n 0) 1 := by decide +kernel
theorem d51_1 : DK cB51 1 (.aload_n 0) 1 := by decide +kernel
theorem d51_2 : DK cB51 2 (.getfield 79) 3 := by decide +kernel
theorem d51_5 : DK cB51 5 (.iconst 1) 1 := by decide +kernel
theorem d51_6 : DK cB51 6 (.iadd) 1 := by decide +kernel
theorem d51_7 : DK cB51 7 (.invokevirtual 100) 3 := by decide +kernel
theorem d51_10 : DK cB51 10 (.aload_n 0) 1 := by decide +kernel
theorem d51_11 : DK cB51 11 (.invokevirtual 83) 3 := by decide +kernel
theorem d51_14 : DK cB51 14 (.ifCond .eq 31) 3 := by decide +kernel
theorem d51_17 : DK cB51 17 (.iload_n 1) 1 := by decide +kernel
theorem d51_18 : DK cB51 18 (.invokestatic 191) 3 := by decide +kernel
theorem d53_0 : DK cB53 0 (.iload_n 0) 1 := by decide +kernel
theorem d53_1 : DK cB53 1 (.sipush 255) 3 := by decide +kernel
theorem d53_4 : DK cB53 4 (.if_icmp .gt 7) 3 := by decide +kernel
theorem d53_7 : DK cB53 7 (.iconst 1) 1 := by decide +kernel
theorem d53_8 : DK cB53 8 (.goto 4) 3 := by decide +kernel
theorem d53_12 : DK cB53 12 (.ireturn) 1 := by decide +kernel
theorem pn_java_lang_StringLatin1 : plainName "java/lang/StringLatin1" = true := by first | (simp [plainName, overriddenIn]; done) | decide +kernel
def Q53_1 (Z : State)  (h0 : Heap) (n0 : Nat) (v : Option Value) (h : Heap) (L : List Loc) : Prop := v = some vI1 ∧ Fr n0 L ∧ h = h0
theorem rm53_1 (l : Launch) (Z : State) (a0 : Array Value) (hw : own_HW a0 Z) (ws : List Jvm.Cond) (x0 : Int32) (h0 : Heap) (n0 : Nat) (O0 : Old Z n0 h0) (hc1 : ¬ ((255 : Int32) < x0)) :
    own_MF l mN63 jdk_43_method_3_code 1 (some .boolean) ws rR0_0_0_0 Z h0 #[(.int x0)] (Q53_1 Z  h0 n0) := by
  refine own_open (plainFor_of_name pn_java_lang_StringLatin1) (L0 := #[lI x0]) (fun _ => by first | (simp [entryFrame, mkF, argsToLocals, Value.category]; done) | rfl) ?_
  intro p e s m below meth c s₁ hx hby hml hret hnn hZ hown X0 e0
  have N0 := Fr.nil n0
  refine ⟨some vI1, _, _, _, _, nofun, X0, by decide, by decide, ?_, fun fs hr => ?_⟩
  · rw [e0]; exact ⟨rfl, N0, rfl⟩
  · show SG p e below s₁ (mkF m 0 #[lI x0] []) _
    refine qiN X0 hx hby d53_0 ?_
    refine XS.sipush X0.here hx rfl (hb hby d53_1) ?_
    refine XS.icmpNo X0.here hx rfl (hb hby d53_4) rfl (flt hc1).2.2.1 ?_
    refine qc X0 hx hby d53_7 ?_
    refine XS.goto X0.here hx rfl (pc0 := 8) (pc' := 12) rfl (hb hby d53_8) (by decide) (by decide) ?_
    exact retN X0 hx (t := .boolean) hret (by simp) (hb hby d53_12) hr
theorem pd__C_Z : parseMethodDescriptor "(C)Z" = some ⟨[.char], some .boolean⟩ := by decide +kernel
theorem d51_21 : DK cB51 21 (.ifCond .eq 24) 3 := by decide +kernel
theorem d51_24 : DK cB51 24 (.aload_n 0) 1 := by decide +kernel
theorem d51_25 : DK cB51 25 (.getfield 15) 3 := by decide +kernel
theorem d51_28 : DK cB51 28 (.aload_n 0) 1 := by decide +kernel
theorem d51_29 : DK cB51 29 (.dup) 1 := by decide +kernel
theorem d51_30 : DK cB51 30 (.getfield 79) 3 := by decide +kernel
theorem d51_33 : DK cB51 33 (.dup_x1) 1 := by decide +kernel
theorem d51_34 : DK cB51 34 (.iconst 1) 1 := by decide +kernel
theorem d51_35 : DK cB51 35 (.iadd) 1 := by decide +kernel
theorem d51_36 : DK cB51 36 (.putfield 79) 3 := by decide +kernel
theorem d51_39 : DK cB51 39 (.iload_n 1) 1 := by decide +kernel
theorem d51_40 : DK cB51 40 (.i2b) 1 := by decide +kernel
theorem d51_41 : DK cB51 41 (.bastore) 1 := by decide +kernel
theorem d51_42 : DK cB51 42 (.goto 33) 3 := by decide +kernel
theorem d51_75 : DK cB51 75 (.aload_n 0) 1 := by decide +kernel
theorem d51_76 : DK cB51 76 (.areturn) 1 := by decide +kernel
def Q51_1 (Z : State) (r0 : Addr) (x1 x2 : Int32) (r3 : Addr) (x4 : Int32) (c5 : ClassId) (t6 : List Value) (x7 : Int32) (h0 : Heap) (n0 : Nat) (v : Option Value) (h : Heap) (L : List Loc) : Prop := v = some (.ref r0) ∧ Fr n0 L ∧ Keep h0 h [r0, r3] ∧ Fld Z h r0 cs22 "count" "I" (.int (x2 + (1 : Int32))) ∧ Fld Z h r0 cs22 "value" "[B" (.ref r3) ∧ Fld Z h r0 cs22 "coder" "B" (.int x7) ∧ Arv Z h r3 c5 .byte x4 (t6.set (x2).toNatClampNeg (.int ((x1.toInt8.toInt32).toInt8.toInt32))) vI0
theorem rm51_1 (l : Launch) (Z : State) (a0 : Array Value) (hw : own_HW a0 Z) (ws : List Jvm.Cond) (r0 : Addr) (x1 x2 : Int32) (r3 : Addr) (x4 : Int32) (c5 : ClassId) (t6 : List Value) (x7 x8 : Int32) (h0 : Heap) (n0 : Nat) (O0 : Old Z n0 h0) (f1 : Fld Z h0 r0 cs22 "count" "I" (.int x2)) (f3 : Exa Z h0 r0 cs23) (f4 : Fld Z h0 r0 cs22 "value" "[B" (.ref r3)) (f5 : Arv Z h0 r3 c5 .byte x4 t6 vI0) (f6 : Fld Z h0 r0 cs22 "coder" "B" (.int x7)) (hc7 : ¬ ((0 : Int32) < ((x2 + (1 : Int32)) - (x4 >>> (x7 &&& 31))))) (f10 : Sta Z Z.heap cs8 cs9 "Z" (.int x8)) (hc11 : ¬ (x8 = (0 : Int32))) (hc12 : x7 = (0 : Int32)) (hc14 : ¬ ((255 : Int32) < x1)) (g18 : n0 ≤ r0) (n20 : r3 ≠ r0) (g23 : n0 ≤ r3) (hc24 : (x2).toNatClampNeg < t6.length) (hc25 : ¬ (x2 < (0 : Int32))) (hc26 : x2 < x4) :
    own_MF l mN64 jdk_68_method_31_code 2 (some (.object cs22)) ws rR1_0_0_14 Z h0 #[(.ref r0), (.int x1)] (Q51_1 Z r0 x1 x2 r3 x4 c5 t6 x7 h0 n0) := by
  refine own_open (plainFor_of_name pn_java_lang_AbstractStringBuilder) (L0 := #[lR r0, lI x1]) (fun _ => by first | (simp [entryFrame, mkF, argsToLocals, Value.category]; done) | rfl) ?_
  intro p e s m below meth c s₁ hx hby hml hret hnn hZ hown X0 e0
  have N0 := Fr.nil n0; have w := @ww Z a0 hw
  obtain ⟨T2, X2, e2, st2⟩ := getF X0 hx hZ hown (host := "") (Or.inl (w 233 rfl)) Via.refl e0 f1 (g := (mkF m 2 #[lR r0, lI x1] [(.ref r0), (.ref r0)])) rfl rfl (hb hby d51_2)
  obtain ⟨cqq9, qq9, qq9'⟩ := f3.cell
  obtain ⟨_, T8, Lc8, X8, hQ8, st8⟩ := own_fin (X2.privateBack hx (y := mN20) hown (mvT hZ (w 235 rfl)) (mvT hZ (w 236 rfl)) (own_selfsel (mvT hZ (w 238 rfl)) (Cond.privateMethod_at (mvP hZ (w 237 rfl) (args := #[]))) (mvT hZ (w 236 rfl)) (by decide)) (Cond.privateMethod_at (mvP hZ (w 237 rfl) (args := #[]))) (mvT hZ (w 239 rfl)) (by decide) (backOf (W := 0) (rm36_2 l Z a0 hw [] r0 (x2 + (1 : Int32)) r3 x4 c5 t6 x7 h0 n0 O0 f4 f5 f6 hc7) hZ (w 239 rfl) (w 202 rfl) (by decide) (by decide)) (g := (mkF m 7 #[lR r0, lI x1] [(.int (x2 + (1 : Int32))), (.ref r0)])) rfl (by rw [hml]; rfl) (Steps.refl _) (a := r0) (by rw [e2]; exact qq9) qq9' (argsL := [(.int (x2 + (1 : Int32)))]) (rest := []) (lenOf pd__I_V rfl) rfl (own_W rfl) (hb hby d51_7) (fun _ _ => ⟨rfl, e2, (by decide : 0 + 0 ≤ _), (by decide : 0 + 0 ≤ _)⟩))
  obtain ⟨rfl, N8q, E8⟩ := hQ8
  have N8 := Fr.app N0 N8q
  obtain ⟨_, T13, Lc13, X13, hQ13, st13⟩ := own_cV X8 hx hZ hown E8 (rm52_1 l Z a0 hw [] r0 x8 x7 h0 n0 O0 f10 hc11 f6 hc12) f3 (w 335 rfl) (w 336 rfl) (w 338 rfl) (w 337 rfl) (w 339 rfl) (w 202 rfl) (by decide) (W := 0) (by decide) (by decide) (by decide) (by decide) (g := (mkF m 11 #[lR r0, lI x1] [(.ref r0)])) rfl (by rw [hml]; rfl) (argsL := []) (rest := []) (lenOf pd___Z rfl) rfl (own_W rfl) (hb hby d51_11)
  obtain ⟨rfl, N13q, E13⟩ := hQ13
  have N13 := Fr.app N8 N13q
  obtain ⟨_, T15, Lc15, X15, hQ15, st15⟩ := own_cS X13 hx hZ hown E13 (rm53_1 l Z a0 hw [] x1 h0 n0 O0 hc14) (w 340 rfl) (w 341 rfl) (w 342 rfl) (w 343 rfl) (by decide) (W := 0) (by decide) (by decide) (by decide) (by decide) (g := (mkF m 18 #[lR r0, lI x1] [(.int x1)])) rfl (by rw [hml]; rfl) (argsL := [(.int x1)]) (rest := []) (lenOf pd__C_Z rfl) rfl (own_W rfl) (hb hby d51_18)
  obtain ⟨rfl, N15q, E15⟩ := hQ15
  have N15 := Fr.app N13 N15q
  obtain ⟨T16, X16, e16, st16⟩ := getF X15 hx hZ hown (host := "") (Or.inl (w 206 rfl)) Via.refl E15 f4 (g := (mkF m 25 #[lR r0, lI x1] [(.ref r0)])) rfl rfl (hb hby d51_25)
  obtain ⟨T17, X17, e17, st17⟩ := getF X16 hx hZ hown (host := "") (Or.inl (w 233 rfl)) Via.refl e16 f1 (g := (mkF m 30 #[lR r0, lI x1] [(.ref r0), (.ref r0), (.ref r3)])) rfl rfl (hb hby d51_30)
  obtain ⟨T19, h19, X19, e19, W19, st19⟩ := putF X17 hx hZ hown (host := "") (Or.inl (w 233 rfl)) Via.refl e17 f1 f3 (Or.inl (w 234 rfl)) (w 193 rfl) (ty := .int) (by decide) rfl rfl (g := (mkF m 36 #[lR r0, lI x1] [(.int (x2 + (1 : Int32))), (.ref r0), (.int x2), (.ref r3)])) rfl rfl (hb hby d51_36)
  have Fw19 := f1.same W19
  have N19 := Fr.snoc X19 N15 g18
  have f21 := (f5.other W19 n20)
  obtain ⟨clq22, Arq22, qq22, Sq22, Nq22, Hq22, Gq22⟩ := id f21
  obtain ⟨T27, h27, X27, e27, W27, st27⟩ := stB X19 hx hZ e19 Arq22 (j := x2) (inb_of Sq22 ⟨hc25, hc26⟩) (g := (mkF m 41 #[lR r0, lI x1] [(.int (x1.toInt8.toInt32)), (.int x2), (.ref r3)])) rfl rfl (hb hby d51_41)
  have V27 : Arv Z h27 r3 c5 .byte x4 (t6.set (x2).toNatClampNeg (.int ((x1.toInt8.toInt32).toInt8.toInt32))) vI0 := Arv.set Arq22 qq22 Sq22 Nq22 Hq22 Gq22 (fits_nar_byte _) W27 _ rfl hc24
  have N27 := Fr.snoc X27 N19 g23
  have f28 := (Fw19.other W27 (Or.inl (Ne.symm n20)))
  have f29 := ((f4.other W19 (Or.inr (slot_ne (Or.inl (w 207 rfl)) (Or.inl (w 234 rfl)) (by decide) (t := (.array .byte)) (t' := .int) (by decide) (by decide)))).other W27 (Or.inl (Ne.symm n20)))
  have f30 := ((f6.other W19 (Or.inr (slot_ne (Or.inl (w 209 rfl)) (Or.inl (w 234 rfl)) (by decide) (t := .byte) (t' := .int) (by decide) (by decide)))).other W27 (Or.inl (Ne.symm n20)))
  have kp31 : Keep h0 h19 [r0, r3] := (Keep.refl h0 [r0, r3]).wr W19 (Or.inl (List.mem_of_getElem? (i := 0) rfl))
  have kp32 : Keep h0 h27 [r0, r3] := kp31.wr W27 (Or.inl (List.mem_of_getElem? (i := 1) rfl))
  refine ⟨some (.ref r0), _, _, _, _, nofun, X27, by decide, by decide, ?_, fun fs hr => ?_⟩
  · rw [e27]; exact ⟨rfl, N27, kp32, f28, f29, f30, V27⟩
  · show SG p e below s₁ (mkF m 0 #[lR r0, lI x1] []) _
    refine qaN X0 hx hby d51_0 ?_
    refine qaN X0 hx hby d51_1 ?_
    refine st2 _ ?_
    refine qc X2 hx hby d51_5 ?_
    refine XS.iadd X2.here hx rfl (hb hby d51_6) rfl ?_
    refine st8.trans ?_
    refine qaN X8 hx hby d51_10 ?_
    refine st13 _ ?_
    refine XS.ifNo X13.here hx rfl (hb hby d51_14) rfl ((if0 _ _).trans (feq (by decide : ¬ ((1 : Int32) = (0 : Int32)))).1) ?_
    refine qiN X13 hx hby d51_17 ?_
    refine st15 _ ?_
    refine XS.ifNo X15.here hx rfl (hb hby d51_21) rfl ((if0 _ _).trans (feq (by decide : ¬ ((1 : Int32) = (0 : Int32)))).1) ?_
    refine qaN X15 hx hby d51_24 ?_
    refine st16 _ ?_
    refine qaN X16 hx hby d51_28 ?_
    refine qd X16 hx hby d51_29 ?_
    refine st17 _ ?_
    refine XS.dupX1 X17.here hx rfl (hb hby d51_33) rfl rfl rfl ?_
    refine qc X17 hx hby d51_34 ?_
    refine XS.iadd X17.here hx rfl (hb hby d51_35) rfl ?_
    refine st19 _ ?_
    refine qiN X19 hx hby d51_39 ?_
    refine XS.i2b X19.here hx rfl (hb hby d51_40) rfl ?_
    refine st27 _ ?_
    refine XS.goto X27.here hx rfl (pc0 := 42) (pc' := 75) rfl (hb hby d51_42) (by decide) (by decide) ?_
    show SG p e below T27 (mkF m 75 #[lR r0, lI x1] []) _
    refine qaN X27 hx hby d51_75 ?_
    exact retOut X27 hx (i := .areturn) hret rfl (Or.inr (Or.inr (Or.inr (Or.inr ⟨rfl, rfl, rfl⟩)))) (hb hby d51_76) hr
theorem pd__C_Ljava_lang_AbstractStringBuilder_ : parseMethodDescriptor "(C)Ljava/lang/AbstractStringBuilder;" = some ⟨[.char], some (.object "java/lang/AbstractStringBuilder")⟩ := by decide +kernel
theorem d50_5 : DK cB50 5 (.pop) 1 := by decide +kernel
theorem d50_6 : DK cB50 6 (.aload_n 0) 1 := by decide +kernel
theorem d50_7 : DK cB50 7 (.areturn) 1 := by decide +kernel
def Q50_1 (Z : State) (r0 : Addr) (x1 x2 : Int32) (r3 : Addr) (x4 : Int32) (c5 : ClassId) (t6 : List Value) (x7 : Int32) (h0 : Heap) (n0 : Nat) (v : Option Value) (h : Heap) (L : List Loc) : Prop := v = some (.ref r0) ∧ Fr n0 L ∧ Keep h0 h [r0, r3] ∧ Fld Z h r0 cs22 "count" "I" (.int (x2 + (1 : Int32))) ∧ Fld Z h r0 cs22 "value" "[B" (.ref r3) ∧ Fld Z h r0 cs22 "coder" "B" (.int x7) ∧ Arv Z h r3 c5 .byte x4 (t6.set (x2).toNatClampNeg (.int ((x1.toInt8.toInt32).toInt8.toInt32))) vI0
theorem rm50_1 (l : Launch) (Z : State) (a0 : Array Value) (hw : own_HW a0 Z) (ws : List Jvm.Cond) (r0 : Addr) (x1 x2 : Int32) (r3 : Addr) (x4 : Int32) (c5 : ClassId) (t6 : List Value) (x7 x8 : Int32) (h0 : Heap) (n0 : Nat) (O0 : Old Z n0 h0) (f1 : Fld Z h0 r0 cs22 "count" "I" (.int x2)) (f2 : Exa Z h0 r0 cs23) (f3 : Fld Z h0 r0 cs22 "value" "[B" (.ref r3)) (f4 : Arv Z h0 r3 c5 .byte x4 t6 vI0) (f5 : Fld Z h0 r0 cs22 "coder" "B" (.int x7)) (hc6 : ¬ ((0 : Int32) < ((x2 + (1 : Int32)) - (x4 >>> (x7 &&& 31))))) (f7 : Sta Z Z.heap cs8 cs9 "Z" (.int x8)) (hc8 : ¬ (x8 = (0 : Int32))) (hc9 : x7 = (0 : Int32)) (hc10 : ¬ ((255 : Int32) < x1)) (g11 : n0 ≤ r0) (n12 : r3 ≠ r0) (g13 : n0 ≤ r3) (hc14 : (x2).toNatClampNeg < t6.length) (hc15 : ¬ (x2 < (0 : Int32))) (hc16 : x2 < x4) :
    own_MF l mN65 jdk_67_method_14_code 2 (some (.object cs23)) ws rR2_0_0_27 Z h0 #[(.ref r0), (.int x1)] (Q50_1 Z r0 x1 x2 r3 x4 c5 t6 x7 h0 n0) := by
  refine own_open (plainFor_of_name pn_java_lang_StringBuilder) (L0 := #[lR r0, lI x1]) (fun _ => by first | (simp [entryFrame, mkF, argsToLocals, Value.category]; done) | rfl) ?_
  intro p e s m below meth c s₁ hx hby hml hret hnn hZ hown X0 e0
  have N0 := Fr.nil n0; have w := @ww Z a0 hw
  obtain ⟨_, T17, Lc17, X17, hQ17, st17⟩ := own_fin (superBack X0 hx hZ (y := mN64) hown (w 331 rfl) (own_sameOwn (y := mN64) (w 238 rfl) rfl (w 332 rfl) (by decide)) (w 332 rfl) (w 220 rfl) (by decide) (backOf (W := 0) (rm51_1 l Z a0 hw [] r0 x1 x2 r3 x4 c5 t6 x7 x8 h0 n0 O0 f1 f2 f3 f4 f5 hc6 f7 hc8 hc9 hc10 g11 n12 g13 hc14 hc15 hc16) hZ (w 334 rfl) (w 202 rfl) (by decide) (by decide)) e0 (Ins.self f2) (g := (mkF m 2 #[lR r0, lI x1] [(.int x1), (.ref r0)])) rfl (by rw [hml]; rfl) (w 334 rfl) (argsL := [(.int x1)]) (rest := []) (lenOf pd__C_Ljava_lang_AbstractStringBuilder_ rfl) rfl (own_W rfl) (hb hby d50_2) (fun _ _ => ⟨rfl, e0, (by decide : 0 + 0 ≤ _), (by decide : 0 + 0 ≤ _)⟩))
  obtain ⟨rfl, N17q, K17, f18, f19, f20, f21⟩ := hQ17
  have N17 := Fr.app N0 N17q
  have kp22 : Keep h0 T17.heap [r0, r3] := (Keep.refl h0 [r0, r3]).trans K17 (allS (Or.inl (List.mem_of_getElem? (i := 0) rfl)) (allS (Or.inl (List.mem_of_getElem? (i := 1) rfl)) all0))
  refine ⟨some (.ref r0), _, _, _, _, nofun, X17, by decide, by decide, ?_, fun fs hr => ?_⟩
  · exact ⟨rfl, N17, kp22, f18, f19, f20, f21⟩
  · show SG p e below s₁ (mkF m 0 #[lR r0, lI x1] []) _
    refine qaN X0 hx hby d50_0 ?_
    refine qiN X0 hx hby d50_1 ?_
    refine st17.trans ?_
    refine XS.pop X17.here hx rfl (hb hby d50_5) rfl rfl ?_
    refine qaN X17 hx hby d50_6 ?_
    exact retOut X17 hx (i := .areturn) hret rfl (Or.inr (Or.inr (Or.inr (Or.inr ⟨rfl, rfl, rfl⟩)))) (hb hby d50_7) hr
theorem pd__C_Ljava_lang_StringBuilder_ : parseMethodDescriptor "(C)Ljava/lang/StringBuilder;" = some ⟨[.char], some (.object "java/lang/StringBuilder")⟩ := by decide +kernel
theorem own_setx {Z : State} {h : Heap} {a : Addr} {k : ClassId} {ty : FieldType} {z : Int32} {A : List Value} {d v : Value} {p n : Nat} (h1 : p = n) (V : Arv Z h a k ty z (A.set p v) d) : Arv Z h a k ty z (A.set n v) d := by subst h1; exact V
theorem d45_31 : DK cB45 31 (.pop) 1 := by decide +kernel
theorem d45_32 : DK cB45 32 (.aload_n 1) 1 := by decide +kernel
theorem d45_33 : DK cB45 33 (.invokeinterface 23 1) 5 := by decide +kernel
theorem d54_0 : DK cB54 0 (.aload_n 0) 1 := by decide +kernel
theorem d54_1 : DK cB54 1 (.getfield 17) 3 := by decide +kernel
theorem d54_4 : DK cB54 4 (.istore_n 1) 1 := by decide +kernel
theorem d54_5 : DK cB54 5 (.aload_n 0) 1 := by decide +kernel
theorem d54_6 : DK cB54 6 (.getfield 7) 3 := by decide +kernel
theorem d54_9 : DK cB54 9 (.iload_n 1) 1 := by decide +kernel
theorem d54_10 : DK cB54 10 (.invokeinterface 24 2) 5 := by decide +kernel
theorem d55_0 : DK cB55 0 (.iload_n 1) 1 := by decide +kernel
theorem d55_1 : DK cB55 1 (.ifCond .ne 8) 3 := by decide +kernel
theorem d55_4 : DK cB55 4 (.aload_n 0) 1 := by decide +kernel
theorem d55_5 : DK cB55 5 (.getfield 13) 3 := by decide +kernel
theorem d55_8 : DK cB55 8 (.areturn) 1 := by decide +kernel
def Q55_1 (Z : State) (r1 : Addr) (h0 : Heap) (n0 : Nat) (v : Option Value) (h : Heap) (L : List Loc) : Prop := v = some (.ref r1) ∧ Fr n0 L ∧ h = h0
theorem rm55_1 (l : Launch) (Z : State) (a0 : Array Value) (hw : own_HW a0 Z) (ws : List Jvm.Cond) (r0 r1 : Addr) (h0 : Heap) (n0 : Nat) (O0 : Old Z n0 h0) (f1 : Fld Z h0 r0 cs45 "e0" cs46 (.ref r1)) :
    own_MF l mN66 jdk_44_method_5_code 2 (some (.object cs5)) ws rR0_0_0_0 Z h0 #[(.ref r0), vI0] (Q55_1 Z r1 h0 n0) := by
  refine own_open (plainFor_of_name pn_java_util_ImmutableCollections_List12) (L0 := #[lR r0, lV vI0]) (fun _ => by first | (simp [entryFrame, mkF, argsToLocals, Value.category]; done) | rfl) ?_
  intro p e s m below meth c s₁ hx hby hml hret hnn hZ hown X0 e0
  have N0 := Fr.nil n0
  obtain ⟨T2, X2, e2, st2⟩ := getF X0 hx hZ hown (host := "") (Or.inl (ww hw 180 rfl)) Via.refl e0 f1 (g := (mkF m 5 #[lR r0, lV vI0] [(.ref r0)])) rfl rfl (hb hby d55_5)
  refine ⟨some (.ref r1), _, _, _, _, nofun, X2, by decide, by decide, ?_, fun fs hr => ?_⟩
  · rw [e2]; exact ⟨rfl, N0, rfl⟩
  · show SG p e below s₁ (mkF m 0 #[lR r0, lV vI0] []) _
    refine qiN X0 hx hby d55_0 ?_
    refine XS.ifNo X0.here hx rfl (hb hby d55_1) rfl ((if0 _ _).trans (teq (rfl : (0 : Int32) = (0 : Int32))).2) ?_
    refine qaN X0 hx hby d55_4 ?_
    refine st2 _ ?_
    exact retOut X2 hx (i := .areturn) hret rfl (Or.inr (Or.inr (Or.inr (Or.inr ⟨rfl, rfl, rfl⟩)))) (hb hby d55_8) hr
theorem pd__I_Ljava_lang_Object_ : parseMethodDescriptor "(I)Ljava/lang/Object;" = some ⟨[.int], some (.object "java/lang/Object")⟩ := by decide +kernel
theorem d54_15 : DK cB54 15 (.astore_n 2) 1 := by decide +kernel
theorem d54_16 : DK cB54 16 (.aload_n 0) 1 := by decide +kernel
theorem d54_17 : DK cB54 17 (.iload_n 1) 1 := by decide +kernel
theorem d54_18 : DK cB54 18 (.iconst 1) 1 := by decide +kernel
theorem d54_19 : DK cB54 19 (.iadd) 1 := by decide +kernel
theorem d54_20 : DK cB54 20 (.putfield 17) 3 := by decide +kernel
theorem d54_23 : DK cB54 23 (.aload_n 2) 1 := by decide +kernel
theorem d54_24 : DK cB54 24 (.areturn) 1 := by decide +kernel
def Q54_1 (Z : State) (r0 r1 r2 : Addr) (h0 : Heap) (n0 : Nat) (v : Option Value) (h : Heap) (L : List Loc) : Prop := v = some (.ref r2) ∧ Fr n0 L ∧ Keep h0 h [r0] ∧ Fld Z h r0 cs33 "cursor" "I" vI1 ∧ Fld Z h r0 cs33 "list" cs20 (.ref r1) ∧ Fld Z h r0 cs33 "size" "I" vI1 ∧ Fld Z h r0 cs33 cs34 "Z" vI0
theorem rm54_1 (l : Launch) (Z : State) (a0 : Array Value) (hw : own_HW a0 Z) (ws : List Jvm.Cond) (r0 r1 r2 : Addr) (h0 : Heap) (n0 : Nat) (O0 : Old Z n0 h0) (f1 : Fld Z h0 r0 cs33 "cursor" "I" vI0) (f3 : Fld Z h0 r0 cs33 "list" cs20 (.ref r1)) (f5 : Exa Z h0 r1 cs45) (f6 : Fld Z h0 r1 cs45 "e0" cs46 (.ref r2)) (f8 : Exa Z h0 r0 cs33) (g9 : n0 ≤ r0) (f11 : Fld Z h0 r0 cs33 "size" "I" vI1) (f13 : Fld Z h0 r0 cs33 cs34 "Z" vI0) :
    MetFree l mN67 (head1 (Jvm.Cond.codeWith mN67 jdk_53_method_4_code 3 (some (.object cs5)) [((0 : Nat), (24 : Nat), (25 : Nat), (30 : Nat))] :: ws) rR1_0_0_13) (fun a U => a = #[(.ref r0)] ∧ Z.Warmed39 U.vm ∧ U.heap = h0) (fun _ _ _ _ _ => True) (fun _ U o U' => ∃ v L, o = .returned v ∧ Q54_1 Z r0 r1 r2 h0 n0 v U'.heap L ∧ FrameEnd U o U' L rR1_0_0_13.cells rR1_0_0_13.slots) := by
  refine MetFree.of_bodySF (plainFor_of_name pn_java_util_ImmutableCollections_ListItr) hisWith ?_
  intro p e s m args below meth c s₁ Bd hml0 hP hK
  obtain ⟨rfl, hZ, hh⟩ := hP
  have hx := Bd.exec
  have hby := Bd.bytes
  have hml : c.maxLocals = 3 := hml0
  have hown : s.vm.findClass cs33 = some m.cls := findClass_of_methodNamed Bd.named
  have X0 : Stand p l e rR1_0_0_13 s m #[(.ref r0)] below meth c s₁ [] 0 0 := Stand.of_body Bd
  have e0 : s₁.heap = h0 := by rw [← hh, Bd.state]; rfl
  have N0 := Fr.nil n0; have w := @ww Z a0 hw
  have pre0 : ∀ t, Steps p.tables e below (s₁.setTop (mkF m 0 #[lR r0, lU, lU] [])) t → Steps p.tables e below (s₁.setTop (entryFrame m #[(.ref r0)] 3)) t := fun t k => castTop (by first | (simp [entryFrame, mkF, argsToLocals, Value.category]; done) | rfl) k
  obtain ⟨T2, X2, e2, st2⟩ := getF X0 hx hZ hown (host := "") (Or.inl (w 310 rfl)) Via.refl e0 f1 (g := (mkF m 1 #[lR r0, lU, lU] [(.ref r0)])) rfl rfl (hb hby d54_1)
  obtain ⟨T4, X4, e4, st4⟩ := getF X2 hx hZ hown (host := "") (Or.inl (w 306 rfl)) Via.refl e2 f3 (g := (mkF m 6 #[lR r0, lV vI0, lU] [(.ref r0)])) rfl rfl (hb hby d54_6)
  obtain ⟨_, T7, Lc7, X7, hQ7, st7⟩ := own_cI (xi := mN68) X4 hx hZ hown e4 (rm55_1 l Z a0 hw [] r1 r2 h0 n0 O0 f6) f5 (w 352 rfl) (w 353 rfl) (w 354 rfl) (w 355 rfl) (w 356 rfl) (w 357 rfl) (w 358 rfl) (w 359 rfl) (w 360 rfl) (w 157 rfl) (by decide) (W := 0) (by decide) (by decide) (by decide) (by decide) (g := (mkF m 10 #[lR r0, lV vI0, lU] [vI0, (.ref r1)])) rfl (by rw [hml]; rfl) (argsL := [vI0]) (rest := []) (lenOf pd__I_Ljava_lang_Object_ rfl) rfl (own_W rfl) (hb hby d54_10)
  obtain ⟨rfl, N7q, E7⟩ := hQ7
  have N7 := Fr.app N0 N7q
  obtain ⟨T10, h10, X10, e10, W10, st10⟩ := putF X7 hx hZ hown (host := "") (Or.inl (w 310 rfl)) Via.refl E7 f1 f8 (Or.inl (w 311 rfl)) (w 293 rfl) (ty := .int) (by decide) rfl rfl (g := (mkF m 20 #[lR r0, lV vI0, lR r2] [vI1, (.ref r0)])) rfl rfl (hb hby d54_20)
  have Fw10 := f1.same W10
  have N10 := Fr.snoc X10 N7 g9
  have f12 := (f11.other W10 (Or.inr (slot_ne (Or.inr (w 309 rfl)) (Or.inl (w 311 rfl)) (by decide) (t := .int) (t' := .int) (by decide) (by decide))))
  have f14 := (f13.other W10 (Or.inr (slot_ne (Or.inr (w 313 rfl)) (Or.inl (w 311 rfl)) (by decide) (t := .boolean) (t' := .int) (by decide) (by decide))))
  have f15 := (f3.other W10 (Or.inr (slot_ne (Or.inr (w 307 rfl)) (Or.inl (w 311 rfl)) (by decide) (t := (.object cs11)) (t' := .int) (by decide) (by decide))))
  have kp16 : Keep h0 h10 [r0] := (Keep.refl h0 [r0]).wr W10 (Or.inl (List.mem_of_getElem? (i := 0) rfl))
  obtain ⟨fs, hr, hrun, hended, hW, hsame⟩ := X10.leave (v := some (.ref r2)) (fun h => by rw [Bd.returns] at h; cases h)
  refine ⟨_, _, pre0 _ ?_, hrun, hended, _, _, rfl, ?_, ⟨_, rfl⟩, hW, hsame.mono (by decide) (by decide)⟩
  · show SG p e below s₁ (mkF m 0 #[lR r0, lU, lU] []) _
    refine qaN X0 hx hby d54_0 ?_
    refine st2 _ ?_
    refine XS.istoreN X2.here hx rfl (hb hby d54_4) rfl (l' := #[lR r0, lV vI0, lU]) rfl ?_
    refine qaN X2 hx hby d54_5 ?_
    refine st4 _ ?_
    refine qiN X4 hx hby d54_9 ?_
    refine st7 _ ?_
    refine XS.astoreN X7.here hx rfl (hb hby d54_15) rfl rfl (l' := #[lR r0, lV vI0, lR r2]) rfl ?_
    refine qaN X7 hx hby d54_16 ?_
    refine qiN X7 hx hby d54_17 ?_
    refine qc X7 hx hby d54_18 ?_
    refine XS.iadd X7.here hx rfl (hb hby d54_19) rfl ?_
    refine st10 _ ?_
    refine qaN X10 hx hby d54_23 ?_
    exact retOut X10 hx (i := .areturn) Bd.returns rfl (Or.inr (Or.inr (Or.inr (Or.inr ⟨rfl, rfl, rfl⟩)))) (hb hby d54_24) hr
  · show Q54_1 Z r0 r1 r2 h0 n0 _ T10.heap _
    rw [e10]
    exact ⟨rfl, N10, kp16, Fw10, f15, f12, f14⟩
theorem pd___Ljava_lang_Object_ : parseMethodDescriptor "()Ljava/lang/Object;" = some ⟨[], some (.object "java/lang/Object")⟩ := by decide +kernel
theorem d45_38 : DK cB45 38 (.astore_n 3) 1 := by decide +kernel
theorem d45_39 : DK cB45 39 (.aload_n 2) 1 := by decide +kernel
theorem d45_40 : DK cB45 40 (.aload_n 3) 1 := by decide +kernel
theorem d45_41 : DK cB45 41 (.aload_n 0) 1 := by decide +kernel
theorem d45_42 : DK cB45 42 (.if_acmp .ne 8) 3 := by decide +kernel
theorem d45_50 : DK cB45 50 (.aload_n 3) 1 := by decide +kernel
theorem d45_51 : DK cB45 51 (.invokevirtual 103) 3 := by decide +kernel
theorem d56_0 : DK cB56 0 (.aload_n 0) 1 := by decide +kernel
theorem d56_1 : DK cB56 1 (.areturn) 1 := by decide +kernel
def Q56_1 (Z : State) (r0 : Addr) (h0 : Heap) (n0 : Nat) (v : Option Value) (h : Heap) (L : List Loc) : Prop := v = some (.ref r0) ∧ Fr n0 L ∧ h = h0
theorem rm56_1 (l : Launch) (Z : State) (a0 : Array Value) (hw : own_HW a0 Z) (ws : List Jvm.Cond) (r0 : Addr) (h0 : Heap) (n0 : Nat) (O0 : Old Z n0 h0) :
    own_MF l mN69 jdk_42_method_126_code 1 (some (.object cs8)) ws rR0_0_0_0 Z h0 #[(.ref r0)] (Q56_1 Z r0 h0 n0) := by
  refine own_open (plainFor_of_name pn_java_lang_String) (L0 := #[lR r0]) (fun _ => by first | (simp [entryFrame, mkF, argsToLocals, Value.category]; done) | rfl) ?_
  intro p e s m below meth c s₁ hx hby hml hret hnn hZ hown X0 e0
  have N0 := Fr.nil n0
  refine ⟨some (.ref r0), _, _, _, _, nofun, X0, by decide, by decide, ?_, fun fs hr => ?_⟩
  · rw [e0]; exact ⟨rfl, N0, rfl⟩
  · show SG p e below s₁ (mkF m 0 #[lR r0] []) _
    refine qaN X0 hx hby d56_0 ?_
    exact retOut X0 hx (i := .areturn) hret rfl (Or.inr (Or.inr (Or.inr (Or.inr ⟨rfl, rfl, rfl⟩)))) (hb hby d56_1) hr
def Q44_2 (Z : State) (r0 : Addr) (h0 : Heap) (n0 : Nat) (v : Option Value) (h : Heap) (L : List Loc) : Prop := v = some (.ref r0) ∧ Fr n0 L ∧ h = h0
theorem rm44_2 (l : Launch) (Z : State) (a0 : Array Value) (hw : own_HW a0 Z) (ws : List Jvm.Cond) (r0 : Addr) (h0 : Heap) (n0 : Nat) (O0 : Old Z n0 h0) (f1 : Exa Z h0 r0 cs8) :
    own_MF l mN34 jdk_42_method_133_code 1 (some (.object cs8)) ws rR1_0_0_12 Z h0 #[(.ref r0)] (Q44_2 Z r0 h0 n0) := by
  refine own_open (plainFor_of_name pn_java_lang_String) (L0 := #[lR r0]) (fun _ => by first | (simp [entryFrame, mkF, argsToLocals, Value.category]; done) | rfl) ?_
  intro p e s m below meth c s₁ hx hby hml hret hnn hZ hown X0 e0
  have N0 := Fr.nil n0; have w := @ww Z a0 hw
  obtain ⟨cqq3, kqq3, qq3a, qq3b, qq3c⟩ := isOf hZ e0 f1
  obtain ⟨_, T2, Lc2, X2, hQ2, st2⟩ := own_fin (X0.virtualBack hx (y := mN35) (z := mN69) hown (mvT hZ (w 281 rfl)) (mvT hZ (w 282 rfl)) (nf_top (args := #[]) (mvT hZ (w 111 rfl))) (mvT hZ (w 362 rfl)) (mvT hZ (w 363 rfl)) (by decide) (backOf (W := 0) (rm56_1 l Z a0 hw [] r0 h0 n0 O0) hZ (w 364 rfl) (w 3 rfl) (by decide) (by decide)) qq3a qq3c (g := (mkF m 11 #[lR r0] [(.ref r0)])) rfl (by rw [hml]; rfl) (Steps.refl _) (argsL := []) (rest := []) (lenOf pd___Ljava_lang_String_ rfl) rfl (own_W rfl) (hb hby d44_11) (fun _ _ => ⟨rfl, e0, (by decide : 0 + 0 ≤ _), (by decide : 0 + 0 ≤ _)⟩))
  obtain ⟨rfl, N2q, E2⟩ := hQ2
  have N2 := Fr.app N0 N2q
  refine ⟨some (.ref r0), _, _, _, _, nofun, X2, by decide, by decide, ?_, fun fs hr => ?_⟩
  · rw [E2]; exact ⟨rfl, N2, rfl⟩
  · show SG p e below s₁ (mkF m 0 #[lR r0] []) _
    refine qaN X0 hx hby d44_0 ?_
    refine XS.ifnonnullYes X0.here hx rfl (pc0 := 1) (pc' := 10) rfl (hb hby d44_1) rfl (by decide) (by decide) ?_
    refine qaN X0 hx hby d44_10 ?_
    refine st2.trans ?_
    exact retOut X2 hx (i := .areturn) hret rfl (Or.inr (Or.inr (Or.inr (Or.inr ⟨rfl, rfl, rfl⟩)))) (hb hby d44_14) hr
def Q43_2 (Z : State) (r0 : Addr) (x4 x5 : Int32) (r7 : Addr) (c8 : ClassId) (h0 : Heap) (n0 : Nat) (v : Option Value) (h : Heap) (L : List Loc) : Prop := v = some (.ref r0) ∧ Fr n0 L ∧ Keep h0 h [r7, r0] ∧ Arv Z h r7 c8 .byte (16 : Int32) [vI91, (.int x4), (.int x5), vI0, vI0, vI0, vI0, vI0, vI0, vI0, vI0, vI0, vI0, vI0, vI0, vI0] vI0 ∧ Fld Z h r0 cs22 "count" "I" vI3 ∧ Fld Z h r0 cs22 "value" "[B" (.ref r7) ∧ Fld Z h r0 cs22 "coder" "B" vI0
theorem rm43_2 (l : Launch) (Z : State) (a0 : Array Value) (hw : own_HW a0 Z) (ws : List Jvm.Cond) (r0 r1 r2 : Addr) (c3 : ClassId) (x4 x5 x6 : Int32) (r7 : Addr) (c8 : ClassId) (h0 : Heap) (n0 : Nat) (O0 : Old Z n0 h0) (f1 : Exa Z h0 r1 cs8) (f3 : Exa Z h0 r0 cs23) (f4 : Fld Z h0 r1 cs8 "value" "[B" (.ref r2)) (f5 : Arv Z h0 r2 c3 .byte (2 : Int32) [(.int x4), (.int x5)] vI0) (f6 : Sta Z Z.heap cs8 cs9 "Z" (.int x6)) (hc7 : ¬ (x6 = (0 : Int32))) (f8 : Fld Z h0 r1 cs8 "coder" "B" vI0) (f9 : Fld Z h0 r0 cs22 "count" "I" vI1) (f10 : Fld Z h0 r0 cs22 "value" "[B" (.ref r7)) (f11 : Arv Z h0 r7 c8 .byte (16 : Int32) [vI91, vI0, vI0, vI0, vI0, vI0, vI0, vI0, vI0, vI0, vI0, vI0, vI0, vI0, vI0, vI0] vI0) (f12 : Fld Z h0 r0 cs22 "coder" "B" vI0) (g13 : n0 ≤ r7) (n14 : r0 ≠ r7) (g15 : n0 ≤ r0) :
    own_MF l mN36 jdk_67_method_6_code 2 (some (.object cs23)) ws rR5_0_0_80 Z h0 #[(.ref r0), (.ref r1)] (Q43_2 Z r0 x4 x5 r7 c8 h0 n0) := by
  refine own_open (plainFor_of_name pn_java_lang_StringBuilder) (L0 := #[lR r0, lR r1]) (fun _ => by first | (simp [entryFrame, mkF, argsToLocals, Value.category]; done) | rfl) ?_
  intro p e s m below meth c s₁ hx hby hml hret hnn hZ hown X0 e0
  have N0 := Fr.nil n0; have w := @ww Z a0 hw
  obtain ⟨_, T2, Lc2, X2, hQ2, st2⟩ := own_cS X0 hx hZ hown e0 (rm44_2 l Z a0 hw [] r1 h0 n0 O0 f1) (w 278 rfl) (w 279 rfl) (w 3 rfl) (w 280 rfl) (by decide) (W := 1) (by decide) (by decide) (by decide) (by decide) (g := (mkF m 2 #[lR r0, lR r1] [(.ref r1), (.ref r0)])) rfl (by rw [hml]; rfl) (argsL := [(.ref r1)]) (rest := [(.ref r0)]) (lenOf pd__Ljava_lang_Object__Ljava_lang_String_ rfl) rfl (own_W rfl) (hb hby d43_2)
  obtain ⟨rfl, N2q, E2⟩ := hQ2
  have N2 := Fr.app N0 N2q
  obtain ⟨_, T16, Lc16, X16, hQ16, st16⟩ := own_cV X2 hx hZ hown E2 (rm32_2 l Z a0 hw [] r0 r1 r2 (2 : Int32) c3 ([(.int x4), (.int x5)]) x6 (0 : Int32) (1 : Int32) r7 (16 : Int32) c8 ([vI91, vI0, vI0, vI0, vI0, vI0, vI0, vI0, vI0, vI0, vI0, vI0, vI0, vI0, vI0, vI0]) (0 : Int32) h0 n0 O0 f1 f4 f5 f6 hc7 f8 f9 f3 f10 f11 f12 (by decide) (by decide) (by decide) (own_lenK (n := 2) rfl (by decide) : [(.int x4), (.int x5)].length = ((2 : Int32)).toNatClampNeg) (by decide) (by decide) (by decide) (by decide) g13 n14 g15) f3 (w 365 rfl) (w 214 rfl) (w 216 rfl) (w 215 rfl) (w 217 rfl) (w 194 rfl) (by decide) (W := 0) (by decide) (by decide) (by decide) (by decide) (g := (mkF m 5 #[lR r0, lR r1] [(.ref r1), (.ref r0)])) rfl (by rw [hml]; rfl) (argsL := [(.ref r1)]) (rest := []) (lenOf pd__Ljava_lang_String__Ljava_lang_StringBuilder_ rfl) rfl (own_W rfl) (hb hby d43_5)
  obtain ⟨rfl, N16q, K16, f17, f18, f19, f20⟩ := hQ16
  have N16 := Fr.app N2 N16q
  have f21 : Arv Z T16.heap r7 c8 .byte (16 : Int32) [vI91, (.int x4), (.int x5), vI0, vI0, vI0, vI0, vI0, vI0, vI0, vI0, vI0, vI0, vI0, vI0, vI0] vI0 := own_cpx (by decide : (((1 : Int32) <<< ((0 : Int32) &&& 31))).toNatClampNeg = 1) (by decide : (((1 : Int32) <<< ((0 : Int32) &&& 31))).toNatClampNeg + ((2 : Int32)).toNatClampNeg = 3) f17
  have kp22 : Keep h0 T16.heap [r7, r0] := (Keep.refl h0 [r7, r0]).trans K16 (allS (Or.inl (List.mem_of_getElem? (i := 0) rfl)) (allS (Or.inl (List.mem_of_getElem? (i := 1) rfl)) all0))
  refine ⟨some (.ref r0), _, _, _, _, nofun, X16, by decide, by decide, ?_, fun fs hr => ?_⟩
  · exact ⟨rfl, N16, kp22, f21, f18, f19, f20⟩
  · show SG p e below s₁ (mkF m 0 #[lR r0, lR r1] []) _
    refine qaN X0 hx hby d43_0 ?_
    refine qaN X0 hx hby d43_1 ?_
    refine st2 _ ?_
    refine st16 _ ?_
    exact retOut X16 hx (i := .areturn) hret rfl (Or.inr (Or.inr (Or.inr (Or.inr ⟨rfl, rfl, rfl⟩)))) (hb hby d43_8) hr
theorem d45_54 : DK cB45 54 (.pop) 1 := by decide +kernel
theorem d45_55 : DK cB45 55 (.aload_n 1) 1 := by decide +kernel
theorem d45_56 : DK cB45 56 (.invokeinterface 17 1) 5 := by decide +kernel
def Q49_3 (Z : State)  (h0 : Heap) (n0 : Nat) (v : Option Value) (h : Heap) (L : List Loc) : Prop := v = some vI0 ∧ Fr n0 L ∧ h = h0
theorem rm49_3 (l : Launch) (Z : State) (a0 : Array Value) (hw : own_HW a0 Z) (ws : List Jvm.Cond) (r0 : Addr) (h0 : Heap) (n0 : Nat) (O0 : Old Z n0 h0) (f1 : Fld Z h0 r0 cs33 "cursor" "I" vI1) (f3 : Fld Z h0 r0 cs33 "size" "I" vI1) :
    own_MF l mN30 jdk_53_method_3_code 1 (some .boolean) ws rR0_0_0_0 Z h0 #[(.ref r0)] (Q49_3 Z  h0 n0) := by
  refine own_open (plainFor_of_name pn_java_util_ImmutableCollections_ListItr) (L0 := #[lR r0]) (fun _ => by first | (simp [entryFrame, mkF, argsToLocals, Value.category]; done) | rfl) ?_
  intro p e s m below meth c s₁ hx hby hml hret hnn hZ hown X0 e0
  have N0 := Fr.nil n0
  obtain ⟨T2, X2, e2, st2⟩ := getF X0 hx hZ hown (host := "") (Or.inl (ww hw 310 rfl)) Via.refl e0 f1 (g := (mkF m 1 #[lR r0] [(.ref r0)])) rfl rfl (hb hby d49_1)
  obtain ⟨T4, X4, e4, st4⟩ := getF X2 hx hZ hown (host := "") (Or.inl (ww hw 308 rfl)) Via.refl e2 f3 (g := (mkF m 5 #[lR r0] [(.ref r0), vI1])) rfl rfl (hb hby d49_5)
  refine ⟨some vI0, _, _, _, _, nofun, X4, by decide, by decide, ?_, fun fs hr => ?_⟩
  · rw [e4]; exact ⟨rfl, N0, rfl⟩
  · show SG p e below s₁ (mkF m 0 #[lR r0] []) _
    refine qaN X0 hx hby d49_0 ?_
    refine st2 _ ?_
    refine qaN X2 hx hby d49_4 ?_
    refine st4 _ ?_
    refine XS.icmpYes X4.here hx rfl (pc0 := 8) (pc' := 15) rfl (hb hby d49_8) rfl (teq (rfl : (1 : Int32) = (1 : Int32))).1 (by decide) (by decide) ?_
    refine qc X4 hx hby d49_15 ?_
    exact retN X4 hx (t := .boolean) hret (by simp) (hb hby d49_16) hr
theorem d45_61 : DK cB45 61 (.ifCond .ne 13) 3 := by decide +kernel
theorem d45_64 : DK cB45 64 (.aload_n 2) 1 := by decide +kernel
theorem d45_65 : DK cB45 65 (.bipush 93) 2 := by decide +kernel
theorem d45_67 : DK cB45 67 (.invokevirtual 97) 3 := by decide +kernel
theorem d45_70 : DK cB45 70 (.invokevirtual 106) 3 := by decide +kernel
theorem d45_73 : DK cB45 73 (.areturn) 1 := by decide +kernel
def Q45_2 (Z : State) (x6 x7 : Int32) (h0 : Heap) (n0 : Nat) (v : Option Value) (h : Heap) (L : List Loc) : Prop := ∃ (b112_0 b112_1 : Addr) (k112_0 : ClassId), v = some (.ref b112_0) ∧ Fr n0 L ∧ Keep h0 h [] ∧ h0.size ≤ b112_0 ∧ Exa Z h b112_0 cs8 ∧ Fld Z h b112_0 cs8 "coder" "B" vI0 ∧ Fld Z h b112_0 cs8 "value" "[B" (.ref b112_1) ∧ h0.size ≤ b112_1 ∧ Arv Z h b112_1 k112_0 .byte (4 : Int32) [vI91, (.int x6), (.int x7), vI93] vI0 ∧ Exa Z h b112_1 "[B" ∧ b112_0 ≠ b112_1
theorem rm45_2 (l : Launch) (Z : State) (a0 : Array Value) (hw : own_HW a0 Z) (ws : List Jvm.Cond) (r0 r1 : Addr) (x2 : Int32) (r3 r4 : Addr) (c5 : ClassId) (x6 x7 : Int32) (h0 : Heap) (n0 : Nat) (O0 : Old Z n0 h0) (f1 : Exa Z h0 r0 cs45) (f2 : Fld Z h0 r0 cs45 "e1" cs46 (.ref r1)) (f3 : Sta Z Z.heap cs12 "EMPTY" cs46 (.ref r1)) (f18 : Sta Z Z.heap cs8 cs9 "Z" (.int x2)) (hc19 : ¬ (x2 = (0 : Int32))) (f47 : Fld Z h0 r0 cs45 "e0" cs46 (.ref r3)) (l48 : r0 < h0.size) (n66 : r3 ≠ r0) (f67 : Exa Z h0 r3 cs8) (f70 : Fld Z h0 r3 cs8 "value" "[B" (.ref r4)) (l71 : r3 < h0.size) (f76 : Arv Z h0 r4 c5 .byte (2 : Int32) [(.int x6), (.int x7)] vI0) (l77 : r4 < h0.size) (f82 : Fld Z h0 r3 cs8 "coder" "B" vI0) :
    own_MF l mN31 jdk_22_method_16_code 4 (some (.object cs8)) ws rR6_5_92_97 Z h0 #[(.ref r0)] (Q45_2 Z x6 x7 h0 n0) := by
  refine own_open (plainFor_of_name pn_java_util_AbstractCollection) (L0 := #[lR r0, lU, lU, lU]) (fun _ => by first | (simp [entryFrame, mkF, argsToLocals, Value.category]; done) | rfl) ?_
  intro p e s m below meth c s₁ hx hby hml hret hnn hZ hown X0 e0
  have N0 := Fr.nil n0; have w := @ww Z a0 hw
  obtain ⟨cqq5, kqq5, qq5a, qq5b, qq5c⟩ := isOf hZ e0 f1
  obtain ⟨_, T4, Lc4, X4, hQ4, st4⟩ := own_fin (X0.virtualBack hx (y := mN32) (z := mN28) hown (mvT hZ (w 287 rfl)) (mvT hZ (w 288 rfl)) (nf_super (args := #[]) (mvT hZ (w 110 rfl))) (mvT hZ (w 289 rfl)) (mvT hZ (w 290 rfl)) (by decide) (backOf (W := 0) (rm46_2 l Z a0 hw [] r0 r1 h0 n0 O0 f1 f2 f3) hZ (w 291 rfl) (w 166 rfl) (by decide) (by decide)) qq5a qq5c (g := (mkF m 1 #[lR r0, lU, lU, lU] [(.ref r0)])) rfl (by rw [hml]; rfl) (Steps.refl _) (argsL := []) (rest := []) (lenOf pd___Ljava_util_Iterator_ rfl) rfl (own_W rfl) (hb hby d45_1) (fun _ _ => ⟨rfl, e0, (by decide : 0 + 1 ≤ _), (by decide : 0 + 4 ≤ _)⟩))
  obtain ⟨b4_0, rfl, N4q, K4, f6, f7, f8, f9, f10, f11⟩ := hQ4
  have N4 := Fr.app N0 N4q
  have o12 := Old.keep O0 K4 all0
  obtain ⟨_, T13, Lc13, X13, hQ13, st13⟩ := own_cI (xi := mN33) X4 hx hZ hown rfl (rm49_2 l Z a0 hw [] b4_0 T4.heap n0 o12 f10 f9) f7 (w 314 rfl) (w 315 rfl) (w 316 rfl) (w 317 rfl) (w 318 rfl) (w 319 rfl) (w 320 rfl) (w 321 rfl) (w 322 rfl) (w 294 rfl) (by decide) (W := 0) (by decide) (by decide) (by decide) (by decide) (g := (mkF m 6 #[lR r0, lR b4_0, lU, lU] [(.ref b4_0)])) rfl (by rw [hml]; rfl) (argsL := []) (rest := []) (lenOf pd___Z rfl) rfl (own_W rfl) (hb hby d45_6)
  obtain ⟨rfl, N13q, E13⟩ := hQ13
  have N13 := Fr.app N4 N13q
  obtain ⟨T14, h14, X14, e14, E14, A14, D14, -, st14⟩ := newO X13 hx hZ hown (w 323 rfl) (w 193 rfl) (w 194 rfl) E13 (g := (mkF m 17 #[lR r0, lR b4_0, lU, lU] [])) rfl (hb hby d45_17) (by decide) (by decide)
  obtain ⟨b14, g14⟩ : ∃ z, z = T4.heap.size := ⟨_, rfl⟩
  rw [← g14] at A14 D14 st14
  have f15 : Fld Z h14 b14 cs22 "value" "[B" .null := D14 (Or.inl (w 207 rfl)) (ty := (.array .byte)) (by decide)
  have f16 : Fld Z h14 b14 cs22 "coder" "B" vI0 := D14 (Or.inl (w 209 rfl)) (ty := .byte) (by decide)
  have f17 : Fld Z h14 b14 cs22 "count" "I" vI0 := D14 (Or.inl (w 234 rfl)) (ty := .int) (by decide)
  have zz20 : n0 ≤ T4.heap.size := by rw [← o12.1]; exact o12.2.1
  have g21 := Nat.le_trans zz20 (Nat.le_of_eq g14.symm)
  have o22 := Old.ext o12 E14
  obtain ⟨_, T23, Lc23, X23, hQ23, st23⟩ := own_fin (X14.specialBack hx (y := mN12) rfl hown (mvT hZ (w 324 rfl)) (mvT hZ (w 196 rfl)) (mvT hZ (w 197 rfl)) (by decide) (backOf (W := 1) (rm30_1 l Z a0 hw [] b14 x2 h14 n0 o22 f18 hc19 A14 f15 g21 f16 f17 A14.lt) hZ (w 197 rfl) (w 194 rfl) (by decide) (by decide)) (g := (mkF m 21 #[lR r0, lR b4_0, lU, lU] [(.ref b14), (.ref b14)])) rfl (by rw [hml]; rfl) (Steps.refl _) (a := b14) (argsL := []) (rest := [(.ref b14)]) (lenOf pd___V rfl) rfl (own_W rfl) (hb hby d45_21) (fun _ _ => ⟨rfl, e14, (by decide : 2 + 1 ≤ _), (by decide : 8 + 16 ≤ _)⟩))
  obtain ⟨b23_0, k23_0, rfl, N23q, K23, f24, f25, f26, f27, f28, f29⟩ := hQ23
  have N23 := Fr.app N13 N23q
  have f30 := (A14.keep K23)
  have n31 := Nat.ne_of_lt (Nat.lt_of_lt_of_le A14.lt f27)
  have zz32 : n0 ≤ h14.size := by rw [← o22.1]; exact o22.2.1
  have g33 := Nat.le_trans zz32 f27
  have o34 := Old.keep o22 K23 (allS g21 all0)
  obtain ⟨_, T35, Lc35, X35, hQ35, st35⟩ := own_cV X23 hx hZ hown rfl (rm50_1 l Z a0 hw [] b14 (91 : Int32) (0 : Int32) b23_0 (16 : Int32) k23_0 ([vI0, vI0, vI0, vI0, vI0, vI0, vI0, vI0, vI0, vI0, vI0, vI0, vI0, vI0, vI0, vI0]) (0 : Int32) x2 T23.heap n0 o34 f26 f30 f24 f28 f25 (by decide) f18 hc19 (by decide) (by decide) g21 (Ne.symm n31) g33 (by decide) (by decide) (by decide)) f30 (w 326 rfl) (w 327 rfl) (w 329 rfl) (w 328 rfl) (w 330 rfl) (w 194 rfl) (by decide) (W := 0) (by decide) (by decide) (by decide) (by decide) (g := (mkF m 28 #[lR r0, lR b4_0, lR b14, lU] [vI91, (.ref b14)])) rfl (by rw [hml]; rfl) (argsL := [vI91]) (rest := []) (lenOf pd__C_Ljava_lang_StringBuilder_ rfl) rfl (own_W rfl) (hb hby d45_28)
  obtain ⟨rfl, N35q, K35, f36, f37, f38, f39⟩ := hQ35
  have N35 := Fr.app N23 N35q
  have f40 : Arv Z T35.heap b23_0 k23_0 .byte (16 : Int32) [vI91, vI0, vI0, vI0, vI0, vI0, vI0, vI0, vI0, vI0, vI0, vI0, vI0, vI0, vI0, vI0] vI0 := own_setx (by decide : ((0 : Int32)).toNatClampNeg = 0) f39
  have n41 := Nat.ne_of_lt (Nat.lt_of_lt_of_le f7.lt (Nat.le_of_eq g14.symm))
  have zs42 := E14.1
  have n43 := Nat.ne_of_lt (Nat.lt_of_lt_of_le (Nat.lt_of_lt_of_le f7.lt zs42) f27)
  have f44 := (((f10.ext E14).keep K23 (ninS n41 nin0)).keep K35 (ninS n41 (ninS n43 nin0)))
  have f45 := (((f8.ext E14).keep K23 (ninS n41 nin0)).keep K35 (ninS n41 (ninS n43 nin0)))
  have f46 := ((((f1.keep K4).ext E14).keep K23).keep K35)
  have zs49 := K4.1
  have n50 := Nat.ne_of_lt (Nat.lt_of_lt_of_le (Nat.lt_of_lt_of_le l48 zs49) (Nat.le_of_eq g14.symm))
  have zs51 := Nat.le_trans zs49 E14.1
  have n52 := Nat.ne_of_lt (Nat.lt_of_lt_of_le (Nat.lt_of_lt_of_le l48 zs51) f27)
  have f53 := ((((f47.keep K4 nin0).ext E14).keep K23 (ninS n50 nin0)).keep K35 (ninS n50 (ninS n52 nin0)))
  have f54 := (((f7.ext E14).keep K23).keep K35)
  have zz55 : n0 ≤ h0.size := by rw [← O0.1]; exact O0.2.1
  have g56 := Nat.le_trans zz55 f6
  have f57 := (((f9.ext E14).keep K23 (ninS n41 nin0)).keep K35 (ninS n41 (ninS n43 nin0)))
  have f58 := (((f11.ext E14).keep K23 (ninS n41 nin0)).keep K35 (ninS n41 (ninS n43 nin0)))
  have o59 := Old.keep o34 K35 (allS g21 (allS g33 all0))
  obtain ⟨cqq61, kqq61, qq61a, qq61b, qq61c⟩ := isOf hZ rfl f54
  obtain ⟨_, T60, Lc60, X60, hQ60, st60⟩ := own_finI (X35.interfaceBack hx (xi := mN70) (y := mN67) hown (mvT hZ (w 344 rfl)) (mvT hZ (w 345 rfl)) (mvT hZ (w 346 rfl)) (mvT hZ (w 347 rfl)) (mvT hZ (w 348 rfl)) (mvT hZ (w 349 rfl)) (mvT hZ (w 350 rfl)) (mvT hZ (w 321 rfl)) (by decide) (backOfWith (W := 0) (rm54_1 l Z a0 hw [] b4_0 r0 r3 T35.heap n0 o59 f44 f45 f46 f53 f54 g56 f57 f58) hZ (w 351 rfl) (w 294 rfl) (by decide) (by decide)) qq61a qq61b qq61c (g := (mkF m 33 #[lR r0, lR b4_0, lR b14, lU] [(.ref b4_0)])) rfl (by rw [hml]; rfl) (Steps.refl _) (argsL := []) (rest := []) (lenOf pd___Ljava_lang_Object_ rfl) rfl (own_W rfl) (hb hby d45_33) (fun _ _ => ⟨rfl, rfl, (by decide : 3 + 0 ≤ _), (by decide : 24 + 0 ≤ _)⟩))
  obtain ⟨rfl, N60q, K60, f62, f63, f64, f65⟩ := hQ60
  have N60 := Fr.app N35 N60q
  have f68 := (((((f67.keep K4).ext E14).keep K23).keep K35).keep K60)
  have f69 := ((f30.keep K35).keep K60)
  have n72 := Nat.ne_of_lt (Nat.lt_of_lt_of_le (Nat.lt_of_lt_of_le l71 zs49) (Nat.le_of_eq g14.symm))
  have n73 := Nat.ne_of_lt (Nat.lt_of_lt_of_le (Nat.lt_of_lt_of_le l71 zs51) f27)
  have n74 := Nat.ne_of_lt (Nat.lt_of_lt_of_le l71 f6)
  have f75 := (((((f70.keep K4 nin0).ext E14).keep K23 (ninS n72 nin0)).keep K35 (ninS n72 (ninS n73 nin0))).keep K60 (ninS n74 nin0))
  have n78 := Nat.ne_of_lt (Nat.lt_of_lt_of_le (Nat.lt_of_lt_of_le l77 zs49) (Nat.le_of_eq g14.symm))
  have n79 := Nat.ne_of_lt (Nat.lt_of_lt_of_le (Nat.lt_of_lt_of_le l77 zs51) f27)
  have n80 := Nat.ne_of_lt (Nat.lt_of_lt_of_le l77 f6)
  have f81 := (((((f76.keep K4 nin0).ext E14).keep K23 (ninS n78 nin0)).keep K35 (ninS n78 (ninS n79 nin0))).keep K60 (ninS n80 nin0))
  have f83 := (((((f82.keep K4 nin0).ext E14).keep K23 (ninS n72 nin0)).keep K35 (ninS n72 (ninS n73 nin0))).keep K60 (ninS n74 nin0))
  have f84 := (f36.keep K60 (ninS (Ne.symm n41) nin0))
  have f85 := (f37.keep K60 (ninS (Ne.symm n41) nin0))
  have f86 := (f40.keep K60 (ninS (Ne.symm n43) nin0))
  have f87 := (f38.keep K60 (ninS (Ne.symm n41) nin0))
  have o88 := Old.keep o59 K60 (allS g56 all0)
  obtain ⟨_, T89, Lc89, X89, hQ89, st89⟩ := own_cV X60 hx hZ hown rfl (rm43_2 l Z a0 hw [] b14 r3 r4 c5 x6 x7 x2 b23_0 k23_0 T60.heap n0 o88 f68 f69 f75 f81 f18 hc19 f83 f84 f85 f86 f87 g33 n31 g21) f69 (w 361 rfl) (w 274 rfl) (w 276 rfl) (w 275 rfl) (w 277 rfl) (w 194 rfl) (by decide) (W := 0) (by decide) (by decide) (by decide) (by decide) (g := (mkF m 51 #[lR r0, lR b4_0, lR b14, lR r3] [(.ref r3), (.ref b14)])) rfl (by rw [hml]; rfl) (argsL := [(.ref r3)]) (rest := []) (lenOf pd__Ljava_lang_Object__Ljava_lang_StringBuilder_ rfl) rfl (own_W rfl) (hb hby d45_51)
  obtain ⟨rfl, N89q, K89, f90, f91, f92, f93⟩ := hQ89
  have N89 := Fr.app N60 N89q
  have f94 := (f62.keep K89 (ninS n43 (ninS n41 nin0)))
  have f95 := (f64.keep K89 (ninS n43 (ninS n41 nin0)))
  have o96 := Old.keep o88 K89 (allS g33 (allS g21 all0))
  have f98 := ((f54.keep K60).keep K89)
  obtain ⟨_, T97, Lc97, X97, hQ97, st97⟩ := own_cI (xi := mN33) X89 hx hZ hown rfl (rm49_3 l Z a0 hw [] b4_0 T89.heap n0 o96 f94 f95) f98 (w 314 rfl) (w 315 rfl) (w 316 rfl) (w 317 rfl) (w 318 rfl) (w 319 rfl) (w 320 rfl) (w 321 rfl) (w 322 rfl) (w 294 rfl) (by decide) (W := 0) (by decide) (by decide) (by decide) (by decide) (g := (mkF m 56 #[lR r0, lR b4_0, lR b14, lR r3] [(.ref b4_0)])) rfl (by rw [hml]; rfl) (argsL := []) (rest := []) (lenOf pd___Z rfl) rfl (own_W rfl) (hb hby d45_56)
  obtain ⟨rfl, N97q, E97⟩ := hQ97
  have N97 := Fr.app N89 N97q
  have f99 := (f69.keep K89)
  obtain ⟨_, T100, Lc100, X100, hQ100, st100⟩ := own_cV X97 hx hZ hown E97 (rm50_1 l Z a0 hw [] b14 (93 : Int32) (3 : Int32) b23_0 (16 : Int32) k23_0 ([vI91, (.int x6), (.int x7), vI0, vI0, vI0, vI0, vI0, vI0, vI0, vI0, vI0, vI0, vI0, vI0, vI0]) (0 : Int32) x2 T89.heap n0 o96 f91 f99 f92 f90 f93 (by decide) f18 hc19 (by decide) (by decide) g21 (Ne.symm n31) g33 (Nat.le_of_ble_eq_true rfl : ((3 : Int32)).toNatClampNeg < [vI91, (.int x6), (.int x7), vI0, vI0, vI0, vI0, vI0, vI0, vI0, vI0, vI0, vI0, vI0, vI0, vI0].length) (by decide) (by decide)) f99 (w 326 rfl) (w 327 rfl) (w 329 rfl) (w 328 rfl) (w 330 rfl) (w 194 rfl) (by decide) (W := 0) (by decide) (by decide) (by decide) (by decide) (g := (mkF m 67 #[lR r0, lR b4_0, lR b14, lR r3] [vI93, (.ref b14)])) rfl (by rw [hml]; rfl) (argsL := [vI93]) (rest := []) (lenOf pd__C_Ljava_lang_StringBuilder_ rfl) rfl (own_W rfl) (hb hby d45_67)
  obtain ⟨rfl, N100q, K100, f101, f102, f103, f104⟩ := hQ100
  have N100 := Fr.app N97 N100q
  have f105 : Arv Z T100.heap b23_0 k23_0 .byte (16 : Int32) [vI91, (.int x6), (.int x7), vI93, vI0, vI0, vI0, vI0, vI0, vI0, vI0, vI0, vI0, vI0, vI0, vI0] vI0 := own_setx (by decide : ((3 : Int32)).toNatClampNeg = 3) f104
  have f106 := (f99.keep K100)
  have zs107 := K35.1
  have zs108 := Nat.le_trans zs107 K60.1
  have zs109 := Nat.le_trans zs108 K89.1
  have zs110 := Nat.le_trans zs109 K100.1
  have o111 := Old.keep o96 K100 (allS g21 (allS g33 all0))
  obtain ⟨_, T112, Lc112, X112, hQ112, st112⟩ := own_cV X100 hx hZ hown rfl (rm57_1 l Z a0 hw [] b14 b23_0 (4 : Int32) x2 (0 : Int32) (16 : Int32) k23_0 ([vI91, (.int x6), (.int x7), vI93, vI0, vI0, vI0, vI0, vI0, vI0, vI0, vI0, vI0, vI0, vI0, vI0]) T100.heap n0 o111 f106 f102 f101 f18 hc19 f103 (by decide) f105 (Nat.lt_of_lt_of_le f28.lt zs110) (by decide) (by decide) (by decide) (by decide) (by decide) (by decide)) f106 (w 366 rfl) (w 367 rfl) (w 369 rfl) (w 368 rfl) (w 370 rfl) (w 194 rfl) (by decide) (W := 0) (by decide) (by decide) (by decide) (by decide) (g := (mkF m 70 #[lR r0, lR b4_0, lR b14, lR r3] [(.ref b14)])) rfl (by rw [hml]; rfl) (argsL := []) (rest := []) (lenOf pd___Ljava_lang_String_ rfl) rfl (own_W rfl) (hb hby d45_70)
  obtain ⟨b112_0, b112_1, k112_0, rfl, N112q, K112, f113, f114, f115, f116, f117, f118, f119, f120⟩ := hQ112
  have N112 := Fr.app N100 N112q
  have f121 : Arv Z T112.heap b112_1 k112_0 .byte (4 : Int32) [vI91, (.int x6), (.int x7), vI93] vI0 := own_trunc (ws := [vI91, (.int x6), (.int x7), vI93]) (rest := [vI0, vI0, vI0, vI0, vI0, vI0, vI0, vI0, vI0, vI0, vI0, vI0]) (own_lenK (n := 4) rfl (by decide)) f118
  have zs122 := Nat.le_trans zs51 K23.1
  have zs123 := Nat.le_trans zs122 K35.1
  have zs124 := Nat.le_trans zs123 K60.1
  have zs125 := Nat.le_trans zs124 K89.1
  have zs126 := Nat.le_trans zs125 K100.1
  have kp127 : Keep h0 T4.heap [] := (Keep.refl h0 []).trans K4 all0
  have kp128 : Keep h0 h14 [] := kp127.ext E14
  have kp129 : Keep h0 T23.heap [] := kp128.trans K23 (allS (Or.inr (Nat.le_trans zs49 (Nat.le_of_eq g14.symm))) all0)
  have kp130 : Keep h0 T35.heap [] := kp129.trans K35 (allS (Or.inr (Nat.le_trans zs49 (Nat.le_of_eq g14.symm))) (allS (Or.inr (Nat.le_trans zs51 f27)) all0))
  have kp131 : Keep h0 T60.heap [] := kp130.trans K60 (allS (Or.inr f6) all0)
  have kp132 : Keep h0 T89.heap [] := kp131.trans K89 (allS (Or.inr (Nat.le_trans zs51 f27)) (allS (Or.inr (Nat.le_trans zs49 (Nat.le_of_eq g14.symm))) all0))
  have kp133 : Keep h0 T100.heap [] := kp132.trans K100 (allS (Or.inr (Nat.le_trans zs49 (Nat.le_of_eq g14.symm))) (allS (Or.inr (Nat.le_trans zs51 f27)) all0))
  have kp134 : Keep h0 T112.heap [] := kp133.trans K112 all0
  refine ⟨some (.ref b112_0), _, _, _, _, nofun, X112, by decide, by decide, ?_, fun fs hr => ?_⟩
  · exact ⟨b112_0, b112_1, k112_0, rfl, N112, kp134, (Nat.le_trans zs126 f113), f114, f115, f116, (Nat.le_trans zs126 f117), f121, f119, f120⟩
  · show SG p e below s₁ (mkF m 0 #[lR r0, lU, lU, lU] []) _
    refine qaN X0 hx hby d45_0 ?_
    refine st4.trans ?_
    refine XS.astoreN X4.here hx rfl (hb hby d45_4) rfl rfl (l' := #[lR r0, lR b4_0, lU, lU]) rfl ?_
    refine qaN X4 hx hby d45_5 ?_
    refine st13 _ ?_
    refine XS.ifYes X13.here hx rfl (pc0 := 11) (pc' := 17) rfl (hb hby d45_11) rfl ((if0 _ _).trans (feq (by decide : ¬ ((1 : Int32) = (0 : Int32)))).2) (by decide) (by decide) ?_
    refine st14 _ ?_
    refine qd X14 hx hby d45_20 ?_
    refine st23.trans ?_
    refine XS.astoreN X23.here hx rfl (hb hby d45_24) rfl rfl (l' := #[lR r0, lR b4_0, lR b14, lU]) rfl ?_
    refine qaN X23 hx hby d45_25 ?_
    refine qb X23 hx hby d45_26 ?_
    refine st35 _ ?_
    refine XS.pop X35.here hx rfl (hb hby d45_31) rfl rfl ?_
    refine qaN X35 hx hby d45_32 ?_
    refine st60.trans ?_
    refine XS.astoreN X60.here hx rfl (hb hby d45_38) rfl rfl (l' := #[lR r0, lR b4_0, lR b14, lR r3]) rfl ?_
    refine qaN X60 hx hby d45_39 ?_
    refine qaN X60 hx hby d45_40 ?_
    refine qaN X60 hx hby d45_41 ?_
    refine Jvm.RoadKit.acmp (g := (mkF m 42 #[lR r0, lR b4_0, lR b14, lR r3] [(.ref r0), (.ref r3), (.ref b14)])) X60 hx rfl rfl rfl (pc0 := 42) (pc' := 50) (same := false) rfl (hb hby d45_42) rfl (decide_eq_false fun q => n66 (Value.ref.inj q)) (by decide) (by decide) ?_
    refine qaN X60 hx hby d45_50 ?_
    refine st89 _ ?_
    refine XS.pop X89.here hx rfl (hb hby d45_54) rfl rfl ?_
    refine qaN X89 hx hby d45_55 ?_
    show SG p e below T89 (mkF m 56 #[lR r0, lR b4_0, lR b14, lR r3] [(.ref b4_0)]) _
    refine st97 _ ?_
    refine XS.ifNo X97.here hx rfl (hb hby d45_61) rfl ((if0 _ _).trans (teq (rfl : (0 : Int32) = (0 : Int32))).2) ?_
    refine qaN X97 hx hby d45_64 ?_
    refine qb X97 hx hby d45_65 ?_
    refine st100 _ ?_
    refine st112 _ ?_
    exact retOut X112 hx (i := .areturn) hret rfl (Or.inr (Or.inr (Or.inr (Or.inr ⟨rfl, rfl, rfl⟩)))) (hb hby d45_73) hr
def Q44_3 (Z : State) (x6 x7 : Int32) (h0 : Heap) (n0 : Nat) (v : Option Value) (h : Heap) (L : List Loc) : Prop := ∃ (b15_0 b15_1 : Addr) (k15_0 : ClassId), v = some (.ref b15_0) ∧ Fr n0 L ∧ Keep h0 h [] ∧ h0.size ≤ b15_0 ∧ Exa Z h b15_0 cs8 ∧ Fld Z h b15_0 cs8 "coder" "B" vI0 ∧ Fld Z h b15_0 cs8 "value" "[B" (.ref b15_1) ∧ h0.size ≤ b15_1 ∧ Arv Z h b15_1 k15_0 .byte (4 : Int32) [vI91, (.int x6), (.int x7), vI93] vI0 ∧ Exa Z h b15_1 "[B" ∧ b15_0 ≠ b15_1
theorem rm44_3 (l : Launch) (Z : State) (a0 : Array Value) (hw : own_HW a0 Z) (ws : List Jvm.Cond) (r0 r1 : Addr) (x2 : Int32) (r3 r4 : Addr) (c5 : ClassId) (x6 x7 : Int32) (h0 : Heap) (n0 : Nat) (O0 : Old Z n0 h0) (f1 : Exa Z h0 r0 cs45) (f2 : Fld Z h0 r0 cs45 "e1" cs46 (.ref r1)) (f3 : Sta Z Z.heap cs12 "EMPTY" cs46 (.ref r1)) (f4 : Sta Z Z.heap cs8 cs9 "Z" (.int x2)) (hc5 : ¬ (x2 = (0 : Int32))) (f6 : Fld Z h0 r0 cs45 "e0" cs46 (.ref r3)) (l7 : r0 < h0.size) (n8 : r3 ≠ r0) (f9 : Exa Z h0 r3 cs8) (f10 : Fld Z h0 r3 cs8 "value" "[B" (.ref r4)) (l11 : r3 < h0.size) (f12 : Arv Z h0 r4 c5 .byte (2 : Int32) [(.int x6), (.int x7)] vI0) (l13 : r4 < h0.size) (f14 : Fld Z h0 r3 cs8 "coder" "B" vI0) :
    own_MF l mN34 jdk_42_method_133_code 1 (some (.object cs8)) ws rR7_5_92_112 Z h0 #[(.ref r0)] (Q44_3 Z x6 x7 h0 n0) := by
  refine own_open (plainFor_of_name pn_java_lang_String) (L0 := #[lR r0]) (fun _ => by first | (simp [entryFrame, mkF, argsToLocals, Value.category]; done) | rfl) ?_
  intro p e s m below meth c s₁ hx hby hml hret hnn hZ hown X0 e0
  have N0 := Fr.nil n0; have w := @ww Z a0 hw
  obtain ⟨cqq16, kqq16, qq16a, qq16b, qq16c⟩ := isOf hZ e0 f1
  obtain ⟨_, T15, Lc15, X15, hQ15, st15⟩ := own_fin (X0.virtualBack hx (y := mN35) (z := mN31) hown (mvT hZ (w 281 rfl)) (mvT hZ (w 282 rfl)) (nf_top (args := #[]) (mvT hZ (w 111 rfl))) (mvT hZ (w 284 rfl)) (mvT hZ (w 285 rfl)) (by decide) (backOf (W := 0) (rm45_2 l Z a0 hw [] r0 r1 x2 r3 r4 c5 x6 x7 h0 n0 O0 f1 f2 f3 f4 hc5 f6 l7 n8 f9 f10 l11 f12 l13 f14) hZ (w 286 rfl) (w 47 rfl) (by decide) (by decide)) qq16a qq16c (g := (mkF m 11 #[lR r0] [(.ref r0)])) rfl (by rw [hml]; rfl) (Steps.refl _) (argsL := []) (rest := []) (lenOf pd___Ljava_lang_String_ rfl) rfl (own_W rfl) (hb hby d44_11) (fun _ _ => ⟨rfl, e0, (by decide : 0 + 5 ≤ _), (by decide : 0 + 92 ≤ _)⟩))
  obtain ⟨b15_0, b15_1, k15_0, rfl, N15q, K15, f17, f18, f19, f20, f21, f22, f23, f24⟩ := hQ15
  have N15 := Fr.app N0 N15q
  have kp25 : Keep h0 T15.heap [] := (Keep.refl h0 []).trans K15 all0
  refine ⟨some (.ref b15_0), _, _, _, _, nofun, X15, by decide, by decide, ?_, fun fs hr => ?_⟩
  · exact ⟨b15_0, b15_1, k15_0, rfl, N15, kp25, f17, f18, f19, f20, f21, f22, f23, f24⟩
  · show SG p e below s₁ (mkF m 0 #[lR r0] []) _
    refine qaN X0 hx hby d44_0 ?_
    refine XS.ifnonnullYes X0.here hx rfl (pc0 := 1) (pc' := 10) rfl (hb hby d44_1) rfl (by decide) (by decide) ?_
    refine qaN X0 hx hby d44_10 ?_
    refine st15.trans ?_
    exact retOut X15 hx (i := .areturn) hret rfl (Or.inr (Or.inr (Or.inr (Or.inr ⟨rfl, rfl, rfl⟩)))) (hb hby d44_14) hr
def Q43_3 (Z : State) (r0 : Addr) (x7 x8 : Int32) (r9 : Addr) (c10 : ClassId) (x11 x12 : Int32) (h0 : Heap) (n0 : Nat) (v : Option Value) (h : Heap) (L : List Loc) : Prop := v = some (.ref r0) ∧ Fr n0 L ∧ Keep h0 h [r9, r0] ∧ Arv Z h r9 c10 .byte (70 : Int32) [vI73, vI110, vI116, vI101, vI114, vI110, vI97, vI108, vI67, vI97, vI108, vI108, vI68, vI101, vI116, vI97, vI105, vI108, vI115, vI32, vI91, vI107, vI101, vI121, vI61, (.int x11), (.int x12), vI44, vI32, vI97, vI117, vI116, vI104, vI111, vI114, vI105, vI116, vI105, vI101, vI115, vI61, vI91, (.int x7), (.int x8), vI93, vI0, vI0, vI0, vI0, vI0, vI0, vI0, vI0, vI0, vI0, vI0, vI0, vI0, vI0, vI0, vI0, vI0, vI0, vI0, vI0, vI0, vI0, vI0, vI0, vI0] vI0 ∧ Fld Z h r0 cs22 "count" "I" vI45 ∧ Fld Z h r0 cs22 "value" "[B" (.ref r9) ∧ Fld Z h r0 cs22 "coder" "B" vI0
theorem rm43_3 (l : Launch) (Z : State) (a0 : Array Value) (hw : own_HW a0 Z) (ws : List Jvm.Cond) (r0 r1 r2 : Addr) (x3 : Int32) (r4 r5 : Addr) (c6 : ClassId) (x7 x8 : Int32) (r9 : Addr) (c10 : ClassId) (x11 x12 : Int32) (h0 : Heap) (n0 : Nat) (O0 : Old Z n0 h0) (f1 : Exa Z h0 r1 cs45) (f2 : Fld Z h0 r1 cs45 "e1" cs46 (.ref r2)) (f3 : Sta Z Z.heap cs12 "EMPTY" cs46 (.ref r2)) (f4 : Sta Z Z.heap cs8 cs9 "Z" (.int x3)) (hc5 : ¬ (x3 = (0 : Int32))) (f6 : Fld Z h0 r1 cs45 "e0" cs46 (.ref r4)) (l7 : r1 < h0.size) (n8 : r4 ≠ r1) (f9 : Exa Z h0 r4 cs8) (f10 : Fld Z h0 r4 cs8 "value" "[B" (.ref r5)) (l11 : r4 < h0.size) (f12 : Arv Z h0 r5 c6 .byte (2 : Int32) [(.int x7), (.int x8)] vI0) (l13 : r5 < h0.size) (f14 : Fld Z h0 r4 cs8 "coder" "B" vI0) (f24 : Exa Z h0 r0 cs23) (f26 : Fld Z h0 r0 cs22 "count" "I" vI41) (f28 : Fld Z h0 r0 cs22 "value" "[B" (.ref r9)) (f30 : Arv Z h0 r9 c10 .byte (70 : Int32) [vI73, vI110, vI116, vI101, vI114, vI110, vI97, vI108, vI67, vI97, vI108, vI108, vI68, vI101, vI116, vI97, vI105, vI108, vI115, vI32, vI91, vI107, vI101, vI121, vI61, (.int x11), (.int x12), vI44, vI32, vI97, vI117, vI116, vI104, vI111, vI114, vI105, vI116, vI105, vI101, vI115, vI61, vI0, vI0, vI0, vI0, vI0, vI0, vI0, vI0, vI0, vI0, vI0, vI0, vI0, vI0, vI0, vI0, vI0, vI0, vI0, vI0, vI0, vI0, vI0, vI0, vI0, vI0, vI0, vI0, vI0] vI0) (f32 : Fld Z h0 r0 cs22 "coder" "B" vI0) (g34 : n0 ≤ r9) (n35 : r0 ≠ r9) (g36 : n0 ≤ r0) :
    own_MF l mN36 jdk_67_method_6_code 2 (some (.object cs23)) ws rR8_5_92_125 Z h0 #[(.ref r0), (.ref r1)] (Q43_3 Z r0 x7 x8 r9 c10 x11 x12 h0 n0) := by
  refine own_open (plainFor_of_name pn_java_lang_StringBuilder) (L0 := #[lR r0, lR r1]) (fun _ => by first | (simp [entryFrame, mkF, argsToLocals, Value.category]; done) | rfl) ?_
  intro p e s m below meth c s₁ hx hby hml hret hnn hZ hown X0 e0
  have N0 := Fr.nil n0; have w := @ww Z a0 hw
  obtain ⟨_, T15, Lc15, X15, hQ15, st15⟩ := own_cS X0 hx hZ hown e0 (rm44_3 l Z a0 hw [] r1 r2 x3 r4 r5 c6 x7 x8 h0 n0 O0 f1 f2 f3 f4 hc5 f6 l7 n8 f9 f10 l11 f12 l13 f14) (w 278 rfl) (w 279 rfl) (w 3 rfl) (w 280 rfl) (by decide) (W := 1) (by decide) (by decide) (by decide) (by decide) (g := (mkF m 2 #[lR r0, lR r1] [(.ref r1), (.ref r0)])) rfl (by rw [hml]; rfl) (argsL := [(.ref r1)]) (rest := [(.ref r0)]) (lenOf pd__Ljava_lang_Object__Ljava_lang_String_ rfl) rfl (own_W rfl) (hb hby d43_2)
  obtain ⟨b15_0, b15_1, k15_0, rfl, N15q, K15, f16, f17, f18, f19, f20, f21, f22, f23⟩ := hQ15
  have N15 := Fr.app N0 N15q
  have f25 := (f24.keep K15)
  have f27 := (f26.keep K15 nin0)
  have f29 := (f28.keep K15 nin0)
  have f31 := (f30.keep K15 nin0)
  have f33 := (f32.keep K15 nin0)
  have o37 := Old.keep O0 K15 all0
  obtain ⟨_, T38, Lc38, X38, hQ38, st38⟩ := own_cV X15 hx hZ hown rfl (rm32_2 l Z a0 hw [] r0 b15_0 b15_1 (4 : Int32) k15_0 ([vI91, (.int x7), (.int x8), vI93]) x3 (0 : Int32) (41 : Int32) r9 (70 : Int32) c10 ([vI73, vI110, vI116, vI101, vI114, vI110, vI97, vI108, vI67, vI97, vI108, vI108, vI68, vI101, vI116, vI97, vI105, vI108, vI115, vI32, vI91, vI107, vI101, vI121, vI61, (.int x11), (.int x12), vI44, vI32, vI97, vI117, vI116, vI104, vI111, vI114, vI105, vI116, vI105, vI101, vI115, vI61, vI0, vI0, vI0, vI0, vI0, vI0, vI0, vI0, vI0, vI0, vI0, vI0, vI0, vI0, vI0, vI0, vI0, vI0, vI0, vI0, vI0, vI0, vI0, vI0, vI0, vI0, vI0, vI0, vI0]) (0 : Int32) T15.heap n0 o37 f17 f19 f21 f4 hc5 f18 f27 f25 f29 f31 f33 (by decide) (by decide) (by decide) (own_lenK (n := 4) rfl (by decide) : [vI91, (.int x7), (.int x8), vI93].length = ((4 : Int32)).toNatClampNeg) (own_lenK (n := 70) rfl (by decide) : [vI73, vI110, vI116, vI101, vI114, vI110, vI97, vI108, vI67, vI97, vI108, vI108, vI68, vI101, vI116, vI97, vI105, vI108, vI115, vI32, vI91, vI107, vI101, vI121, vI61, (.int x11), (.int x12), vI44, vI32, vI97, vI117, vI116, vI104, vI111, vI114, vI105, vI116, vI105, vI101, vI115, vI61, vI0, vI0, vI0, vI0, vI0, vI0, vI0, vI0, vI0, vI0, vI0, vI0, vI0, vI0, vI0, vI0, vI0, vI0, vI0, vI0, vI0, vI0, vI0, vI0, vI0, vI0, vI0, vI0, vI0].length = ((70 : Int32)).toNatClampNeg) (by decide) (by decide) (by decide) g34 n35 g36) f25 (w 365 rfl) (w 214 rfl) (w 216 rfl) (w 215 rfl) (w 217 rfl) (w 194 rfl) (by decide) (W := 0) (by decide) (by decide) (by decide) (by decide) (g := (mkF m 5 #[lR r0, lR r1] [(.ref b15_0), (.ref r0)])) rfl (by rw [hml]; rfl) (argsL := [(.ref b15_0)]) (rest := []) (lenOf pd__Ljava_lang_String__Ljava_lang_StringBuilder_ rfl) rfl (own_W rfl) (hb hby d43_5)
  obtain ⟨rfl, N38q, K38, f39, f40, f41, f42⟩ := hQ38
  have N38 := Fr.app N15 N38q
  have f43 : Arv Z T38.heap r9 c10 .byte (70 : Int32) [vI73, vI110, vI116, vI101, vI114, vI110, vI97, vI108, vI67, vI97, vI108, vI108, vI68, vI101, vI116, vI97, vI105, vI108, vI115, vI32, vI91, vI107, vI101, vI121, vI61, (.int x11), (.int x12), vI44, vI32, vI97, vI117, vI116, vI104, vI111, vI114, vI105, vI116, vI105, vI101, vI115, vI61, vI91, (.int x7), (.int x8), vI93, vI0, vI0, vI0, vI0, vI0, vI0, vI0, vI0, vI0, vI0, vI0, vI0, vI0, vI0, vI0, vI0, vI0, vI0, vI0, vI0, vI0, vI0, vI0, vI0, vI0] vI0 := own_cpx (by decide : (((41 : Int32) <<< ((0 : Int32) &&& 31))).toNatClampNeg = 41) (by decide : (((41 : Int32) <<< ((0 : Int32) &&& 31))).toNatClampNeg + ((4 : Int32)).toNatClampNeg = 45) f39
  have kp44 : Keep h0 T15.heap [r9, r0] := (Keep.refl h0 [r9, r0]).trans K15 all0
  have kp45 : Keep h0 T38.heap [r9, r0] := kp44.trans K38 (allS (Or.inl (List.mem_of_getElem? (i := 0) rfl)) (allS (Or.inl (List.mem_of_getElem? (i := 1) rfl)) all0))
  refine ⟨some (.ref r0), _, _, _, _, nofun, X38, by decide, by decide, ?_, fun fs hr => ?_⟩
  · exact ⟨rfl, N38, kp45, f43, f40, f41, f42⟩
  · show SG p e below s₁ (mkF m 0 #[lR r0, lR r1] []) _
    refine qaN X0 hx hby d43_0 ?_
    refine qaN X0 hx hby d43_1 ?_
    refine st15 _ ?_
    refine st38 _ ?_
    exact retOut X38 hx (i := .areturn) hret rfl (Or.inr (Or.inr (Or.inr (Or.inr ⟨rfl, rfl, rfl⟩)))) (hb hby d43_8) hr
def Q29_2 (Z : State) (x5 x6 : Int32) (x12 x13 : Int32) (h0 : Heap) (n0 : Nat) (v : Option Value) (h : Heap) (L : List Loc) : Prop := ∃ (b193_0 b193_1 : Addr) (k193_0 : ClassId), v = some (.ref b193_0) ∧ Fr n0 L ∧ Keep h0 h [] ∧ h0.size ≤ b193_0 ∧ Exa Z h b193_0 cs8 ∧ Fld Z h b193_0 cs8 "coder" "B" vI0 ∧ Fld Z h b193_0 cs8 "value" "[B" (.ref b193_1) ∧ h0.size ≤ b193_1 ∧ Arv Z h b193_1 k193_0 .byte (46 : Int32) [vI73, vI110, vI116, vI101, vI114, vI110, vI97, vI108, vI67, vI97, vI108, vI108, vI68, vI101, vI116, vI97, vI105, vI108, vI115, vI32, vI91, vI107, vI101, vI121, vI61, (.int x5), (.int x6), vI44, vI32, vI97, vI117, vI116, vI104, vI111, vI114, vI105, vI116, vI105, vI101, vI115, vI61, vI91, (.int x12), (.int x13), vI93, vI93] vI0 ∧ Exa Z h b193_1 "[B" ∧ b193_0 ≠ b193_1
theorem rm29_2 (l : Launch) (Z : State) (a0 : Array Value) (hw : own_HW a0 Z) (ws : List Jvm.Cond) (r0 : Addr) (x1 : Int32) (r2 r3 : Addr) (c4 : ClassId) (x5 x6 : Int32) (r7 r8 : Addr) (r9 r10 : Addr) (c11 : ClassId) (x12 x13 : Int32) (h0 : Heap) (n0 : Nat) (O0 : Old Z n0 h0) (f7 : Sta Z Z.heap cs8 cs9 "Z" (.int x1)) (hc8 : ¬ (x1 = (0 : Int32))) (f45 : Fld Z h0 r0 cs17 "key" cs18 (.ref r2)) (l46 : r0 < h0.size) (f50 : Exa Z h0 r2 cs8) (f52 : Fld Z h0 r2 cs8 "value" "[B" (.ref r3)) (l53 : r2 < h0.size) (f56 : Arv Z h0 r3 c4 .byte (2 : Int32) [(.int x5), (.int x6)] vI0) (l57 : r3 < h0.size) (f60 : Fld Z h0 r2 cs8 "coder" "B" vI0) (f107 : Fld Z h0 r0 cs17 cs19 cs20 (.ref r7)) (f114 : Exa Z h0 r7 cs45) (f116 : Fld Z h0 r7 cs45 "e1" cs46 (.ref r8)) (l117 : r7 < h0.size) (f121 : Sta Z Z.heap cs12 "EMPTY" cs46 (.ref r8)) (f122 : Fld Z h0 r7 cs45 "e0" cs46 (.ref r9)) (n128 : r9 ≠ r7) (f129 : Exa Z h0 r9 cs8) (f131 : Fld Z h0 r9 cs8 "value" "[B" (.ref r10)) (l132 : r9 < h0.size) (f136 : Arv Z h0 r10 c11 .byte (2 : Int32) [(.int x12), (.int x13)] vI0) (l137 : r10 < h0.size) (f141 : Fld Z h0 r9 cs8 "coder" "B" vI0) :
    own_MH l mN47 prog_4_method_4_code 1 (some (.object cs8)) ws rR9_17_456_138 Z h0 #[(.ref r0)] (Q29_2 Z x5 x6 x12 x13 h0 n0) := by
  have hEL : EW Z a0 consts_1 := own_EW hw
  refine own_openH hEL (plainFor_of_name pn_com_example_innerkey_innerkey_InternalCallDetails) (L0 := #[lR r0]) (fun _ => by first | (simp [entryFrame, mkF, argsToLocals, Value.category]; done) | rfl) ?_
  intro p e s m below meth c s₁ hx hby hml hret hnn hZ hown X0 e0 R0
  have N0 := Fr.nil n0; have w := @ww Z a0 hw
  obtain ⟨T1, h1, X1, e1, E1, A1, D1, -, st1⟩ := newO X0 hx hZ hown (w 192 rfl) (w 193 rfl) (w 194 rfl) e0 (g := (mkF m 0 #[lR r0] [])) rfl (hb hby d29_0) (by decide) (by decide)
  obtain ⟨b1, g1⟩ : ∃ z, z = h0.size := ⟨_, rfl⟩
  have sf2 : Safe Z consts_1 s.vm h0 b1 := Safe.new (Nat.le_of_eq g1.symm)
  rw [← g1] at A1 D1 st1
  have R3 := CHr.trans R0 (CHr.ext E1 R0.1)
  have f4 : Fld Z h1 b1 cs22 "value" "[B" .null := D1 (Or.inl (w 207 rfl)) (ty := (.array .byte)) (by decide)
  have f5 : Fld Z h1 b1 cs22 "coder" "B" vI0 := D1 (Or.inl (w 209 rfl)) (ty := .byte) (by decide)
  have f6 : Fld Z h1 b1 cs22 "count" "I" vI0 := D1 (Or.inl (w 234 rfl)) (ty := .int) (by decide)
  have zz9 : n0 ≤ h0.size := by rw [← O0.1]; exact O0.2.1
  have g10 := Nat.le_trans zz9 (Nat.le_of_eq g1.symm)
  have o11 := Old.ext O0 E1
  obtain ⟨_, T12, Lc12, X12, hQ12, st12⟩ := own_fin (X1.specialBack hx (y := mN12) rfl hown (mvT hZ (w 195 rfl)) (mvT hZ (w 196 rfl)) (mvT hZ (w 197 rfl)) (by decide) (backOf (W := 1) (rm30_1 l Z a0 hw [] b1 x1 h1 n0 o11 f7 hc8 A1 f4 g10 f5 f6 A1.lt) hZ (w 197 rfl) (w 194 rfl) (by decide) (by decide)) (g := (mkF m 4 #[lR r0] [(.ref b1), (.ref b1)])) rfl (by rw [hml]; rfl) (Steps.refl _) (a := b1) (argsL := []) (rest := [(.ref b1)]) (lenOf pd___V rfl) rfl (own_W rfl) (hb hby d29_4) (fun _ _ => ⟨rfl, e1, (by decide : 1 + 1 ≤ _), (by decide : 4 + 16 ≤ _)⟩))
  obtain ⟨b12_0, k12_0, rfl, N12q, K12, f13, f14, f15, f16, f17, f18⟩ := hQ12
  have N12 := Fr.app N0 N12q
  have R19 := CHr.trans R3 (CHr.keep K12 (sfS (Safe.exa hZ.alike A1 (by decide) (by decide)) sf0) R3.1)
  have sf20 : Safe Z consts_1 s.vm h1 b12_0 := Safe.new f16
  have hS21 := (State.WarmedH.refl s).since 0
  have hstr : ∀ a ∈ Bundle.stringAtoms, a.before a0 Z = true := fun a q => hw a (own_str a q)
  obtain ⟨a22, T22, h22, kk22, b22, k22, X22, e22, E22, hS22, hk22, hZ22, ho22, EE22, C22, F22, V22, l22, m22, CR22, -, ne22, st22⟩ := ldcCH (s := s) (vm0 := s.vm) X12 hx hZ hown (w 210 rfl) hstr rfl hS21 (Nat.zero_le _) hEL (by simp [consts_1]) R19.1 (vs := [vI73, vI110, vI116, vI101, vI114, vI110, vI97, vI108, vI67, vI97, vI108, vI108, vI68, vI101, vI116, vI97, vI105, vI108, vI115, vI32, vI91, vI107, vI101, vI121, vI61]) (z := (25 : Int32)) ⟨by decide, by decide⟩ (by decide) rfl (g := (mkF m 7 #[lR r0] [(.ref b1)])) rfl (hb hby d29_7) (n := 100) (by decide) (by decide) (by decide) (by decide)
  have R23 := CHr.trans R19 CR22
  have f24 := ((A1.keep K12).ext E22)
  have nl25 := ne22 _ (Safe.exa hZ22.alike f24 (by decide) (by decide))
  have sf26 := (CHr.safe CR22 f17.lt (Safe.keep K12 (sfS (Safe.exa hZ.alike A1 (by decide) (by decide)) sf0) R3.1 sf20))
  have nl27 := ne22 _ sf26
  have f28 := (f15.ext E22)
  have f29 := (f13.ext E22)
  have f30 := (f17.ext E22)
  have f31 := (f14.ext E22)
  have zs32 := K12.1
  have zs33 := Nat.le_trans zs32 E22.1
  have o34 := Old.keep o11 K12 (allS g10 all0)
  have o35 := Old.ext o34 E22
  obtain ⟨_, T36, Lc36, X36, hQ36, st36⟩ := own_cV X22 hx hZ22 ho22 e22 (rm32_1 l Z a0 hw [] b1 a22 b22 k22 x1 b12_0 k12_0 h22 n0 o35 EE22 F22 V22 f7 hc8 C22 f28 f24 f29 f30 f31 g10 (Nat.lt_of_lt_of_le A1.lt zs33) (Ne.symm nl25.1) (Ne.symm nl25.2)) f24 (w 213 rfl) (w 214 rfl) (w 216 rfl) (w 215 rfl) (w 217 rfl) (w 194 rfl) (by decide) (W := 0) (by decide) (by decide) (by decide) (by decide) (g := (mkF m 9 #[lR r0] [(.ref a22), (.ref b1)])) rfl (by rw [hml]; rfl) (argsL := [(.ref a22)]) (rest := []) (lenOf pd__Ljava_lang_String__Ljava_lang_StringBuilder_ rfl) rfl (own_W rfl) (hb hby d29_9)
  obtain ⟨b36_0, k36_0, rfl, N36q, K36, f37, f38, f39, f40, f41, f42⟩ := hQ36
  have N36 := Fr.app N12 N36q
  have R43 := CHr.trans R23 (CHr.keep K36 (sfS (Safe.exa hZ22.alike f24 (by decide) (by decide)) sf0) R23.1)
  have sf44 : Safe Z consts_1 T22.vm h22 b36_0 := Safe.new f40
  have n47 := Nat.ne_of_lt (Nat.lt_of_lt_of_le l46 (Nat.le_of_eq g1.symm))
  have f48 := ((((f45.ext E1).keep K12 (ninS n47 nin0)).ext E22).keep K36 (ninS n47 nin0))
  obtain ⟨T49, X49, e49, st49⟩ := getF X36 hx hZ22 ho22 (host := "") (Or.inl (w 97 rfl)) Via.refl rfl f48 (g := (mkF m 13 #[lR r0] [(.ref r0), (.ref b1)])) rfl rfl (hb hby d29_13)
  have f51 := ((((f50.ext E1).keep K12).ext E22).keep K36)
  have n54 := Nat.ne_of_lt (Nat.lt_of_lt_of_le l53 (Nat.le_of_eq g1.symm))
  have f55 := ((((f52.ext E1).keep K12 (ninS n54 nin0)).ext E22).keep K36 (ninS n54 nin0))
  have n58 := Nat.ne_of_lt (Nat.lt_of_lt_of_le l57 (Nat.le_of_eq g1.symm))
  have f59 := ((((f56.ext E1).keep K12 (ninS n58 nin0)).ext E22).keep K36 (ninS n58 nin0))
  have f61 := ((((f60.ext E1).keep K12 (ninS n54 nin0)).ext E22).keep K36 (ninS n54 nin0))
  have f62 := (f24.keep K36)
  have zz63 : n0 ≤ h22.size := by rw [← o35.1]; exact o35.2.1
  have g64 := Nat.le_trans zz63 f40
  have n65 := Nat.ne_of_lt (Nat.lt_of_lt_of_le (Nat.lt_of_lt_of_le A1.lt zs33) f40)
  have o66 := Old.keep o35 K36 (allS g10 all0)
  obtain ⟨_, T67, Lc67, X67, hQ67, st67⟩ := own_cV X49 hx hZ22 ho22 e49 (rm32_2 l Z a0 hw [] b1 r2 r3 (2 : Int32) c4 ([(.int x5), (.int x6)]) x1 (0 : Int32) (25 : Int32) b36_0 (34 : Int32) k36_0 ([vI73, vI110, vI116, vI101, vI114, vI110, vI97, vI108, vI67, vI97, vI108, vI108, vI68, vI101, vI116, vI97, vI105, vI108, vI115, vI32, vI91, vI107, vI101, vI121, vI61, vI0, vI0, vI0, vI0, vI0, vI0, vI0, vI0, vI0]) (0 : Int32) T36.heap n0 o66 f51 f55 f59 f7 hc8 f61 f39 f62 f37 f42 f38 (by decide) (by decide) (by decide) (own_lenK (n := 2) rfl (by decide) : [(.int x5), (.int x6)].length = ((2 : Int32)).toNatClampNeg) (by decide) (by decide) (by decide) (by decide) g64 n65 g10) f62 (w 213 rfl) (w 214 rfl) (w 216 rfl) (w 215 rfl) (w 217 rfl) (w 194 rfl) (by decide) (W := 0) (by decide) (by decide) (by decide) (by decide) (g := (mkF m 16 #[lR r0] [(.ref r2), (.ref b1)])) rfl (by rw [hml]; rfl) (argsL := [(.ref r2)]) (rest := []) (lenOf pd__Ljava_lang_String__Ljava_lang_StringBuilder_ rfl) rfl (own_W rfl) (hb hby d29_16)
  obtain ⟨rfl, N67q, K67, f68, f69, f70, f71⟩ := hQ67
  have N67 := Fr.app N36 N67q
  have sf72 := (Safe.keep K36 (sfS (Safe.exa hZ22.alike f24 (by decide) (by decide)) sf0) R23.1 sf44)
  have R73 := CHr.trans R43 (CHr.keep K67 (sfS sf72 (sfS (Safe.exa hZ22.alike f62 (by decide) (by decide)) sf0)) R43.1)
  have f74 : Arv Z T67.heap b36_0 k36_0 .byte (34 : Int32) [vI73, vI110, vI116, vI101, vI114, vI110, vI97, vI108, vI67, vI97, vI108, vI108, vI68, vI101, vI116, vI97, vI105, vI108, vI115, vI32, vI91, vI107, vI101, vI121, vI61, (.int x5), (.int x6), vI0, vI0, vI0, vI0, vI0, vI0, vI0] vI0 := own_cpx (by decide : (((25 : Int32) <<< ((0 : Int32) &&& 31))).toNatClampNeg = 25) (by decide : (((25 : Int32) <<< ((0 : Int32) &&& 31))).toNatClampNeg + ((2 : Int32)).toNatClampNeg = 27) f68
  have zs76 := K36.1
  have zs77 := Nat.le_trans zs76 K67.1
  obtain ⟨a75, T75, h75, kk75, b75, k75, X75, e75, E75, hS75, hk75, hZ75, ho75, EE75, C75, F75, V75, l75, m75, CR75, -, ne75, st75⟩ := ldcCH (s := s) (vm0 := T22.vm) X67 hx hZ22 ho22 (w 272 rfl) hstr rfl hS22 (Nat.le_trans hk22 zs77) hEL (by simp [consts_1]) R73.1 (vs := [vI44, vI32, vI97, vI117, vI116, vI104, vI111, vI114, vI105, vI116, vI105, vI101, vI115, vI61]) (z := (14 : Int32)) ⟨by decide, by decide⟩ (by decide) rfl (g := (mkF m 19 #[lR r0] [(.ref b1)])) rfl (hb hby d29_19) (n := 56) (by decide) (by decide) (by decide) (by decide)
  have R78 := CHr.trans R73 CR75
  have f79 := ((f62.keep K67).ext E75)
  have nl80 := ne75 _ (Safe.exa hZ75.alike f79 (by decide) (by decide))
  have zs81 := E22.1
  have zs82 := Nat.le_trans zs81 K36.1
  have zs83 := Nat.le_trans zs82 K67.1
  have sf84 := (CHr.safe CR75 (Nat.lt_of_lt_of_le f17.lt zs83) (Safe.keep K67 (sfS sf72 (sfS (Safe.exa hZ22.alike f62 (by decide) (by decide)) sf0)) R43.1 (Safe.keep K36 (sfS (Safe.exa hZ22.alike f24 (by decide) (by decide)) sf0) R23.1 sf26)))
  have nl85 := ne75 _ sf84
  have zs86 := K67.1
  have sf87 := (CHr.safe CR75 (Nat.lt_of_lt_of_le f41.lt zs86) (Safe.keep K67 (sfS sf72 (sfS (Safe.exa hZ22.alike f62 (by decide) (by decide)) sf0)) R43.1 sf72))
  have nl88 := ne75 _ sf87
  have f89 := (f69.ext E75)
  have f90 := (f70.ext E75)
  have f91 := (f74.ext E75)
  have f92 := (f71.ext E75)
  have zs93 := Nat.le_trans zs33 K36.1
  have zs94 := Nat.le_trans zs93 K67.1
  have zs95 := Nat.le_trans zs94 E75.1
  have o96 := Old.keep o66 K67 (allS g64 (allS g10 all0))
  have o97 := Old.ext o96 E75
  obtain ⟨_, T98, Lc98, X98, hQ98, st98⟩ := own_cV X75 hx hZ75 ho75 e75 (rm32_3 l Z a0 hw [] b1 a75 b75 k75 x1 b36_0 k36_0 x5 x6 h75 n0 o97 EE75 F75 V75 f7 hc8 C75 f89 f79 f90 f91 f92 g10 (Nat.lt_of_lt_of_le A1.lt zs95) (Ne.symm nl80.1) (Ne.symm nl80.2)) f79 (w 213 rfl) (w 214 rfl) (w 216 rfl) (w 215 rfl) (w 217 rfl) (w 194 rfl) (by decide) (W := 0) (by decide) (by decide) (by decide) (by decide) (g := (mkF m 21 #[lR r0] [(.ref a75), (.ref b1)])) rfl (by rw [hml]; rfl) (argsL := [(.ref a75)]) (rest := []) (lenOf pd__Ljava_lang_String__Ljava_lang_StringBuilder_ rfl) rfl (own_W rfl) (hb hby d29_21)
  obtain ⟨b98_0, k98_0, rfl, N98q, K98, f99, f100, f101, f102, f103, f104⟩ := hQ98
  have N98 := Fr.app N67 N98q
  have R105 := CHr.trans R78 (CHr.keep K98 (sfS (Safe.exa hZ75.alike f79 (by decide) (by decide)) sf0) R78.1)
  have sf106 : Safe Z consts_1 T75.vm h75 b98_0 := Safe.new f102
  have zs108 := E1.1
  have zs109 := Nat.le_trans zs108 K12.1
  have zs110 := Nat.le_trans zs109 E22.1
  have n111 := Nat.ne_of_lt (Nat.lt_of_lt_of_le (Nat.lt_of_lt_of_le l46 zs110) f40)
  have f112 := (((((((f107.ext E1).keep K12 (ninS n47 nin0)).ext E22).keep K36 (ninS n47 nin0)).keep K67 (ninS n111 (ninS n47 nin0))).ext E75).keep K98 (ninS n47 nin0))
  obtain ⟨T113, X113, e113, st113⟩ := getF X98 hx hZ75 ho75 (host := "") (Or.inl (w 185 rfl)) Via.refl rfl f112 (g := (mkF m 25 #[lR r0] [(.ref r0), (.ref b1)])) rfl rfl (hb hby d29_25)
  have f115 := (((((((f114.ext E1).keep K12).ext E22).keep K36).keep K67).ext E75).keep K98)
  have n118 := Nat.ne_of_lt (Nat.lt_of_lt_of_le l117 (Nat.le_of_eq g1.symm))
  have n119 := Nat.ne_of_lt (Nat.lt_of_lt_of_le (Nat.lt_of_lt_of_le l117 zs110) f40)
  have f120 := (((((((f116.ext E1).keep K12 (ninS n118 nin0)).ext E22).keep K36 (ninS n118 nin0)).keep K67 (ninS n119 (ninS n118 nin0))).ext E75).keep K98 (ninS n118 nin0))
  have f123 := (((((((f122.ext E1).keep K12 (ninS n118 nin0)).ext E22).keep K36 (ninS n118 nin0)).keep K67 (ninS n119 (ninS n118 nin0))).ext E75).keep K98 (ninS n118 nin0))
  have zs124 := Nat.le_trans zs110 K36.1
  have zs125 := Nat.le_trans zs124 K67.1
  have zs126 := Nat.le_trans zs125 E75.1
  have zs127 := Nat.le_trans zs126 K98.1
  have f130 := (((((((f129.ext E1).keep K12).ext E22).keep K36).keep K67).ext E75).keep K98)
  have n133 := Nat.ne_of_lt (Nat.lt_of_lt_of_le l132 (Nat.le_of_eq g1.symm))
  have n134 := Nat.ne_of_lt (Nat.lt_of_lt_of_le (Nat.lt_of_lt_of_le l132 zs110) f40)
  have f135 := (((((((f131.ext E1).keep K12 (ninS n133 nin0)).ext E22).keep K36 (ninS n133 nin0)).keep K67 (ninS n134 (ninS n133 nin0))).ext E75).keep K98 (ninS n133 nin0))
  have n138 := Nat.ne_of_lt (Nat.lt_of_lt_of_le l137 (Nat.le_of_eq g1.symm))
  have n139 := Nat.ne_of_lt (Nat.lt_of_lt_of_le (Nat.lt_of_lt_of_le l137 zs110) f40)
  have f140 := (((((((f136.ext E1).keep K12 (ninS n138 nin0)).ext E22).keep K36 (ninS n138 nin0)).keep K67 (ninS n139 (ninS n138 nin0))).ext E75).keep K98 (ninS n138 nin0))
  have f142 := (((((((f141.ext E1).keep K12 (ninS n133 nin0)).ext E22).keep K36 (ninS n133 nin0)).keep K67 (ninS n134 (ninS n133 nin0))).ext E75).keep K98 (ninS n133 nin0))
  have f143 := (f79.keep K98)
  have zz144 : n0 ≤ h75.size := by rw [← o97.1]; exact o97.2.1
  have g145 := Nat.le_trans zz144 f102
  have n146 := Nat.ne_of_lt (Nat.lt_of_lt_of_le (Nat.lt_of_lt_of_le A1.lt zs95) f102)
  have o147 := Old.keep o97 K98 (allS g10 all0)
  obtain ⟨_, T148, Lc148, X148, hQ148, st148⟩ := own_cV X113 hx hZ75 ho75 e113 (rm43_3 l Z a0 hw [] b1 r7 r8 x1 r9 r10 c11 x12 x13 b98_0 k98_0 x5 x6 T98.heap n0 o147 f115 f120 f121 f7 hc8 f123 (Nat.lt_of_lt_of_le l117 zs127) n128 f130 f135 (Nat.lt_of_lt_of_le l132 zs127) f140 (Nat.lt_of_lt_of_le l137 zs127) f142 f143 f101 f99 f104 f100 g145 n146 g10) f143 (w 273 rfl) (w 274 rfl) (w 276 rfl) (w 275 rfl) (w 277 rfl) (w 194 rfl) (by decide) (W := 0) (by decide) (by decide) (by decide) (by decide) (g := (mkF m 28 #[lR r0] [(.ref r7), (.ref b1)])) rfl (by rw [hml]; rfl) (argsL := [(.ref r7)]) (rest := []) (lenOf pd__Ljava_lang_Object__Ljava_lang_StringBuilder_ rfl) rfl (own_W rfl) (hb hby d29_28)
  obtain ⟨rfl, N148q, K148, f149, f150, f151, f152⟩ := hQ148
  have N148 := Fr.app N98 N148q
  have sf153 := (Safe.keep K98 (sfS (Safe.exa hZ75.alike f79 (by decide) (by decide)) sf0) R78.1 sf106)
  have R154 := CHr.trans R105 (CHr.keep K148 (sfS sf153 (sfS (Safe.exa hZ75.alike f143 (by decide) (by decide)) sf0)) R105.1)
  have zs156 := K98.1
  have zs157 := Nat.le_trans zs156 K148.1
  obtain ⟨a155, T155, h155, kk155, b155, k155, X155, e155, E155, hS155, hk155, hZ155, ho155, EE155, C155, F155, V155, l155, m155, CR155, -, ne155, st155⟩ := ldcCH (s := s) (vm0 := T75.vm) X148 hx hZ75 ho75 (w 401 rfl) hstr rfl hS75 (Nat.le_trans hk75 zs157) hEL (by simp [consts_1]) R154.1 (vs := [vI93]) (z := (1 : Int32)) ⟨by decide, by decide⟩ (by decide) rfl (g := (mkF m 31 #[lR r0] [(.ref b1)])) rfl (hb hby d29_31) (n := 4) (by decide) (by decide) (by decide) (by decide)
  have R158 := CHr.trans R154 CR155
  have f159 := ((f143.keep K148).ext E155)
  have nl160 := ne155 _ (Safe.exa hZ155.alike f159 (by decide) (by decide))
  have zs161 := Nat.le_trans zs83 E75.1
  have zs162 := Nat.le_trans zs161 K98.1
  have zs163 := Nat.le_trans zs162 K148.1
  have sf164 := (CHr.safe CR155 (Nat.lt_of_lt_of_le f17.lt zs163) (Safe.keep K148 (sfS sf153 (sfS (Safe.exa hZ75.alike f143 (by decide) (by decide)) sf0)) R105.1 (Safe.keep K98 (sfS (Safe.exa hZ75.alike f79 (by decide) (by decide)) sf0) R78.1 sf84)))
  have nl165 := ne155 _ sf164
  have zs166 := Nat.le_trans zs86 E75.1
  have zs167 := Nat.le_trans zs166 K98.1
  have zs168 := Nat.le_trans zs167 K148.1
  have sf169 := (CHr.safe CR155 (Nat.lt_of_lt_of_le f41.lt zs168) (Safe.keep K148 (sfS sf153 (sfS (Safe.exa hZ75.alike f143 (by decide) (by decide)) sf0)) R105.1 (Safe.keep K98 (sfS (Safe.exa hZ75.alike f79 (by decide) (by decide)) sf0) R78.1 sf87)))
  have nl170 := ne155 _ sf169
  have zs171 := K148.1
  have sf172 := (CHr.safe CR155 (Nat.lt_of_lt_of_le f103.lt zs171) (Safe.keep K148 (sfS sf153 (sfS (Safe.exa hZ75.alike f143 (by decide) (by decide)) sf0)) R105.1 sf153))
  have nl173 := ne155 _ sf172
  have f174 := ((f115.keep K148).ext E155)
  have nl175 := ne155 _ (Safe.exa hZ155.alike f174 (by decide) (by decide))
  have f176 := (f150.ext E155)
  have f177 := (f151.ext E155)
  have f178 := (f149.ext E155)
  have f179 := (f152.ext E155)
  have o180 := Old.keep o147 K148 (allS g145 (allS g10 all0))
  have o181 := Old.ext o180 E155
  obtain ⟨_, T182, Lc182, X182, hQ182, st182⟩ := own_cV X155 hx hZ155 ho155 e155 (rm32_2 l Z a0 hw [] b1 a155 b155 (1 : Int32) k155 ([vI93]) x1 (0 : Int32) (45 : Int32) b98_0 (70 : Int32) k98_0 ([vI73, vI110, vI116, vI101, vI114, vI110, vI97, vI108, vI67, vI97, vI108, vI108, vI68, vI101, vI116, vI97, vI105, vI108, vI115, vI32, vI91, vI107, vI101, vI121, vI61, (.int x5), (.int x6), vI44, vI32, vI97, vI117, vI116, vI104, vI111, vI114, vI105, vI116, vI105, vI101, vI115, vI61, vI91, (.int x12), (.int x13), vI93, vI0, vI0, vI0, vI0, vI0, vI0, vI0, vI0, vI0, vI0, vI0, vI0, vI0, vI0, vI0, vI0, vI0, vI0, vI0, vI0, vI0, vI0, vI0, vI0, vI0]) (0 : Int32) h155 n0 o181 EE155 F155 V155 f7 hc8 C155 f176 f159 f177 f178 f179 (by decide) (by decide) (by decide) (by decide) (own_lenK (n := 70) rfl (by decide) : [vI73, vI110, vI116, vI101, vI114, vI110, vI97, vI108, vI67, vI97, vI108, vI108, vI68, vI101, vI116, vI97, vI105, vI108, vI115, vI32, vI91, vI107, vI101, vI121, vI61, (.int x5), (.int x6), vI44, vI32, vI97, vI117, vI116, vI104, vI111, vI114, vI105, vI116, vI105, vI101, vI115, vI61, vI91, (.int x12), (.int x13), vI93, vI0, vI0, vI0, vI0, vI0, vI0, vI0, vI0, vI0, vI0, vI0, vI0, vI0, vI0, vI0, vI0, vI0, vI0, vI0, vI0, vI0, vI0, vI0, vI0, vI0].length = ((70 : Int32)).toNatClampNeg) (by decide) (by decide) (by decide) g145 n146 g10) f159 (w 213 rfl) (w 214 rfl) (w 216 rfl) (w 215 rfl) (w 217 rfl) (w 194 rfl) (by decide) (W := 0) (by decide) (by decide) (by decide) (by decide) (g := (mkF m 33 #[lR r0] [(.ref a155), (.ref b1)])) rfl (by rw [hml]; rfl) (argsL := [(.ref a155)]) (rest := []) (lenOf pd__Ljava_lang_String__Ljava_lang_StringBuilder_ rfl) rfl (own_W rfl) (hb hby d29_33)
  obtain ⟨rfl, N182q, K182, f183, f184, f185, f186⟩ := hQ182
  have N182 := Fr.app N148 N182q
  have R187 := CHr.trans R158 (CHr.keep K182 (sfS sf172 (sfS (Safe.exa hZ155.alike f159 (by decide) (by decide)) sf0)) R158.1)
  have f188 : Arv Z T182.heap b98_0 k98_0 .byte (70 : Int32) [vI73, vI110, vI116, vI101, vI114, vI110, vI97, vI108, vI67, vI97, vI108, vI108, vI68, vI101, vI116, vI97, vI105, vI108, vI115, vI32, vI91, vI107, vI101, vI121, vI61, (.int x5), (.int x6), vI44, vI32, vI97, vI117, vI116, vI104, vI111, vI114, vI105, vI116, vI105, vI101, vI115, vI61, vI91, (.int x12), (.int x13), vI93, vI93, vI0, vI0, vI0, vI0, vI0, vI0, vI0, vI0, vI0, vI0, vI0, vI0, vI0, vI0, vI0, vI0, vI0, vI0, vI0, vI0, vI0, vI0, vI0, vI0] vI0 := own_cpx (by decide : (((45 : Int32) <<< ((0 : Int32) &&& 31))).toNatClampNeg = 45) (by decide : (((45 : Int32) <<< ((0 : Int32) &&& 31))).toNatClampNeg + ((1 : Int32)).toNatClampNeg = 46) f183
  have f189 := (f159.keep K182)
  have zs190 := Nat.le_trans zs171 E155.1
  have zs191 := Nat.le_trans zs190 K182.1
  have o192 := Old.keep o181 K182 (allS g145 (allS g10 all0))
  obtain ⟨_, T193, Lc193, X193, hQ193, st193⟩ := own_cV X182 hx hZ155 ho155 rfl (rm57_1 l Z a0 hw [] b1 b98_0 (46 : Int32) x1 (0 : Int32) (70 : Int32) k98_0 ([vI73, vI110, vI116, vI101, vI114, vI110, vI97, vI108, vI67, vI97, vI108, vI108, vI68, vI101, vI116, vI97, vI105, vI108, vI115, vI32, vI91, vI107, vI101, vI121, vI61, (.int x5), (.int x6), vI44, vI32, vI97, vI117, vI116, vI104, vI111, vI114, vI105, vI116, vI105, vI101, vI115, vI61, vI91, (.int x12), (.int x13), vI93, vI93, vI0, vI0, vI0, vI0, vI0, vI0, vI0, vI0, vI0, vI0, vI0, vI0, vI0, vI0, vI0, vI0, vI0, vI0, vI0, vI0, vI0, vI0, vI0, vI0]) T182.heap n0 o192 f189 f185 f184 f7 hc8 f186 (by decide) f188 (Nat.lt_of_lt_of_le f103.lt zs191) (by decide) (by decide) (by decide) (by decide) (by decide) (by decide)) f189 (w 402 rfl) (w 367 rfl) (w 369 rfl) (w 368 rfl) (w 370 rfl) (w 194 rfl) (by decide) (W := 0) (by decide) (by decide) (by decide) (by decide) (g := (mkF m 36 #[lR r0] [(.ref b1)])) rfl (by rw [hml]; rfl) (argsL := []) (rest := []) (lenOf pd___Ljava_lang_String_ rfl) rfl (own_W rfl) (hb hby d29_36)
  obtain ⟨b193_0, b193_1, k193_0, rfl, N193q, K193, f194, f195, f196, f197, f198, f199, f200, f201⟩ := hQ193
  have N193 := Fr.app N182 N193q
  have R202 := CHr.trans R187 (CHr.keep K193 sf0 R187.1)
  have sf203 : Safe Z consts_1 T155.vm T182.heap b193_0 := Safe.new f194
  have sf204 : Safe Z consts_1 T155.vm T182.heap b193_1 := Safe.new f198
  have f205 : Arv Z T193.heap b193_1 k193_0 .byte (46 : Int32) [vI73, vI110, vI116, vI101, vI114, vI110, vI97, vI108, vI67, vI97, vI108, vI108, vI68, vI101, vI116, vI97, vI105, vI108, vI115, vI32, vI91, vI107, vI101, vI121, vI61, (.int x5), (.int x6), vI44, vI32, vI97, vI117, vI116, vI104, vI111, vI114, vI105, vI116, vI105, vI101, vI115, vI61, vI91, (.int x12), (.int x13), vI93, vI93] vI0 := own_trunc (ws := [vI73, vI110, vI116, vI101, vI114, vI110, vI97, vI108, vI67, vI97, vI108, vI108, vI68, vI101, vI116, vI97, vI105, vI108, vI115, vI32, vI91, vI107, vI101, vI121, vI61, (.int x5), (.int x6), vI44, vI32, vI97, vI117, vI116, vI104, vI111, vI114, vI105, vI116, vI105, vI101, vI115, vI61, vI91, (.int x12), (.int x13), vI93, vI93]) (rest := [vI0, vI0, vI0, vI0, vI0, vI0, vI0, vI0, vI0, vI0, vI0, vI0, vI0, vI0, vI0, vI0, vI0, vI0, vI0, vI0, vI0, vI0, vI0, vI0]) (own_lenK (n := 46) rfl (by decide)) f199
  have zs206 := Nat.le_trans zs127 K148.1
  have zs207 := Nat.le_trans zs206 E155.1
  have zs208 := Nat.le_trans zs207 K182.1
  have kp209 : Keep h0 h1 [] := (Keep.refl h0 []).ext E1
  have kp210 : Keep h0 T12.heap [] := kp209.trans K12 (allS (Or.inr (Nat.le_of_eq g1.symm)) all0)
  have kp211 : Keep h0 h22 [] := kp210.ext E22
  have kp212 : Keep h0 T36.heap [] := kp211.trans K36 (allS (Or.inr (Nat.le_of_eq g1.symm)) all0)
  have kp213 : Keep h0 T67.heap [] := kp212.trans K67 (allS (Or.inr (Nat.le_trans zs110 f40)) (allS (Or.inr (Nat.le_of_eq g1.symm)) all0))
  have kp214 : Keep h0 h75 [] := kp213.ext E75
  have kp215 : Keep h0 T98.heap [] := kp214.trans K98 (allS (Or.inr (Nat.le_of_eq g1.symm)) all0)
  have kp216 : Keep h0 T148.heap [] := kp215.trans K148 (allS (Or.inr (Nat.le_trans zs126 f102)) (allS (Or.inr (Nat.le_of_eq g1.symm)) all0))
  have kp217 : Keep h0 h155 [] := kp216.ext E155
  have kp218 : Keep h0 T182.heap [] := kp217.trans K182 (allS (Or.inr (Nat.le_trans zs126 f102)) (allS (Or.inr (Nat.le_of_eq g1.symm)) all0))
  have kp219 : Keep h0 T193.heap [] := kp218.trans K193 all0
  have zs220 := K182.1
  have zs221 := Nat.le_trans zs220 K193.1
  refine ⟨some (.ref b193_0), _, _, _, _, _, _, _, nofun, X193, by decide, by decide, hS155, ((Nat.le_trans hk155 zs221)), hZ155, rfl, R202, ?_, fun fs hr => ?_⟩
  · exact ⟨b193_0, b193_1, k193_0, rfl, N193, kp219, (Nat.le_trans zs208 f194), f195, f196, f197, (Nat.le_trans zs208 f198), f205, f200, f201⟩
  · show SG p e below s₁ (mkF m 0 #[lR r0] []) _
    refine st1 _ ?_
    refine qd X1 hx hby d29_3 ?_
    refine st12.trans ?_
    refine st22 _ ?_
    refine st36 _ ?_
    refine qaN X36 hx hby d29_12 ?_
    refine st49 _ ?_
    refine st67 _ ?_
    refine st75 _ ?_
    refine st98 _ ?_
    refine qaN X98 hx hby d29_24 ?_
    refine st113 _ ?_
    refine st148 _ ?_
    refine st155 _ ?_
    refine st182 _ ?_
    refine st193 _ ?_
    exact retOut X193 hx (i := .areturn) hret rfl (Or.inr (Or.inr (Or.inr (Or.inr ⟨rfl, rfl, rfl⟩)))) (hb hby d29_39) hr
def Q0_2 (Z : State)  (h0 : Heap) (n0 : Nat) (v : Option Value) (h : Heap) (L : List Loc) : Prop := v = some vI1 ∧ Fr n0 L
theorem rm0_2 (l : Launch) (Z : State) (a0 : Array Value) (hw : own_HW a0 Z) (ws : List Jvm.Cond) (x0 x1 : Int32) (x2 x3 : Int32) (x4 x5 : Int32) (x6 x7 : Int32) (x8 x9 x10 : Int32) (r11 : Addr) (c12 : ClassId) (r13 r14 : Addr) (h0 : Heap) (n0 : Nat) (O0 : Old Z n0 h0) (hq2 : ((x0 &&& (255 : Int32)).toUInt32.toUInt16.toUInt32.toInt32) = x4) (hq3 : ((((x0.toUInt32 >>> ((8 : Int32) &&& 31).toUInt32).toInt32) &&& (255 : Int32)).toUInt32.toUInt16.toUInt32.toInt32) = x5) (hq4 : ((x1 &&& (255 : Int32)).toUInt32.toUInt16.toUInt32.toInt32) = x6) (hq5 : ((((x1.toUInt32 >>> ((8 : Int32) &&& 31).toUInt32).toInt32) &&& (255 : Int32)).toUInt32.toUInt16.toUInt32.toInt32) = x7) (hq6 : ((x2 &&& (255 : Int32)).toUInt32.toUInt16.toUInt32.toInt32) = x8) (hq7 : ((((x2.toUInt32 >>> ((8 : Int32) &&& 31).toUInt32).toInt32) &&& (255 : Int32)).toUInt32.toUInt16.toUInt32.toInt32) = x9) (hc8 : ((x3 &&& (2147483647 : Int32)) % (3 : Int32)) = (1 : Int32)) (f33 : Sta Z Z.heap cs8 cs9 "Z" (.int x10)) (hc38 : ¬ (x10 = (0 : Int32))) (hc41 : ¬ ((255 : Int32) < (nar .char x4))) (hc42 : ¬ ((255 : Int32) < (nar .char x5))) (hc84 : ¬ ((255 : Int32) < (nar .char x6))) (hc85 : ¬ ((255 : Int32) < (nar .char x7))) (hc127 : ¬ ((255 : Int32) < (nar .char x8))) (hc128 : ¬ ((255 : Int32) < (nar .char x9))) (f148 : Sta Z Z.heap cs2 cs6 cs4 (.ref r11)) (f156 : Arv Z Z.heap r11 c12 (.object cs5) (0 : Int32) [] .null) (f198 : own_Mir Z cs4 r13) (f203 : Sta Z Z.heap cs12 "EMPTY" cs46 (.ref r14)) :
    own_MH l x code maxLocals ret ws room_1 Z h0 #[(.int x0), (.int x1), (.int x2), (.int x3)] (Q0_2 Z  h0 n0) := by
  have hEL : EW Z a0 consts_1 := own_EW hw
  refine own_openH hEL (plainFor_of_name pn_com_example_innerkey_innerkey_InternalCallDetailsToStringPinLaw) (L0 := #[lI x0, lI x1, lI x2, lI x3, lU, lU, lU, lU, lU, lU, lU, lU, lU, lU, lU, lU, lU]) (fun _ => by first | (simp [entryFrame, mkF, argsToLocals, Value.category, maxLocals]; done) | rfl) ?_
  intro p e s m below meth c s₁ hx hby hml hret hnn hZ hown X0 e0 R0
  have N0 := Fr.nil n0; have w := @ww Z a0 hw
  have hS1 := (State.WarmedH.refl s).since 0
  obtain ⟨T9, h9, X9, e9, E9, A9, D9, -, st9⟩ := newO X0 hx hZ hown (w 1 rfl) (w 2 rfl) (w 3 rfl) e0 (g := (mkF m 65 #[lI x0, lI x1, lI x2, lI x3, lI x4, lI x5, lI x6, lI x7, lI x8, lI x9, lV vI1, lU, lU, lU, lU, lU, lU] [])) rfl (hb hby at_65) (by decide) (by decide)
  obtain ⟨b9, g9⟩ : ∃ z, z = h0.size := ⟨_, rfl⟩
  have sf10 : Safe Z consts_1 s.vm h0 b9 := Safe.new (Nat.le_of_eq g9.symm)
  rw [← g9] at A9 D9 st9
  have R11 := CHr.trans R0 (CHr.ext E9 R0.1)
  have f12 : Fld Z h9 b9 cs8 "coder" "B" vI0 := D9 (Or.inr (w 28 rfl)) (ty := .byte) (by decide)
  have f13 : Fld Z h9 b9 cs8 "value" "[B" .null := D9 (Or.inr (w 30 rfl)) (ty := (.array .byte)) (by decide)
  obtain ⟨T14, h14, k14, X14, e14, E14, A14, B14, st14⟩ := newPE X9 hx hZ (w 4 rfl) e9 (g := (mkF m 70 #[lI x0, lI x1, lI x2, lI x3, lI x4, lI x5, lI x6, lI x7, lI x8, lI x9, lV vI1, lU, lU, lU, lU, lU, lU] [vI2, (.ref b9), (.ref b9)])) rfl (hb hby at_70) rfl (by decide) (cap := 2) (by decide) (by decide) (by decide) (by decide) (ad := "[C") rfl
  obtain ⟨b14, g14⟩ : ∃ z, z = h9.size := ⟨_, rfl⟩
  have sf15 : Safe Z consts_1 s.vm h9 b14 := Safe.new (Nat.le_of_eq g14.symm)
  rw [← g14] at A14 B14 st14
  have R16 := CHr.trans R11 (CHr.ext E14 R11.1)
  have V14 : Arv Z h14 b14 k14 .char (2 : Int32) [vI0, vI0] vI0 := (Arv.new A14 (by decide)).pad (pad_rep [] vI0 2)
  obtain ⟨clq17, Arq17, qq17, Sq17, Nq17, Hq17, Gq17⟩ := id V14
  have o19 := Old.ext O0 E9
  have zz18 : n0 ≤ h9.size := by rw [← o19.1]; exact o19.2.1
  have g20 := Nat.le_trans zz18 (Nat.le_of_eq g14.symm)
  obtain ⟨T21, h21, X21, e21, W21, st21⟩ := stC X14 hx hZ e14 Arq17 (j := (0 : Int32)) (inb_of Sq17 ⟨(by decide : ¬ ((0 : Int32) < (0 : Int32))), (by decide : (0 : Int32) < (2 : Int32))⟩) (g := (mkF m 76 #[lI x0, lI x1, lI x2, lI x3, lI x4, lI x5, lI x6, lI x7, lI x8, lI x9, lV vI1, lU, lU, lU, lU, lU, lU] [(.int x4), vI0, (.ref b14), (.ref b14), (.ref b9), (.ref b9)])) rfl rfl (hb hby at_76)
  have sf22 : Safe Z consts_1 s.vm h14 b14 := (Safe.exa hZ.alike B14 (by decide) (by decide))
  have R23 := CHr.trans R16 (CHr.wr W21 sf22 R16.1)
  have V21 : Arv Z h21 b14 k14 .char (2 : Int32) [(.int (nar .char x4)), vI0] vI0 := Arv.set Arq17 qq17 Sq17 Nq17 Hq17 Gq17 (fits_nar_char _) W21 0 rfl (Nat.le_of_ble_eq_true rfl)
  have N21 := Fr.snoc X21 N0 g20
  obtain ⟨clq24, Arq24, qq24, Sq24, Nq24, Hq24, Gq24⟩ := id V21
  obtain ⟨T25, h25, X25, e25, W25, st25⟩ := stC X21 hx hZ e21 Arq24 (j := (1 : Int32)) (inb_of Sq24 ⟨(by decide : ¬ ((1 : Int32) < (0 : Int32))), (by decide : (1 : Int32) < (2 : Int32))⟩) (g := (mkF m 81 #[lI x0, lI x1, lI x2, lI x3, lI x4, lI x5, lI x6, lI x7, lI x8, lI x9, lV vI1, lU, lU, lU, lU, lU, lU] [(.int x5), vI1, (.ref b14), (.ref b14), (.ref b9), (.ref b9)])) rfl rfl (hb hby at_81)
  have f26 := (B14.wr W21)
  have sf27 : Safe Z consts_1 s.vm h21 b14 := (Safe.exa hZ.alike f26 (by decide) (by decide))
  have R28 := CHr.trans R23 (CHr.wr W25 sf27 R23.1)
  have V25 : Arv Z h25 b14 k14 .char (2 : Int32) [(.int (nar .char x4)), (.int (nar .char x5))] vI0 := Arv.set Arq24 qq24 Sq24 Nq24 Hq24 Gq24 (fits_nar_char _) W25 1 rfl (Nat.le_of_ble_eq_true rfl)
  have N25 := Fr.snoc X25 N21 g20
  have f29 := (((A9.ext E14).wr W21).wr W25)
  have n30 := Nat.ne_of_lt (Nat.lt_of_lt_of_le A9.lt (Nat.le_of_eq g14.symm))
  have f31 := (((f13.ext E14).other W21 (Or.inl n30)).other W25 (Or.inl n30))
  have f32 := (((f12.ext E14).other W21 (Or.inl n30)).other W25 (Or.inl n30))
  have o34 := Old.ext o19 E14
  have o35 := Old.wr o34 W21 g20
  have o36 := Old.wr o35 W25 g20
  have f37 := f33.ext o36.2
  have zz39 : n0 ≤ h0.size := by rw [← O0.1]; exact O0.2.1
  have g40 := Nat.le_trans zz39 (Nat.le_of_eq g9.symm)
  obtain ⟨_, T43, Lc43, X43, hQ43, st43⟩ := own_fin (X25.specialBack hx (y := mN4) rfl hown (mvT hZ (w 5 rfl)) (mvT hZ (w 6 rfl)) (mvT hZ (w 7 rfl)) (by decide) (own_newStr hZ hw (w 2 rfl) (cs := [(nar .char x4), (nar .char x5)]) (n := 2) g40 f29 f31 f32 V25 f37 hc38 rfl rfl (by decide) (by decide) (own_acS hc41 (own_acS hc42 own_ac0)) (own_bsS rfl (own_bsS rfl own_bs0)) (by decide) (by decide : 1 + 65 ≤ _)) (g := (mkF m 82 #[lI x0, lI x1, lI x2, lI x3, lI x4, lI x5, lI x6, lI x7, lI x8, lI x9, lV vI1, lU, lU, lU, lU, lU, lU] [(.ref b14), (.ref b9), (.ref b9)])) rfl (by rw [hml]; rfl) (Steps.refl _) (a := b9) (argsL := [(.ref b14)]) (rest := [(.ref b9)]) (lenOf pd___C_V rfl) rfl (own_W rfl) (hb hby at_82) (fun _ _ => ⟨rfl, e25, (by decide : 2 + 1 ≤ _), (by decide : 6 + 2 ≤ _)⟩))
  obtain ⟨b43_0, k43_0, rfl, N43q, K43, f44, f45, f46, f47, f48, f49⟩ := hQ43
  have N43 := Fr.app N25 N43q
  have sf50 := (Safe.wr W25 sf27 R23.1 (Safe.wr W21 sf22 R16.1 (Safe.ext E14 R11.1 (Safe.ext E9 R0.1 sf10))))
  have R51 := CHr.trans R28 (CHr.keep K43 (sfS sf50 sf0) R28.1)
  have sf52 : Safe Z consts_1 s.vm h25 b43_0 := Safe.new f46
  obtain ⟨T53, h53, X53, e53, E53, A53, D53, -, st53⟩ := newO X43 hx hZ hown (w 1 rfl) (w 2 rfl) (w 3 rfl) rfl (g := (mkF m 87 #[lI x0, lI x1, lI x2, lI x3, lI x4, lI x5, lI x6, lI x7, lI x8, lI x9, lV vI1, lR b9, lU, lU, lU, lU, lU] [])) rfl (hb hby at_87) (by decide) (by decide)
  obtain ⟨b53, g53⟩ : ∃ z, z = T43.heap.size := ⟨_, rfl⟩
  have sf54 : Safe Z consts_1 s.vm T43.heap b53 := Safe.new (Nat.le_of_eq g53.symm)
  rw [← g53] at A53 D53 st53
  have R55 := CHr.trans R51 (CHr.ext E53 R51.1)
  have f56 : Fld Z h53 b53 cs8 "coder" "B" vI0 := D53 (Or.inr (w 28 rfl)) (ty := .byte) (by decide)
  have f57 : Fld Z h53 b53 cs8 "value" "[B" .null := D53 (Or.inr (w 30 rfl)) (ty := (.array .byte)) (by decide)
  obtain ⟨T58, h58, k58, X58, e58, E58, A58, B58, st58⟩ := newPE X53 hx hZ (w 4 rfl) e53 (g := (mkF m 92 #[lI x0, lI x1, lI x2, lI x3, lI x4, lI x5, lI x6, lI x7, lI x8, lI x9, lV vI1, lR b9, lU, lU, lU, lU, lU] [vI2, (.ref b53), (.ref b53)])) rfl (hb hby at_92) rfl (by decide) (cap := 2) (by decide) (by decide) (by decide) (by decide) (ad := "[C") rfl
  obtain ⟨b58, g58⟩ : ∃ z, z = h53.size := ⟨_, rfl⟩
  have sf59 : Safe Z consts_1 s.vm h53 b58 := Safe.new (Nat.le_of_eq g58.symm)
  rw [← g58] at A58 B58 st58
  have R60 := CHr.trans R55 (CHr.ext E58 R55.1)
  have V58 : Arv Z h58 b58 k58 .char (2 : Int32) [vI0, vI0] vI0 := (Arv.new A58 (by decide)).pad (pad_rep [] vI0 2)
  obtain ⟨clq61, Arq61, qq61, Sq61, Nq61, Hq61, Gq61⟩ := id V58
  have o63 := Old.keep o36 K43 (allS g40 all0)
  have o64 := Old.ext o63 E53
  have zz62 : n0 ≤ h53.size := by rw [← o64.1]; exact o64.2.1
  have g65 := Nat.le_trans zz62 (Nat.le_of_eq g58.symm)
  obtain ⟨T66, h66, X66, e66, W66, st66⟩ := stC X58 hx hZ e58 Arq61 (j := (0 : Int32)) (inb_of Sq61 ⟨(by decide : ¬ ((0 : Int32) < (0 : Int32))), (by decide : (0 : Int32) < (2 : Int32))⟩) (g := (mkF m 98 #[lI x0, lI x1, lI x2, lI x3, lI x4, lI x5, lI x6, lI x7, lI x8, lI x9, lV vI1, lR b9, lU, lU, lU, lU, lU] [(.int x6), vI0, (.ref b58), (.ref b58), (.ref b53), (.ref b53)])) rfl rfl (hb hby at_98)
  have sf67 : Safe Z consts_1 s.vm h58 b58 := (Safe.exa hZ.alike B58 (by decide) (by decide))
  have R68 := CHr.trans R60 (CHr.wr W66 sf67 R60.1)
  have V66 : Arv Z h66 b58 k58 .char (2 : Int32) [(.int (nar .char x6)), vI0] vI0 := Arv.set Arq61 qq61 Sq61 Nq61 Hq61 Gq61 (fits_nar_char _) W66 0 rfl (Nat.le_of_ble_eq_true rfl)
  have N66 := Fr.snoc X66 N43 g65
  obtain ⟨clq69, Arq69, qq69, Sq69, Nq69, Hq69, Gq69⟩ := id V66
  obtain ⟨T70, h70, X70, e70, W70, st70⟩ := stC X66 hx hZ e66 Arq69 (j := (1 : Int32)) (inb_of Sq69 ⟨(by decide : ¬ ((1 : Int32) < (0 : Int32))), (by decide : (1 : Int32) < (2 : Int32))⟩) (g := (mkF m 103 #[lI x0, lI x1, lI x2, lI x3, lI x4, lI x5, lI x6, lI x7, lI x8, lI x9, lV vI1, lR b9, lU, lU, lU, lU, lU] [(.int x7), vI1, (.ref b58), (.ref b58), (.ref b53), (.ref b53)])) rfl rfl (hb hby at_103)
  have f71 := (B58.wr W66)
  have sf72 : Safe Z consts_1 s.vm h66 b58 := (Safe.exa hZ.alike f71 (by decide) (by decide))
  have R73 := CHr.trans R68 (CHr.wr W70 sf72 R68.1)
  have V70 : Arv Z h70 b58 k58 .char (2 : Int32) [(.int (nar .char x6)), (.int (nar .char x7))] vI0 := Arv.set Arq69 qq69 Sq69 Nq69 Hq69 Gq69 (fits_nar_char _) W70 1 rfl (Nat.le_of_ble_eq_true rfl)
  have N70 := Fr.snoc X70 N66 g65
  have f74 := (((A53.ext E58).wr W66).wr W70)
  have n75 := Nat.ne_of_lt (Nat.lt_of_lt_of_le A53.lt (Nat.le_of_eq g58.symm))
  have f76 := (((f57.ext E58).other W66 (Or.inl n75)).other W70 (Or.inl n75))
  have f77 := (((f56.ext E58).other W66 (Or.inl n75)).other W70 (Or.inl n75))
  have o78 := Old.ext o64 E58
  have o79 := Old.wr o78 W66 g65
  have o80 := Old.wr o79 W70 g65
  have f81 := f33.ext o80.2
  have zz82 : n0 ≤ T43.heap.size := by rw [← o63.1]; exact o63.2.1
  have g83 := Nat.le_trans zz82 (Nat.le_of_eq g53.symm)
  obtain ⟨_, T86, Lc86, X86, hQ86, st86⟩ := own_fin (X70.specialBack hx (y := mN4) rfl hown (mvT hZ (w 5 rfl)) (mvT hZ (w 6 rfl)) (mvT hZ (w 7 rfl)) (by decide) (own_newStr hZ hw (w 2 rfl) (cs := [(nar .char x6), (nar .char x7)]) (n := 2) g83 f74 f76 f77 V70 f81 hc38 rfl rfl (by decide) (by decide) (own_acS hc84 (own_acS hc85 own_ac0)) (own_bsS rfl (own_bsS rfl own_bs0)) (by decide) (by decide : 1 + 65 ≤ _)) (g := (mkF m 104 #[lI x0, lI x1, lI x2, lI x3, lI x4, lI x5, lI x6, lI x7, lI x8, lI x9, lV vI1, lR b9, lU, lU, lU, lU, lU] [(.ref b58), (.ref b53), (.ref b53)])) rfl (by rw [hml]; rfl) (Steps.refl _) (a := b53) (argsL := [(.ref b58)]) (rest := [(.ref b53)]) (lenOf pd___C_V rfl) rfl (own_W rfl) (hb hby at_104) (fun _ _ => ⟨rfl, e70, (by decide : 5 + 1 ≤ _), (by decide : 14 + 2 ≤ _)⟩))
  obtain ⟨b86_0, k86_0, rfl, N86q, K86, f87, f88, f89, f90, f91, f92⟩ := hQ86
  have N86 := Fr.app N70 N86q
  have sf93 := (Safe.wr W70 sf72 R68.1 (Safe.wr W66 sf67 R60.1 (Safe.ext E58 R55.1 (Safe.ext E53 R51.1 sf54))))
  have R94 := CHr.trans R73 (CHr.keep K86 (sfS sf93 sf0) R73.1)
  have sf95 : Safe Z consts_1 s.vm h70 b86_0 := Safe.new f89
  obtain ⟨T96, h96, X96, e96, E96, A96, D96, -, st96⟩ := newO X86 hx hZ hown (w 1 rfl) (w 2 rfl) (w 3 rfl) rfl (g := (mkF m 109 #[lI x0, lI x1, lI x2, lI x3, lI x4, lI x5, lI x6, lI x7, lI x8, lI x9, lV vI1, lR b9, lR b53, lU, lU, lU, lU] [])) rfl (hb hby at_109) (by decide) (by decide)
  obtain ⟨b96, g96⟩ : ∃ z, z = T86.heap.size := ⟨_, rfl⟩
  have sf97 : Safe Z consts_1 s.vm T86.heap b96 := Safe.new (Nat.le_of_eq g96.symm)
  rw [← g96] at A96 D96 st96
  have R98 := CHr.trans R94 (CHr.ext E96 R94.1)
  have f99 : Fld Z h96 b96 cs8 "coder" "B" vI0 := D96 (Or.inr (w 28 rfl)) (ty := .byte) (by decide)
  have f100 : Fld Z h96 b96 cs8 "value" "[B" .null := D96 (Or.inr (w 30 rfl)) (ty := (.array .byte)) (by decide)
  obtain ⟨T101, h101, k101, X101, e101, E101, A101, B101, st101⟩ := newPE X96 hx hZ (w 4 rfl) e96 (g := (mkF m 114 #[lI x0, lI x1, lI x2, lI x3, lI x4, lI x5, lI x6, lI x7, lI x8, lI x9, lV vI1, lR b9, lR b53, lU, lU, lU, lU] [vI2, (.ref b96), (.ref b96)])) rfl (hb hby at_114) rfl (by decide) (cap := 2) (by decide) (by decide) (by decide) (by decide) (ad := "[C") rfl
  obtain ⟨b101, g101⟩ : ∃ z, z = h96.size := ⟨_, rfl⟩
  have sf102 : Safe Z consts_1 s.vm h96 b101 := Safe.new (Nat.le_of_eq g101.symm)
  rw [← g101] at A101 B101 st101
  have R103 := CHr.trans R98 (CHr.ext E101 R98.1)
  have V101 : Arv Z h101 b101 k101 .char (2 : Int32) [vI0, vI0] vI0 := (Arv.new A101 (by decide)).pad (pad_rep [] vI0 2)
  obtain ⟨clq104, Arq104, qq104, Sq104, Nq104, Hq104, Gq104⟩ := id V101
  have o106 := Old.keep o80 K86 (allS g83 all0)
  have o107 := Old.ext o106 E96
  have zz105 : n0 ≤ h96.size := by rw [← o107.1]; exact o107.2.1
  have g108 := Nat.le_trans zz105 (Nat.le_of_eq g101.symm)
  obtain ⟨T109, h109, X109, e109, W109, st109⟩ := stC X101 hx hZ e101 Arq104 (j := (0 : Int32)) (inb_of Sq104 ⟨(by decide : ¬ ((0 : Int32) < (0 : Int32))), (by decide : (0 : Int32) < (2 : Int32))⟩) (g := (mkF m 120 #[lI x0, lI x1, lI x2, lI x3, lI x4, lI x5, lI x6, lI x7, lI x8, lI x9, lV vI1, lR b9, lR b53, lU, lU, lU, lU] [(.int x8), vI0, (.ref b101), (.ref b101), (.ref b96), (.ref b96)])) rfl rfl (hb hby at_120)
  have sf110 : Safe Z consts_1 s.vm h101 b101 := (Safe.exa hZ.alike B101 (by decide) (by decide))
  have R111 := CHr.trans R103 (CHr.wr W109 sf110 R103.1)
  have V109 : Arv Z h109 b101 k101 .char (2 : Int32) [(.int (nar .char x8)), vI0] vI0 := Arv.set Arq104 qq104 Sq104 Nq104 Hq104 Gq104 (fits_nar_char _) W109 0 rfl (Nat.le_of_ble_eq_true rfl)
  have N109 := Fr.snoc X109 N86 g108
  obtain ⟨clq112, Arq112, qq112, Sq112, Nq112, Hq112, Gq112⟩ := id V109
  obtain ⟨T113, h113, X113, e113, W113, st113⟩ := stC X109 hx hZ e109 Arq112 (j := (1 : Int32)) (inb_of Sq112 ⟨(by decide : ¬ ((1 : Int32) < (0 : Int32))), (by decide : (1 : Int32) < (2 : Int32))⟩) (g := (mkF m 125 #[lI x0, lI x1, lI x2, lI x3, lI x4, lI x5, lI x6, lI x7, lI x8, lI x9, lV vI1, lR b9, lR b53, lU, lU, lU, lU] [(.int x9), vI1, (.ref b101), (.ref b101), (.ref b96), (.ref b96)])) rfl rfl (hb hby at_125)
  have f114 := (B101.wr W109)
  have sf115 : Safe Z consts_1 s.vm h109 b101 := (Safe.exa hZ.alike f114 (by decide) (by decide))
  have R116 := CHr.trans R111 (CHr.wr W113 sf115 R111.1)
  have V113 : Arv Z h113 b101 k101 .char (2 : Int32) [(.int (nar .char x8)), (.int (nar .char x9))] vI0 := Arv.set Arq112 qq112 Sq112 Nq112 Hq112 Gq112 (fits_nar_char _) W113 1 rfl (Nat.le_of_ble_eq_true rfl)
  have N113 := Fr.snoc X113 N109 g108
  have f117 := (((A96.ext E101).wr W109).wr W113)
  have n118 := Nat.ne_of_lt (Nat.lt_of_lt_of_le A96.lt (Nat.le_of_eq g101.symm))
  have f119 := (((f100.ext E101).other W109 (Or.inl n118)).other W113 (Or.inl n118))
  have f120 := (((f99.ext E101).other W109 (Or.inl n118)).other W113 (Or.inl n118))
  have o121 := Old.ext o107 E101
  have o122 := Old.wr o121 W109 g108
  have o123 := Old.wr o122 W113 g108
  have f124 := f33.ext o123.2
  have zz125 : n0 ≤ T86.heap.size := by rw [← o106.1]; exact o106.2.1
  have g126 := Nat.le_trans zz125 (Nat.le_of_eq g96.symm)
  obtain ⟨_, T129, Lc129, X129, hQ129, st129⟩ := own_fin (X113.specialBack hx (y := mN4) rfl hown (mvT hZ (w 5 rfl)) (mvT hZ (w 6 rfl)) (mvT hZ (w 7 rfl)) (by decide) (own_newStr hZ hw (w 2 rfl) (cs := [(nar .char x8), (nar .char x9)]) (n := 2) g126 f117 f119 f120 V113 f124 hc38 rfl rfl (by decide) (by decide) (own_acS hc127 (own_acS hc128 own_ac0)) (own_bsS rfl (own_bsS rfl own_bs0)) (by decide) (by decide : 1 + 65 ≤ _)) (g := (mkF m 126 #[lI x0, lI x1, lI x2, lI x3, lI x4, lI x5, lI x6, lI x7, lI x8, lI x9, lV vI1, lR b9, lR b53, lU, lU, lU, lU] [(.ref b101), (.ref b96), (.ref b96)])) rfl (by rw [hml]; rfl) (Steps.refl _) (a := b96) (argsL := [(.ref b101)]) (rest := [(.ref b96)]) (lenOf pd___C_V rfl) rfl (own_W rfl) (hb hby at_126) (fun _ _ => ⟨rfl, e113, (by decide : 8 + 1 ≤ _), (by decide : 22 + 2 ≤ _)⟩))
  obtain ⟨b129_0, k129_0, rfl, N129q, K129, f130, f131, f132, f133, f134, f135⟩ := hQ129
  have N129 := Fr.app N113 N129q
  have sf136 := (Safe.wr W113 sf115 R111.1 (Safe.wr W109 sf110 R103.1 (Safe.ext E101 R98.1 (Safe.ext E96 R94.1 sf97))))
  have R137 := CHr.trans R116 (CHr.keep K129 (sfS sf136 sf0) R116.1)
  have sf138 : Safe Z consts_1 s.vm h113 b129_0 := Safe.new f132
  obtain ⟨T139, h139, X139, e139, E139, A139, D139, -, st139⟩ := newO X129 hx hZ hown (w 31 rfl) (w 32 rfl) (w 33 rfl) rfl (g := (mkF m 131 #[lI x0, lI x1, lI x2, lI x3, lI x4, lI x5, lI x6, lI x7, lI x8, lI x9, lV vI1, lR b9, lR b53, lR b96, lU, lU, lU] [])) rfl (hb hby at_131) (by decide) (by decide)
  obtain ⟨b139, g139⟩ : ∃ z, z = T129.heap.size := ⟨_, rfl⟩
  have sf140 : Safe Z consts_1 s.vm T129.heap b139 := Safe.new (Nat.le_of_eq g139.symm)
  rw [← g139] at A139 D139 st139
  have R141 := CHr.trans R137 (CHr.ext E139 R137.1)
  have f142 : Fld Z h139 b139 cs1 "modCount" "I" vI0 := D139 (Or.inl (w 51 rfl)) (ty := .int) (by decide)
  have f143 : Fld Z h139 b139 cs2 cs3 cs4 .null := D139 (Or.inl (w 54 rfl)) (ty := (.array (.object cs5))) (by decide)
  have f144 : Fld Z h139 b139 cs2 "size" "I" vI0 := D139 (Or.inl (w 63 rfl)) (ty := .int) (by decide)
  have o146 := Old.keep o123 K129 (allS g126 all0)
  have zz145 : n0 ≤ T129.heap.size := by rw [← o146.1]; exact o146.2.1
  have g147 := Nat.le_trans zz145 (Nat.le_of_eq g139.symm)
  have o149 := Old.ext o146 E139
  obtain ⟨_, T150, Lc150, X150, hQ150, st150⟩ := own_fin (X139.specialBack hx (y := mN2) rfl hown (mvT hZ (w 34 rfl)) (mvT hZ (w 35 rfl)) (mvT hZ (w 36 rfl)) (by decide) (backOf (W := 1) (rm7_1 l Z a0 hw [] b139 r11 h139 n0 o149 A139 f142 g147 f143 f144 f148) hZ (w 36 rfl) (w 33 rfl) (by decide) (by decide)) (g := (mkF m 135 #[lI x0, lI x1, lI x2, lI x3, lI x4, lI x5, lI x6, lI x7, lI x8, lI x9, lV vI1, lR b9, lR b53, lR b96, lU, lU, lU] [(.ref b139), (.ref b139)])) rfl (by rw [hml]; rfl) (Steps.refl _) (a := b139) (argsL := []) (rest := [(.ref b139)]) (lenOf pd___V rfl) rfl (own_W rfl) (hb hby at_135) (fun _ _ => ⟨rfl, e139, (by decide : 10 + 0 ≤ _), (by decide : 27 + 0 ≤ _)⟩))
  obtain ⟨rfl, N150q, K150, f151, f152, f153⟩ := hQ150
  have N150 := Fr.app N129 N150q
  have R154 := CHr.trans R141 (CHr.keep K150 (sfS (Safe.exa hZ.alike A139 (by decide) (by decide)) sf0) R141.1)
  have f155 := (A139.keep K150)
  have zs157 := K150.1
  have f158 := ((((((((f74.keep K86).ext E96).ext E101).wr W109).wr W113).keep K129).ext E139).keep K150)
  have o159 := Old.keep o149 K150 (allS g147 all0)
  obtain ⟨_, T160, Lc160, X160, hQ160, st160⟩ := own_cV X150 hx hZ hown rfl (rm10_1 l Z a0 hw [] b139 b53 r11 c12 T150.heap n0 o159 f151 f155 g147 f152 f153 f156 f148 (Nat.lt_of_lt_of_le A139.lt zs157) f158) f155 (w 55 rfl) (w 56 rfl) (w 58 rfl) (w 57 rfl) (w 59 rfl) (w 33 rfl) (by decide) (W := 0) (by decide) (by decide) (by decide) (by decide) (g := (mkF m 150 #[lI x0, lI x1, lI x2, lI x3, lI x4, lI x5, lI x6, lI x7, lI x8, lI x9, lV vI1, lR b9, lR b53, lR b96, lR b139, lU, lU] [(.ref b53), (.ref b139)])) rfl (by rw [hml]; rfl) (argsL := [(.ref b53)]) (rest := []) (lenOf pd__Ljava_lang_Object__Z rfl) rfl (own_W rfl) (hb hby at_150)
  obtain ⟨b160_0, k160_0, rfl, N160q, K160, f161, f162, f163, f164, f165, f166, f167⟩ := hQ160
  have N160 := Fr.app N150 N160q
  have R168 := CHr.trans R154 (CHr.keep K160 (sfS (Safe.exa hZ.alike f155 (by decide) (by decide)) sf0) R154.1)
  have sf169 : Safe Z consts_1 s.vm T150.heap b160_0 := Safe.new f164
  have o170 := Old.keep o159 K160 (allS g147 all0)
  obtain ⟨_, T171, Lc171, X171, hQ171, st171⟩ := own_cS X160 hx hZ hown rfl (rm15_2 l Z a0 hw [] x4 x5 x6 x7 x8 x9 x10 T160.heap n0 o170 f33 hc38 hc41 hc42 hc84 hc85) (w 86 rfl) (w 87 rfl) (w 88 rfl) (w 89 rfl) (by decide) (W := 0) (by decide) (by decide) (by decide) (by decide) (g := (mkF m 182 #[lI x0, lI x1, lI x2, lI x3, lI x4, lI x5, lI x6, lI x7, lI x8, lI x9, lV vI1, lR b9, lR b53, lR b96, lR b139, lU, lU] [(.int x9), (.int x8), (.int x7), (.int x6), (.int x5), (.int x4), vI1])) rfl (by rw [hml]; rfl) (argsL := [vI1, (.int x4), (.int x5), (.int x6), (.int x7), (.int x8), (.int x9)]) (rest := []) (lenOf pd__ICCCCCC_Ljava_lang_String_ rfl) rfl (own_W rfl) (hb hby at_182)
  obtain ⟨b171_0, b171_1, k171_0, rfl, N171q, K171, f172, f173, f174, f175, f176, f177, f178, f179⟩ := hQ171
  have N171 := Fr.app N160 N171q
  have R180 := CHr.trans R168 (CHr.keep K171 sf0 R168.1)
  have sf181 : Safe Z consts_1 s.vm T160.heap b171_0 := Safe.new f172
  have sf182 : Safe Z consts_1 s.vm T160.heap b171_1 := Safe.new f176
  obtain ⟨T183, h183, X183, e183, E183, A183, D183, -, st183⟩ := newO X171 hx hZ hown (w 90 rfl) (w 91 rfl) (w 92 rfl) rfl (g := (mkF m 187 #[lI x0, lI x1, lI x2, lI x3, lI x4, lI x5, lI x6, lI x7, lI x8, lI x9, lV vI1, lR b9, lR b53, lR b96, lR b139, lR b171_0, lU] [])) rfl (hb hby at_187) (by decide) (by decide)
  obtain ⟨b183, g183⟩ : ∃ z, z = T171.heap.size := ⟨_, rfl⟩
  have sf184 : Safe Z consts_1 s.vm T171.heap b183 := Safe.new (Nat.le_of_eq g183.symm)
  rw [← g183] at A183 D183 st183
  have R185 := CHr.trans R180 (CHr.ext E183 R180.1)
  have f186 : Fld Z h183 b183 cs17 "key" cs18 .null := D183 (Or.inr (w 98 rfl)) (ty := (.object cs8)) (by decide)
  have f187 : Fld Z h183 b183 cs17 cs19 cs20 .null := D183 (Or.inr (w 186 rfl)) (ty := (.object cs11)) (by decide)
  have o189 := Old.keep o170 K171 all0
  have zz188 : n0 ≤ T171.heap.size := by rw [← o189.1]; exact o189.2.1
  have g190 := Nat.le_trans zz188 (Nat.le_of_eq g183.symm)
  have f191 := (((f155.keep K160).keep K171).ext E183)
  have f192 := ((f162.keep K171 nin0).ext E183)
  have zs193 := Nat.le_trans zs157 K160.1
  have zs194 := Nat.le_trans zs193 K171.1
  have n195 := Nat.ne_of_lt (Nat.lt_of_lt_of_le (Nat.lt_of_lt_of_le A139.lt zs194) (Nat.le_of_eq g183.symm))
  have f196 := ((f161.keep K171 nin0).ext E183)
  have f197 := ((f166.keep K171).ext E183)
  have f199 := ((f165.keep K171 nin0).ext E183)
  have zs200 := K171.1
  have n201 := Nat.ne_of_lt (Nat.lt_of_lt_of_le (Nat.lt_of_lt_of_le f165.lt zs200) (Nat.le_of_eq g183.symm))
  have f202 := (((f158.keep K160).keep K171).ext E183)
  have o204 := Old.ext o189 E183
  obtain ⟨_, T205, Lc205, X205, hQ205, st205⟩ := own_fin (X183.specialBack hx (y := mN10) rfl hown (mvT hZ (w 93 rfl)) (mvT hZ (w 94 rfl)) (mvT hZ (w 95 rfl)) (by decide) (backOf (W := 1) (rm16_2 l Z a0 hw [] b183 b9 b139 b160_0 r13 k160_0 b53 r14 h183 n0 o204 A183 f186 g190 f191 f192 n195 f196 f197 f198 f199 n201 f202 f203 f187 A183.lt) hZ (w 95 rfl) (w 92 rfl) (by decide) (by decide)) (g := (mkF m 195 #[lI x0, lI x1, lI x2, lI x3, lI x4, lI x5, lI x6, lI x7, lI x8, lI x9, lV vI1, lR b9, lR b53, lR b96, lR b139, lR b171_0, lU] [(.ref b139), (.ref b9), (.ref b183), (.ref b183)])) rfl (by rw [hml]; rfl) (Steps.refl _) (a := b183) (argsL := [(.ref b9), (.ref b139)]) (rest := [(.ref b183)]) (lenOf pd__Ljava_lang_String_Ljava_util_List__V rfl) rfl (own_W rfl) (hb hby at_195) (fun _ _ => ⟨rfl, e183, (by decide : 15 + 2 ≤ _), (by decide : 135 + 3 ≤ _)⟩))
  obtain ⟨b205_0, rfl, N205q, K205, f206, f207, f208, f209, f210, f211⟩ := hQ205
  have N205 := Fr.app N171 N205q
  have R212 := CHr.trans R185 (CHr.keep K205 (sfS (Safe.exa hZ.alike A183 (by decide) (by decide)) sf0) R185.1)
  have sf213 : Safe Z consts_1 s.vm h183 b205_0 := Safe.new f208
  have zs214 := K205.1
  have f215 := (((((((((((((((((f29.keep K43).ext E53).ext E58).wr W66).wr W70).keep K86).ext E96).ext E101).wr W109).wr W113).keep K129).ext E139).keep K150).keep K160).keep K171).ext E183).keep K205)
  have zs216 := E14.1
  have zs217 := Nat.le_trans zs216 (Nat.le_of_eq W21.size.symm)
  have zs218 := Nat.le_trans zs217 (Nat.le_of_eq W25.size.symm)
  have zs219 := Nat.le_trans zs218 K43.1
  have zs220 := Nat.le_trans zs219 E53.1
  have n221 := Nat.ne_of_lt (Nat.lt_of_lt_of_le (Nat.lt_of_lt_of_le A9.lt zs220) (Nat.le_of_eq g58.symm))
  have n222 := Nat.ne_of_lt (Nat.lt_of_lt_of_le (Nat.lt_of_lt_of_le A9.lt zs219) (Nat.le_of_eq g53.symm))
  have zs223 := Nat.le_trans zs220 E58.1
  have zs224 := Nat.le_trans zs223 (Nat.le_of_eq W66.size.symm)
  have zs225 := Nat.le_trans zs224 (Nat.le_of_eq W70.size.symm)
  have zs226 := Nat.le_trans zs225 K86.1
  have zs227 := Nat.le_trans zs226 E96.1
  have n228 := Nat.ne_of_lt (Nat.lt_of_lt_of_le (Nat.lt_of_lt_of_le A9.lt zs227) (Nat.le_of_eq g101.symm))
  have n229 := Nat.ne_of_lt (Nat.lt_of_lt_of_le (Nat.lt_of_lt_of_le A9.lt zs226) (Nat.le_of_eq g96.symm))
  have zs230 := Nat.le_trans zs227 E101.1
  have zs231 := Nat.le_trans zs230 (Nat.le_of_eq W109.size.symm)
  have zs232 := Nat.le_trans zs231 (Nat.le_of_eq W113.size.symm)
  have zs233 := Nat.le_trans zs232 K129.1
  have n234 := Nat.ne_of_lt (Nat.lt_of_lt_of_le (Nat.lt_of_lt_of_le A9.lt zs233) (Nat.le_of_eq g139.symm))
  have zs235 := Nat.le_trans zs233 E139.1
  have zs236 := Nat.le_trans zs235 K150.1
  have zs237 := Nat.le_trans zs236 K160.1
  have zs238 := Nat.le_trans zs237 K171.1
  have n239 := Nat.ne_of_lt (Nat.lt_of_lt_of_le (Nat.lt_of_lt_of_le A9.lt zs238) (Nat.le_of_eq g183.symm))
  have f240 := ((((((((((((((((f45.ext E53).ext E58).other W66 (Or.inl n221)).other W70 (Or.inl n221)).keep K86 (ninS n222 nin0)).ext E96).ext E101).other W109 (Or.inl n228)).other W113 (Or.inl n228)).keep K129 (ninS n229 nin0)).ext E139).keep K150 (ninS n234 nin0)).keep K160 (ninS n234 nin0)).keep K171 nin0).ext E183).keep K205 (ninS n239 nin0))
  have zs241 := Nat.le_trans zs238 E183.1
  have zs242 := Nat.le_trans zs241 K205.1
  have zs243 := E53.1
  have n244 := Nat.ne_of_lt (Nat.lt_of_lt_of_le (Nat.lt_of_lt_of_le f47.lt zs243) (Nat.le_of_eq g58.symm))
  have n245 := Nat.ne_of_lt (Nat.lt_of_lt_of_le f47.lt (Nat.le_of_eq g53.symm))
  have zs246 := Nat.le_trans zs243 E58.1
  have zs247 := Nat.le_trans zs246 (Nat.le_of_eq W66.size.symm)
  have zs248 := Nat.le_trans zs247 (Nat.le_of_eq W70.size.symm)
  have zs249 := Nat.le_trans zs248 K86.1
  have zs250 := Nat.le_trans zs249 E96.1
  have n251 := Nat.ne_of_lt (Nat.lt_of_lt_of_le (Nat.lt_of_lt_of_le f47.lt zs250) (Nat.le_of_eq g101.symm))
  have n252 := Nat.ne_of_lt (Nat.lt_of_lt_of_le (Nat.lt_of_lt_of_le f47.lt zs249) (Nat.le_of_eq g96.symm))
  have zs253 := Nat.le_trans zs250 E101.1
  have zs254 := Nat.le_trans zs253 (Nat.le_of_eq W109.size.symm)
  have zs255 := Nat.le_trans zs254 (Nat.le_of_eq W113.size.symm)
  have zs256 := Nat.le_trans zs255 K129.1
  have n257 := Nat.ne_of_lt (Nat.lt_of_lt_of_le (Nat.lt_of_lt_of_le f47.lt zs256) (Nat.le_of_eq g139.symm))
  have zs258 := Nat.le_trans zs256 E139.1
  have zs259 := Nat.le_trans zs258 K150.1
  have zs260 := Nat.le_trans zs259 K160.1
  have zs261 := Nat.le_trans zs260 K171.1
  have n262 := Nat.ne_of_lt (Nat.lt_of_lt_of_le (Nat.lt_of_lt_of_le f47.lt zs261) (Nat.le_of_eq g183.symm))
  have f263 := ((((((((((((((((f47.ext E53).ext E58).other W66 n244).other W70 n244).keep K86 (ninS n245 nin0)).ext E96).ext E101).other W109 n251).other W113 n251).keep K129 (ninS n252 nin0)).ext E139).keep K150 (ninS n257 nin0)).keep K160 (ninS n257 nin0)).keep K171 nin0).ext E183).keep K205 (ninS n262 nin0))
  have zs264 := Nat.le_trans zs261 E183.1
  have zs265 := Nat.le_trans zs264 K205.1
  have f266 := ((((((((((((((((f44.ext E53).ext E58).other W66 (Or.inl n221)).other W70 (Or.inl n221)).keep K86 (ninS n222 nin0)).ext E96).ext E101).other W109 (Or.inl n228)).other W113 (Or.inl n228)).keep K129 (ninS n229 nin0)).ext E139).keep K150 (ninS n234 nin0)).keep K160 (ninS n234 nin0)).keep K171 nin0).ext E183).keep K205 (ninS n239 nin0))
  have zs267 := E58.1
  have zs268 := Nat.le_trans zs267 (Nat.le_of_eq W66.size.symm)
  have zs269 := Nat.le_trans zs268 (Nat.le_of_eq W70.size.symm)
  have zs270 := Nat.le_trans zs269 K86.1
  have zs271 := Nat.le_trans zs270 E96.1
  have zs272 := Nat.le_trans zs271 E101.1
  have zs273 := Nat.le_trans zs272 (Nat.le_of_eq W109.size.symm)
  have zs274 := Nat.le_trans zs273 (Nat.le_of_eq W113.size.symm)
  have zs275 := Nat.le_trans zs274 K129.1
  have zs276 := Nat.le_trans zs275 E139.1
  have zs277 := Nat.le_trans zs276 K150.1
  have zs278 := Nat.le_trans zs277 K160.1
  have zs279 := Nat.le_trans zs278 K171.1
  have zs280 := Nat.le_trans zs279 E183.1
  have n281 := Nat.ne_of_lt (Nat.lt_of_lt_of_le (Nat.lt_of_lt_of_le A53.lt zs280) f208)
  have f282 := (f202.keep K205)
  have n283 := Nat.ne_of_lt (Nat.lt_of_lt_of_le (Nat.lt_of_lt_of_le A53.lt zs271) (Nat.le_of_eq g101.symm))
  have n284 := Nat.ne_of_lt (Nat.lt_of_lt_of_le (Nat.lt_of_lt_of_le A53.lt zs270) (Nat.le_of_eq g96.symm))
  have n285 := Nat.ne_of_lt (Nat.lt_of_lt_of_le (Nat.lt_of_lt_of_le A53.lt zs275) (Nat.le_of_eq g139.symm))
  have n286 := Nat.ne_of_lt (Nat.lt_of_lt_of_le (Nat.lt_of_lt_of_le A53.lt zs279) (Nat.le_of_eq g183.symm))
  have f287 := (((((((((((f88.ext E96).ext E101).other W109 (Or.inl n283)).other W113 (Or.inl n283)).keep K129 (ninS n284 nin0)).ext E139).keep K150 (ninS n285 nin0)).keep K160 (ninS n285 nin0)).keep K171 nin0).ext E183).keep K205 (ninS n286 nin0))
  have zs288 := Nat.le_trans zs280 K205.1
  have zs289 := E96.1
  have n290 := Nat.ne_of_lt (Nat.lt_of_lt_of_le (Nat.lt_of_lt_of_le f90.lt zs289) (Nat.le_of_eq g101.symm))
  have n291 := Nat.ne_of_lt (Nat.lt_of_lt_of_le f90.lt (Nat.le_of_eq g96.symm))
  have zs292 := Nat.le_trans zs289 E101.1
  have zs293 := Nat.le_trans zs292 (Nat.le_of_eq W109.size.symm)
  have zs294 := Nat.le_trans zs293 (Nat.le_of_eq W113.size.symm)
  have zs295 := Nat.le_trans zs294 K129.1
  have n296 := Nat.ne_of_lt (Nat.lt_of_lt_of_le (Nat.lt_of_lt_of_le f90.lt zs295) (Nat.le_of_eq g139.symm))
  have zs297 := Nat.le_trans zs295 E139.1
  have zs298 := Nat.le_trans zs297 K150.1
  have zs299 := Nat.le_trans zs298 K160.1
  have zs300 := Nat.le_trans zs299 K171.1
  have n301 := Nat.ne_of_lt (Nat.lt_of_lt_of_le (Nat.lt_of_lt_of_le f90.lt zs300) (Nat.le_of_eq g183.symm))
  have f302 := (((((((((((f90.ext E96).ext E101).other W109 n290).other W113 n290).keep K129 (ninS n291 nin0)).ext E139).keep K150 (ninS n296 nin0)).keep K160 (ninS n296 nin0)).keep K171 nin0).ext E183).keep K205 (ninS n301 nin0))
  have zs303 := Nat.le_trans zs300 E183.1
  have zs304 := Nat.le_trans zs303 K205.1
  have f305 := (((((((((((f87.ext E96).ext E101).other W109 (Or.inl n283)).other W113 (Or.inl n283)).keep K129 (ninS n284 nin0)).ext E139).keep K150 (ninS n285 nin0)).keep K160 (ninS n285 nin0)).keep K171 nin0).ext E183).keep K205 (ninS n286 nin0))
  have o306 := Old.keep o204 K205 (allS g190 all0)
  have f308 := (A183.keep K205)
  obtain ⟨cqq309, kqq309, qq309a, qq309b, qq309c⟩ := isOf hZ rfl f308
  obtain ⟨_, _, ⟨T307, L307, k307, n307⟩, -, X307, hs307, hg307, ⟨Lc307, hQ307, l307, y307, z307, cr307⟩, st307⟩ := X205.virtualBackS hx (y := mN47) (z := mN47) hown (mvT hZ (w 187 rfl)) (mvT hZ (w 188 rfl)) (notFace_of_selects (args := #[]) (mvT hZ (w 190 rfl))) (mvT hZ (w 190 rfl)) (mvT hZ (w 189 rfl)) (by decide) (backOfSH (s := s) (vm0 := s.vm) (W := 1) (rm29_2 l Z a0 hw [] b183 x10 b9 b43_0 k43_0 ((nar .char x4).toInt8.toInt32) ((nar .char x5).toInt8.toInt32) b205_0 r14 b53 b86_0 k86_0 ((nar .char x6).toInt8.toInt32) ((nar .char x7).toInt8.toInt32) T205.heap n0 o306 f33 hc38 f206 (Nat.lt_of_lt_of_le A183.lt zs214) f215 f240 (Nat.lt_of_lt_of_le A9.lt zs242) f263 (Nat.lt_of_lt_of_le f47.lt zs265) f266 f207 f209 f211 f209.lt f203 f210 n281 f282 f287 (Nat.lt_of_lt_of_le A53.lt zs288) f302 (Nat.lt_of_lt_of_le f90.lt zs304) f305) hZ (w 191 rfl) (w 92 rfl) (by decide) (by decide) hEL R212.1) qq309a qq309c (g := (mkF m 204 #[lI x0, lI x1, lI x2, lI x3, lI x4, lI x5, lI x6, lI x7, lI x8, lI x9, lV vI1, lR b9, lR b53, lR b96, lR b139, lR b171_0, lR b183] [(.ref b183), (.ref b171_0)])) rfl (by rw [hml]; rfl) (Steps.refl _) (argsL := []) (rest := [(.ref b171_0)]) (lenOf pd___Ljava_lang_String_ rfl) rfl (own_W rfl) (hb hby at_204) (fun _ _ => ⟨rfl, rfl, (by decide : 17 + 17 ≤ _), (by decide : 138 + 456 ≤ _)⟩)
  dsimp only [Pt.U, Pt.locs, Pt.cells, Pt.slots] at X307 l307 y307 z307 st307 hQ307 hs307 hg307 cr307
  subst l307 y307 z307
  obtain ⟨X307, hS307, hZ307, ho307⟩ := rebS (s := s) (vm0 := s.vm) hS1 ((Nat.zero_le _)) X307 hs307 hg307 hZ hown
  obtain ⟨b307_0, b307_1, k307_0, rfl, N307q, K307, f310, f311, f312, f313, f314, f315, f316, f317⟩ := hQ307
  have N307 := Fr.app N205 N307q
  have R318 := CHr.trans R212 cr307
  have n319 := Nat.ne_of_lt (Nat.lt_of_lt_of_le f173.lt (Nat.le_of_eq g183.symm))
  have f320 := (((f174.ext E183).keep K205 (ninS n319 nin0)).keep K307 nin0)
  have f321 := (((f175.ext E183).keep K205 (ninS n319 nin0)).keep K307 nin0)
  have n322 := Nat.ne_of_lt (Nat.lt_of_lt_of_le f177.lt (Nat.le_of_eq g183.symm))
  have f323 := (((f177.ext E183).keep K205 (ninS n322 nin0)).keep K307 nin0)
  have f324 := (((f173.ext E183).keep K205).keep K307)
  have o325 := Old.keep o306 K307 all0
  have f326 := f33.ext o325.2
  obtain ⟨cqq328, kqq328, qq328a, qq328b, qq328c⟩ := isOf hZ307 rfl f324
  obtain ⟨_, T327, Lc327, X327, hQ327, st327⟩ := own_fin (X307.virtualBack hx (y := mN48) (z := mN48) ho307 (mvT hZ307 (w 403 rfl)) (mvT hZ307 (w 404 rfl)) (notFace_of_selects (args := #[]) (mvT hZ307 (w 406 rfl))) (mvT hZ307 (w 406 rfl)) (mvT hZ307 (w 405 rfl)) (by decide) (own_strEq hZ307 hw (w 2 rfl) (bs := [(73 : Int32), (110 : Int32), (116 : Int32), (101 : Int32), (114 : Int32), (110 : Int32), (97 : Int32), (108 : Int32), (67 : Int32), (97 : Int32), (108 : Int32), (108 : Int32), (68 : Int32), (101 : Int32), (116 : Int32), (97 : Int32), (105 : Int32), (108 : Int32), (115 : Int32), (32 : Int32), (91 : Int32), (107 : Int32), (101 : Int32), (121 : Int32), (61 : Int32), ((nar .char x4).toInt8.toInt32), ((nar .char x5).toInt8.toInt32), (44 : Int32), (32 : Int32), (97 : Int32), (117 : Int32), (116 : Int32), (104 : Int32), (111 : Int32), (114 : Int32), (105 : Int32), (116 : Int32), (105 : Int32), (101 : Int32), (115 : Int32), (61 : Int32), (91 : Int32), ((nar .char x6).toInt8.toInt32), ((nar .char x7).toInt8.toInt32), (93 : Int32), (93 : Int32)]) f324 f321 f320 f323 (own_ofLen (n := 46) (by decide) rfl) (Nat.le_of_ble_eq_true rfl) (ds := [(73 : Int32), (110 : Int32), (116 : Int32), (101 : Int32), (114 : Int32), (110 : Int32), (97 : Int32), (108 : Int32), (67 : Int32), (97 : Int32), (108 : Int32), (108 : Int32), (68 : Int32), (101 : Int32), (116 : Int32), (97 : Int32), (105 : Int32), (108 : Int32), (115 : Int32), (32 : Int32), (91 : Int32), (107 : Int32), (101 : Int32), (121 : Int32), (61 : Int32), ((nar .char x4).toInt8.toInt32), ((nar .char x5).toInt8.toInt32), (44 : Int32), (32 : Int32), (97 : Int32), (117 : Int32), (116 : Int32), (104 : Int32), (111 : Int32), (114 : Int32), (105 : Int32), (116 : Int32), (105 : Int32), (101 : Int32), (115 : Int32), (61 : Int32), (91 : Int32), ((nar .char x6).toInt8.toInt32), ((nar .char x7).toInt8.toInt32), (93 : Int32), (93 : Int32)]) f311 f313 f312 f315 (own_ofLen (n := 46) (by decide) rfl) (Nat.le_of_ble_eq_true rfl) f326 hc38 (r := 1) (n0 := n0) (Or.inl ⟨rfl, rfl⟩) (by decide) (by decide : 0 + 28 ≤ _)) qq328a qq328c (g := (mkF m 207 #[lI x0, lI x1, lI x2, lI x3, lI x4, lI x5, lI x6, lI x7, lI x8, lI x9, lV vI1, lR b9, lR b53, lR b96, lR b139, lR b171_0, lR b183] [(.ref b307_0), (.ref b171_0)])) rfl (by rw [hml]; rfl) (Steps.refl _) (argsL := [(.ref b307_0)]) (rest := []) (lenOf pd__Ljava_lang_Object__Z rfl) rfl (own_W rfl) (hb hby at_207) (fun _ _ => ⟨rfl, rfl, (by decide : 34 + 0 ≤ _), (by decide : 594 + 0 ≤ _)⟩))
  obtain ⟨rfl, N327q, E327⟩ := hQ327
  have N327 := Fr.app N307 N327q
  refine ⟨some vI1, _, _, _, _, _, _, _, nofun, X327, by decide, by decide, hS307, (by rw [E327]; exact (Nat.le_refl _)), hZ307, E327, R318, ?_, fun fs hr => ?_⟩
  · rw [E327]; exact ⟨rfl, N327⟩
  · show SG p e below s₁ (mkF m 0 #[lI x0, lI x1, lI x2, lI x3, lU, lU, lU, lU, lU, lU, lU, lU, lU, lU, lU, lU, lU] []) _
    refine qiN X0 hx hby at_0 ?_
    refine XS.sipush X0.here hx rfl (hb hby at_1) ?_
    refine XS.iand X0.here hx rfl (hb hby at_4) rfl ?_
    refine XS.i2c X0.here hx rfl (hb hby at_5) rfl ?_
    show SG p e below s₁ (mkF m 6 #[lI x0, lI x1, lI x2, lI x3, lU, lU, lU, lU, lU, lU, lU, lU, lU, lU, lU, lU, lU] [(.int ((x0 &&& (255 : Int32)).toUInt32.toUInt16.toUInt32.toInt32))]) _
    rw [hq2]
    refine XS.istore X0.here hx rfl (hb hby at_6) rfl (l' := #[lI x0, lI x1, lI x2, lI x3, lI x4, lU, lU, lU, lU, lU, lU, lU, lU, lU, lU, lU, lU]) rfl ?_
    refine qiN X0 hx hby at_8 ?_
    refine qb X0 hx hby at_9 ?_
    refine XS.iushr X0.here hx rfl (hb hby at_11) rfl ?_
    refine XS.sipush X0.here hx rfl (hb hby at_12) ?_
    refine XS.iand X0.here hx rfl (hb hby at_15) rfl ?_
    refine XS.i2c X0.here hx rfl (hb hby at_16) rfl ?_
    show SG p e below s₁ (mkF m 17 #[lI x0, lI x1, lI x2, lI x3, lI x4, lU, lU, lU, lU, lU, lU, lU, lU, lU, lU, lU, lU] [(.int ((((x0.toUInt32 >>> ((8 : Int32) &&& 31).toUInt32).toInt32) &&& (255 : Int32)).toUInt32.toUInt16.toUInt32.toInt32))]) _
    rw [hq3]
    refine XS.istore X0.here hx rfl (hb hby at_17) rfl (l' := #[lI x0, lI x1, lI x2, lI x3, lI x4, lI x5, lU, lU, lU, lU, lU, lU, lU, lU, lU, lU, lU]) rfl ?_
    refine qiN X0 hx hby at_19 ?_
    refine XS.sipush X0.here hx rfl (hb hby at_20) ?_
    refine XS.iand X0.here hx rfl (hb hby at_23) rfl ?_
    refine XS.i2c X0.here hx rfl (hb hby at_24) rfl ?_
    show SG p e below s₁ (mkF m 25 #[lI x0, lI x1, lI x2, lI x3, lI x4, lI x5, lU, lU, lU, lU, lU, lU, lU, lU, lU, lU, lU] [(.int ((x1 &&& (255 : Int32)).toUInt32.toUInt16.toUInt32.toInt32))]) _
    rw [hq4]
    refine XS.istore X0.here hx rfl (hb hby at_25) rfl (l' := #[lI x0, lI x1, lI x2, lI x3, lI x4, lI x5, lI x6, lU, lU, lU, lU, lU, lU, lU, lU, lU, lU]) rfl ?_
    refine qiN X0 hx hby at_27 ?_
    refine qb X0 hx hby at_28 ?_
    refine XS.iushr X0.here hx rfl (hb hby at_30) rfl ?_
    refine XS.sipush X0.here hx rfl (hb hby at_31) ?_
    refine XS.iand X0.here hx rfl (hb hby at_34) rfl ?_
    refine XS.i2c X0.here hx rfl (hb hby at_35) rfl ?_
    show SG p e below s₁ (mkF m 36 #[lI x0, lI x1, lI x2, lI x3, lI x4, lI x5, lI x6, lU, lU, lU, lU, lU, lU, lU, lU, lU, lU] [(.int ((((x1.toUInt32 >>> ((8 : Int32) &&& 31).toUInt32).toInt32) &&& (255 : Int32)).toUInt32.toUInt16.toUInt32.toInt32))]) _
    rw [hq5]
    refine XS.istore X0.here hx rfl (hb hby at_36) rfl (l' := #[lI x0, lI x1, lI x2, lI x3, lI x4, lI x5, lI x6, lI x7, lU, lU, lU, lU, lU, lU, lU, lU, lU]) rfl ?_
    refine qiN X0 hx hby at_38 ?_
    show SG p e below s₁ (mkF m 39 #[lI x0, lI x1, lI x2, lI x3, lI x4, lI x5, lI x6, lI x7, lU, lU, lU, lU, lU, lU, lU, lU, lU] [(.int x2)]) _
    refine XS.sipush X0.here hx rfl (hb hby at_39) ?_
    refine XS.iand X0.here hx rfl (hb hby at_42) rfl ?_
    refine XS.i2c X0.here hx rfl (hb hby at_43) rfl ?_
    show SG p e below s₁ (mkF m 44 #[lI x0, lI x1, lI x2, lI x3, lI x4, lI x5, lI x6, lI x7, lU, lU, lU, lU, lU, lU, lU, lU, lU] [(.int ((x2 &&& (255 : Int32)).toUInt32.toUInt16.toUInt32.toInt32))]) _
    rw [hq6]
    refine XS.istore X0.here hx rfl (hb hby at_44) rfl (l' := #[lI x0, lI x1, lI x2, lI x3, lI x4, lI x5, lI x6, lI x7, lI x8, lU, lU, lU, lU, lU, lU, lU, lU]) rfl ?_
    refine qiN X0 hx hby at_46 ?_
    refine qb X0 hx hby at_47 ?_
    refine XS.iushr X0.here hx rfl (hb hby at_49) rfl ?_
    refine XS.sipush X0.here hx rfl (hb hby at_50) ?_
    refine XS.iand X0.here hx rfl (hb hby at_53) rfl ?_
    refine XS.i2c X0.here hx rfl (hb hby at_54) rfl ?_
    show SG p e below s₁ (mkF m 55 #[lI x0, lI x1, lI x2, lI x3, lI x4, lI x5, lI x6, lI x7, lI x8, lU, lU, lU, lU, lU, lU, lU, lU] [(.int ((((x2.toUInt32 >>> ((8 : Int32) &&& 31).toUInt32).toInt32) &&& (255 : Int32)).toUInt32.toUInt16.toUInt32.toInt32))]) _
    rw [hq7]
    refine XS.istore X0.here hx rfl (hb hby at_55) rfl (l' := #[lI x0, lI x1, lI x2, lI x3, lI x4, lI x5, lI x6, lI x7, lI x8, lI x9, lU, lU, lU, lU, lU, lU, lU]) rfl ?_
    refine qiN X0 hx hby at_57 ?_
    refine X0.ldcInt hx hown (mvT hZ (w 0 rfl)) (g := (mkF m 58 #[lI x0, lI x1, lI x2, lI x3, lI x4, lI x5, lI x6, lI x7, lI x8, lI x9, lU, lU, lU, lU, lU, lU, lU] [(.int x3)])) rfl (hb hby at_58) _ ?_
    refine XS.iand X0.here hx rfl (hb hby at_60) rfl ?_
    refine qc X0 hx hby at_61 ?_
    refine iremM (g := (mkF m 62 #[lI x0, lI x1, lI x2, lI x3, lI x4, lI x5, lI x6, lI x7, lI x8, lI x9, lU, lU, lU, lU, lU, lU, lU] [vI3, (.int (x3 &&& (2147483647 : Int32)))])) X0 hx rfl (hb hby at_62) rfl (by decide : ¬ ((3 : Int32) = (0 : Int32))) ?_
    show SG p e below s₁ (mkF m 63 #[lI x0, lI x1, lI x2, lI x3, lI x4, lI x5, lI x6, lI x7, lI x8, lI x9, lU, lU, lU, lU, lU, lU, lU] [(.int ((x3 &&& (2147483647 : Int32)) % (3 : Int32)))]) _
    rw [hc8]
    refine XS.istore X0.here hx rfl (hb hby at_63) rfl (l' := #[lI x0, lI x1, lI x2, lI x3, lI x4, lI x5, lI x6, lI x7, lI x8, lI x9, lV vI1, lU, lU, lU, lU, lU, lU]) rfl ?_
    refine st9 _ ?_
    refine qd X9 hx hby at_68 ?_
    refine qc X9 hx hby at_69 ?_
    refine st14 _ ?_
    refine qd X14 hx hby at_72 ?_
    refine qc X14 hx hby at_73 ?_
    refine qi X14 hx hby at_74 ?_
    refine st21 _ ?_
    show SG p e below T21 (mkF m 77 #[lI x0, lI x1, lI x2, lI x3, lI x4, lI x5, lI x6, lI x7, lI x8, lI x9, lV vI1, lU, lU, lU, lU, lU, lU] [(.ref b14), (.ref b9), (.ref b9)]) _
    refine qd X21 hx hby at_77 ?_
    refine qc X21 hx hby at_78 ?_
    refine qi X21 hx hby at_79 ?_
    refine st25 _ ?_
    refine st43.trans ?_
    refine XS.astore X43.here hx rfl (hb hby at_85) rfl rfl (l' := #[lI x0, lI x1, lI x2, lI x3, lI x4, lI x5, lI x6, lI x7, lI x8, lI x9, lV vI1, lR b9, lU, lU, lU, lU, lU]) rfl ?_
    refine st53 _ ?_
    refine qd X53 hx hby at_90 ?_
    refine qc X53 hx hby at_91 ?_
    refine st58 _ ?_
    refine qd X58 hx hby at_94 ?_
    refine qc X58 hx hby at_95 ?_
    refine qi X58 hx hby at_96 ?_
    refine st66 _ ?_
    refine qd X66 hx hby at_99 ?_
    refine qc X66 hx hby at_100 ?_
    refine qi X66 hx hby at_101 ?_
    refine st70 _ ?_
    refine st86.trans ?_
    refine XS.astore X86.here hx rfl (hb hby at_107) rfl rfl (l' := #[lI x0, lI x1, lI x2, lI x3, lI x4, lI x5, lI x6, lI x7, lI x8, lI x9, lV vI1, lR b9, lR b53, lU, lU, lU, lU]) rfl ?_
    refine st96 _ ?_
    refine qd X96 hx hby at_112 ?_
    refine qc X96 hx hby at_113 ?_
    refine st101 _ ?_
    refine qd X101 hx hby at_116 ?_
    show SG p e below T101 (mkF m 117 #[lI x0, lI x1, lI x2, lI x3, lI x4, lI x5, lI x6, lI x7, lI x8, lI x9, lV vI1, lR b9, lR b53, lU, lU, lU, lU] [(.ref b101), (.ref b101), (.ref b96), (.ref b96)]) _
    refine qc X101 hx hby at_117 ?_
    refine qi X101 hx hby at_118 ?_
    refine st109 _ ?_
    refine qd X109 hx hby at_121 ?_
    refine qc X109 hx hby at_122 ?_
    refine qi X109 hx hby at_123 ?_
    refine st113 _ ?_
    refine st129.trans ?_
    refine XS.astore X129.here hx rfl (hb hby at_129) rfl rfl (l' := #[lI x0, lI x1, lI x2, lI x3, lI x4, lI x5, lI x6, lI x7, lI x8, lI x9, lV vI1, lR b9, lR b53, lR b96, lU, lU, lU]) rfl ?_
    refine st139 _ ?_
    refine qd X139 hx hby at_134 ?_
    refine st150.trans ?_
    refine XS.astore X150.here hx rfl (hb hby at_138) rfl rfl (l' := #[lI x0, lI x1, lI x2, lI x3, lI x4, lI x5, lI x6, lI x7, lI x8, lI x9, lV vI1, lR b9, lR b53, lR b96, lR b139, lU, lU]) rfl ?_
    refine qi X150 hx hby at_140 ?_
    refine qc X150 hx hby at_142 ?_
    refine XS.icmpNo X150.here hx rfl (hb hby at_143) rfl (flt (by decide : ¬ ((1 : Int32) < (1 : Int32)))).1 ?_
    refine qa X150 hx hby at_146 ?_
    refine qa X150 hx hby at_148 ?_
    refine st160 _ ?_
    refine XS.pop X160.here hx rfl (hb hby at_153) rfl rfl ?_
    refine qi X160 hx hby at_154 ?_
    refine qc X160 hx hby at_156 ?_
    refine XS.icmpYes X160.here hx rfl (pc0 := 157) (pc' := 168) rfl (hb hby at_157) rfl (tlt (by decide : (1 : Int32) < (2 : Int32))).1 (by decide) (by decide) ?_
    refine qi X160 hx hby at_168 ?_
    refine qi X160 hx hby at_170 ?_
    show SG p e below T160 (mkF m 172 #[lI x0, lI x1, lI x2, lI x3, lI x4, lI x5, lI x6, lI x7, lI x8, lI x9, lV vI1, lR b9, lR b53, lR b96, lR b139, lU, lU] [(.int x4), vI1]) _
    refine qi X160 hx hby at_172 ?_
    refine qi X160 hx hby at_174 ?_
    refine qi X160 hx hby at_176 ?_
    refine qi X160 hx hby at_178 ?_
    refine qi X160 hx hby at_180 ?_
    refine st171 _ ?_
    refine XS.astore X171.here hx rfl (hb hby at_185) rfl rfl (l' := #[lI x0, lI x1, lI x2, lI x3, lI x4, lI x5, lI x6, lI x7, lI x8, lI x9, lV vI1, lR b9, lR b53, lR b96, lR b139, lR b171_0, lU]) rfl ?_
    refine st183 _ ?_
    refine qd X183 hx hby at_190 ?_
    refine qa X183 hx hby at_191 ?_
    refine qa X183 hx hby at_193 ?_
    refine st205.trans ?_
    refine XS.astore X205.here hx rfl (hb hby at_198) rfl rfl (l' := #[lI x0, lI x1, lI x2, lI x3, lI x4, lI x5, lI x6, lI x7, lI x8, lI x9, lV vI1, lR b9, lR b53, lR b96, lR b139, lR b171_0, lR b183]) rfl ?_
    refine qa X205 hx hby at_200 ?_
    refine qa X205 hx hby at_202 ?_
    refine st307.trans ?_
    refine st327.trans ?_
    exact retN X327 hx (t := .boolean) hret (by simp) (hb hby at_210) hr
def Q11_2 (Z : State) (r0 r1 r2 : Addr) (c3 : ClassId) (r4 : Addr) (h0 : Heap) (n0 : Nat) (v : Option Value) (h : Heap) (L : List Loc) : Prop := v = none ∧ Fr n0 L ∧ Keep h0 h [r2, r0] ∧ Arv Z h r2 c3 (.object cs5) (10 : Int32) [(.ref r4), (.ref r1), .null, .null, .null, .null, .null, .null, .null, .null] .null ∧ Fld Z h r0 cs2 "size" "I" vI2 ∧ Fld Z h r0 cs1 "modCount" "I" vI2 ∧ Fld Z h r0 cs2 cs3 cs4 (.ref r2)
theorem rm11_2 (l : Launch) (Z : State) (a0 : Array Value) (hw : own_HW a0 Z) (ws : List Jvm.Cond) (r0 r1 r2 : Addr) (c3 : ClassId) (r4 : Addr) (h0 : Heap) (n0 : Nat) (O0 : Old Z n0 h0) (f1 : Arv Z h0 r2 c3 (.object cs5) (10 : Int32) [(.ref r4), .null, .null, .null, .null, .null, .null, .null, .null, .null] .null) (f4 : Ovr Z c3 cs5) (f5 : Exa Z h0 r1 cs8) (g6 : n0 ≤ r2) (f8 : Exa Z h0 r0 cs2) (f10 : Fld Z h0 r0 cs2 "size" "I" vI1) (n11 : r0 ≠ r2) (g13 : n0 ≤ r0) (f15 : Fld Z h0 r0 cs1 "modCount" "I" vI2) (f17 : Fld Z h0 r0 cs2 cs3 cs4 (.ref r2)) :
    own_MF l mN51 jdk_38_method_24_code 4 none ws rR0_0_0_0 Z h0 #[(.ref r0), (.ref r1), (.ref r2), vI1] (Q11_2 Z r0 r1 r2 c3 r4 h0 n0) := by
  refine own_open (plainFor_of_name pn_java_util_ArrayList) (L0 := #[lR r0, lR r1, lR r2, lV vI1]) (fun _ => by first | (simp [entryFrame, mkF, argsToLocals, Value.category]; done) | rfl) ?_
  intro p e s m below meth c s₁ hx hby hml hret hnn hZ hown X0 e0
  have N0 := Fr.nil n0; have w := @ww Z a0 hw
  obtain ⟨clq2, Arq2, qq2, Sq2, Nq2, Hq2, Gq2⟩ := id f1
  obtain ⟨clq3, Arq3, qq3, Sq3, Nq3, Hq3, Gq3⟩ := id f1
  obtain ⟨T7, h7, X7, e7, W7, st7⟩ := stR X0 hx hZ e0 Arq3 (j := (1 : Int32)) (inb_of Sq3 ⟨(by decide : ¬ ((1 : Int32) < (0 : Int32))), (by decide : (1 : Int32) < (10 : Int32))⟩) rfl (Sto.ofV Arq3 qq3 f4 (Ins.of_exa f5 (w 85 rfl))) (g := (mkF m 14 #[lR r0, lR r1, lR r2, lV vI1] [(.ref r1), vI1, (.ref r2)])) rfl rfl (hb hby d11_14)
  have V7 : Arv Z h7 r2 c3 (.object cs5) (10 : Int32) [(.ref r4), (.ref r1), .null, .null, .null, .null, .null, .null, .null, .null] .null := Arv.set Arq3 qq3 Sq3 Nq3 Hq3 Gq3 rfl W7 1 rfl (Nat.le_of_ble_eq_true rfl)
  have N7 := Fr.snoc X7 N0 g6
  have f9 := (f8.wr W7)
  have f12 := (f10.other W7 (Or.inl n11))
  obtain ⟨T14, h14, X14, e14, W14, st14⟩ := putF X7 hx hZ hown (host := "") (Or.inl (w 62 rfl)) Via.refl e7 f12 f9 (Or.inl (w 63 rfl)) (w 32 rfl) (ty := .int) (by decide) rfl rfl (g := (mkF m 19 #[lR r0, lR r1, lR r2, lV vI1] [vI2, (.ref r0)])) rfl rfl (hb hby d11_19)
  have Fw14 := f12.same W14
  have N14 := Fr.snoc X14 N7 g13
  have f16 := ((f15.other W7 (Or.inl n11)).other W14 (Or.inr (slot_ne (Or.inl (w 51 rfl)) (Or.inl (w 63 rfl)) (by decide) (t := .int) (t' := .int) (by decide) (by decide))))
  have f18 := ((f17.other W7 (Or.inl n11)).other W14 (Or.inr (slot_ne (Or.inl (w 54 rfl)) (Or.inl (w 63 rfl)) (by decide) (t := (.array (.object cs5))) (t' := .int) (by decide) (by decide))))
  have f19 := (V7.other W14 (Ne.symm n11))
  have kp20 : Keep h0 h7 [r2, r0] := (Keep.refl h0 [r2, r0]).wr W7 (Or.inl (List.mem_of_getElem? (i := 0) rfl))
  have kp21 : Keep h0 h14 [r2, r0] := kp20.wr W14 (Or.inl (List.mem_of_getElem? (i := 1) rfl))
  refine ⟨none, _, _, _, _, (fun _ => rfl), X14, by decide, by decide, ?_, fun fs hr => ?_⟩
  · rw [e14]; exact ⟨rfl, N14, kp21, f19, Fw14, f16, f18⟩
  · show SG p e below s₁ (mkF m 0 #[lR r0, lR r1, lR r2, lV vI1] []) _
    refine qiN X0 hx hby d11_0 ?_
    refine qaN X0 hx hby d11_1 ?_
    refine X0.arraylength hx (by rw [e0]; exact Arq2.1) (State.isArrayOf_alike hZ.alike Arq2.2.1) (g := (mkF m 2 #[lR r0, lR r1, lR r2, lV vI1] [(.ref r2), vI1])) rfl rfl (hb hby d11_2) _ ?_
    rw [len_of Sq2 Nq2]
    refine XS.icmpYes X0.here hx rfl (pc0 := 3) (pc' := 11) rfl (hb hby d11_3) rfl (feq (by decide : ¬ ((1 : Int32) = (10 : Int32)))).2 (by decide) (by decide) ?_
    refine qaN X0 hx hby d11_11 ?_
    refine qiN X0 hx hby d11_12 ?_
    refine qaN X0 hx hby d11_13 ?_
    refine st7 _ ?_
    refine qaN X7 hx hby d11_15 ?_
    refine qiN X7 hx hby d11_16 ?_
    refine qc X7 hx hby d11_17 ?_
    refine XS.iadd X7.here hx rfl (hb hby d11_18) rfl ?_
    refine st14 _ ?_
    exact X14.returnOut hx hret (hb hby d11_22) hr
def Q10_2 (Z : State) (r0 r1 r2 : Addr) (c3 : ClassId) (r4 : Addr) (h0 : Heap) (n0 : Nat) (v : Option Value) (h : Heap) (L : List Loc) : Prop := v = some vI1 ∧ Fr n0 L ∧ Keep h0 h [r0, r2] ∧ Fld Z h r0 cs2 "size" "I" vI2 ∧ Fld Z h r0 cs1 "modCount" "I" vI2 ∧ Fld Z h r0 cs2 cs3 cs4 (.ref r2) ∧ Arv Z h r2 c3 (.object cs5) (10 : Int32) [(.ref r4), (.ref r1), .null, .null, .null, .null, .null, .null, .null, .null] .null
theorem rm10_2 (l : Launch) (Z : State) (a0 : Array Value) (hw : own_HW a0 Z) (ws : List Jvm.Cond) (r0 r1 r2 : Addr) (c3 : ClassId) (r4 : Addr) (h0 : Heap) (n0 : Nat) (O0 : Old Z n0 h0) (f1 : Fld Z h0 r0 cs1 "modCount" "I" vI1) (f3 : Exa Z h0 r0 cs2) (g4 : n0 ≤ r0) (f6 : Fld Z h0 r0 cs2 cs3 cs4 (.ref r2)) (f9 : Fld Z h0 r0 cs2 "size" "I" vI1) (f12 : Arv Z h0 r2 c3 (.object cs5) (10 : Int32) [(.ref r4), .null, .null, .null, .null, .null, .null, .null, .null, .null] .null) (n13 : r2 ≠ r0) (f15 : Ovr Z c3 cs5) (f16 : Exa Z h0 r1 cs8) (g18 : n0 ≤ r2) :
    own_MF l mN52 jdk_38_method_25_code 2 (some .boolean) ws rR1_0_0_15 Z h0 #[(.ref r0), (.ref r1)] (Q10_2 Z r0 r1 r2 c3 r4 h0 n0) := by
  refine own_open (plainFor_of_name pn_java_util_ArrayList) (L0 := #[lR r0, lR r1]) (fun _ => by first | (simp [entryFrame, mkF, argsToLocals, Value.category]; done) | rfl) ?_
  intro p e s m below meth c s₁ hx hby hml hret hnn hZ hown X0 e0
  have N0 := Fr.nil n0; have w := @ww Z a0 hw
  obtain ⟨T2, X2, e2, st2⟩ := getF X0 hx hZ hown (host := "") (Or.inl (w 60 rfl)) (Via.of (w 61 rfl)) e0 f1 (g := (mkF m 2 #[lR r0, lR r1] [(.ref r0), (.ref r0)])) rfl rfl (hb hby d10_2)
  obtain ⟨T5, h5, X5, e5, W5, st5⟩ := putF X2 hx hZ hown (host := "") (Or.inl (w 60 rfl)) (Via.of (w 61 rfl)) e2 f1 f3 (Or.inl (w 51 rfl)) (w 32 rfl) (ty := .int) (by decide) rfl rfl (g := (mkF m 7 #[lR r0, lR r1] [vI2, (.ref r0)])) rfl rfl (hb hby d10_7)
  have Fw5 := f1.same W5
  have N5 := Fr.snoc X5 N0 g4
  have f7 := (f6.other W5 (Or.inr (slot_ne (Or.inl (w 54 rfl)) (Or.inl (w 51 rfl)) (by decide) (t := (.array (.object cs5))) (t' := .int) (by decide) (by decide))))
  obtain ⟨T8, X8, e8, st8⟩ := getF X5 hx hZ hown (host := "") (Or.inl (w 53 rfl)) Via.refl e5 f7 (g := (mkF m 13 #[lR r0, lR r1] [(.ref r0), (.ref r1), (.ref r0)])) rfl rfl (hb hby d10_13)
  have f10 := (f9.other W5 (Or.inr (slot_ne (Or.inl (w 63 rfl)) (Or.inl (w 51 rfl)) (by decide) (t := .int) (t' := .int) (by decide) (by decide))))
  obtain ⟨T11, X11, e11, st11⟩ := getF X8 hx hZ hown (host := "") (Or.inl (w 62 rfl)) Via.refl e8 f10 (g := (mkF m 17 #[lR r0, lR r1] [(.ref r0), (.ref r2), (.ref r1), (.ref r0)])) rfl rfl (hb hby d10_17)
  have f14 := (f12.other W5 n13)
  have f17 := (f16.wr W5)
  have f19 := (f3.wr W5)
  have o20 := Old.wr O0 W5 g4
  obtain ⟨cqq22, qq22, qq22'⟩ := f19.cell
  obtain ⟨_, T21, Lc21, X21, hQ21, st21⟩ := own_fin (X11.privateBack hx (y := mN51) hown (mvT hZ (w 64 rfl)) (mvT hZ (w 65 rfl)) (mvT hZ (w 67 rfl)) (Cond.privateMethod_at (mvP hZ (w 66 rfl) (args := #[]))) (mvT hZ (w 68 rfl)) (by decide) (backOf (W := 0) (rm11_2 l Z a0 hw [] r0 r1 r2 c3 r4 h5 n0 o20 f14 f15 f17 g18 f19 f10 (Ne.symm n13) g4 Fw5 f7) hZ (w 68 rfl) (w 33 rfl) (by decide) (by decide)) (g := (mkF m 20 #[lR r0, lR r1] [vI1, (.ref r2), (.ref r1), (.ref r0)])) rfl (by rw [hml]; rfl) (Steps.refl _) (a := r0) (by rw [e11]; exact qq22) qq22' (argsL := [(.ref r1), (.ref r2), vI1]) (rest := []) (lenOf pd__Ljava_lang_Object__Ljava_lang_Object_I_V rfl) rfl (own_W rfl) (hb hby d10_20) (fun _ _ => ⟨rfl, e11, (by decide : 0 + 0 ≤ _), (by decide : 0 + 0 ≤ _)⟩))
  obtain ⟨rfl, N21q, K21, f23, f24, f25, f26⟩ := hQ21
  have N21 := Fr.app N5 N21q
  have kp27 : Keep h0 h5 [r0, r2] := (Keep.refl h0 [r0, r2]).wr W5 (Or.inl (List.mem_of_getElem? (i := 0) rfl))
  have kp28 : Keep h0 T21.heap [r0, r2] := kp27.trans K21 (allS (Or.inl (List.mem_of_getElem? (i := 1) rfl)) (allS (Or.inl (List.mem_of_getElem? (i := 0) rfl)) all0))
  refine ⟨some vI1, _, _, _, _, nofun, X21, by decide, by decide, ?_, fun fs hr => ?_⟩
  · exact ⟨rfl, N21, kp28, f24, f25, f26, f23⟩
  · show SG p e below s₁ (mkF m 0 #[lR r0, lR r1] []) _
    refine qaN X0 hx hby d10_0 ?_
    refine qd X0 hx hby d10_1 ?_
    refine st2 _ ?_
    refine qc X2 hx hby d10_5 ?_
    refine XS.iadd X2.here hx rfl (hb hby d10_6) rfl ?_
    refine st5 _ ?_
    refine qaN X5 hx hby d10_10 ?_
    refine qaN X5 hx hby d10_11 ?_
    refine qaN X5 hx hby d10_12 ?_
    refine st8 _ ?_
    refine qaN X8 hx hby d10_16 ?_
    refine st11 _ ?_
    refine st21.trans ?_
    refine qc X21 hx hby d10_23 ?_
    exact retN X21 hx (t := .boolean) hret (by simp) (hb hby d10_24) hr
theorem d15_556 : DK cB15 556 (.new 8) 3 := by decide +kernel
theorem d15_559 : DK cB15 559 (.dup) 1 := by decide +kernel
theorem d15_560 : DK cB15 560 (.bipush 50) 2 := by decide +kernel
theorem d15_562 : DK cB15 562 (.newarray .char) 2 := by decide +kernel
theorem pl15_564 : own_plan method_3_code (50 : Int32) 50 50 564 = some ([(0, .inl 73), (1, .inl 110), (2, .inl 116), (3, .inl 101), (4, .inl 114), (5, .inl 110), (6, .inl 97), (7, .inl 108), (8, .inl 67), (9, .inl 97), (10, .inl 108), (11, .inl 108), (12, .inl 68), (13, .inl 101), (14, .inl 116), (15, .inl 97), (16, .inl 105), (17, .inl 108), (18, .inl 115), (19, .inl 32), (20, .inl 91), (21, .inl 107), (22, .inl 101), (23, .inl 121), (24, .inl 61), (25, .inr 1), (26, .inr 2), (27, .inl 44), (28, .inl 32), (29, .inl 97), (30, .inl 117), (31, .inl 116), (32, .inl 104), (33, .inl 111), (34, .inl 114), (35, .inl 105), (36, .inl 116), (37, .inl 105), (38, .inl 101), (39, .inl 115), (40, .inl 61), (41, .inl 91), (42, .inr 3), (43, .inr 4), (44, .inl 44), (45, .inl 32), (46, .inr 5), (47, .inr 6), (48, .inl 93), (49, .inl 93)], 855) := by decide +kernel
theorem d15_855 : DK cB15 855 (.invokespecial 10) 3 := by decide +kernel
theorem d15_858 : DK cB15 858 (.areturn) 1 := by decide +kernel
def Q15_3 (Z : State) (x0 x1 : Int32) (x2 x3 : Int32) (x4 x5 : Int32) (h0 : Heap) (n0 : Nat) (v : Option Value) (h : Heap) (L : List Loc) : Prop := ∃ (b1 b26_0 : Addr) (k26_0 : ClassId), v = some (.ref b1) ∧ Fr n0 L ∧ Keep h0 h [] ∧ h0.size ≤ b1 ∧ Exa Z h b1 cs8 ∧ Fld Z h b1 cs8 "coder" "B" vI0 ∧ Fld Z h b1 cs8 "value" "[B" (.ref b26_0) ∧ h0.size ≤ b26_0 ∧ Arv Z h b26_0 k26_0 .byte (50 : Int32) [vI73, vI110, vI116, vI101, vI114, vI110, vI97, vI108, vI67, vI97, vI108, vI108, vI68, vI101, vI116, vI97, vI105, vI108, vI115, vI32, vI91, vI107, vI101, vI121, vI61, (.int ((nar .char x0).toInt8.toInt32)), (.int ((nar .char x1).toInt8.toInt32)), vI44, vI32, vI97, vI117, vI116, vI104, vI111, vI114, vI105, vI116, vI105, vI101, vI115, vI61, vI91, (.int ((nar .char x2).toInt8.toInt32)), (.int ((nar .char x3).toInt8.toInt32)), vI44, vI32, (.int ((nar .char x4).toInt8.toInt32)), (.int ((nar .char x5).toInt8.toInt32)), vI93, vI93] vI0 ∧ Exa Z h b26_0 "[B" ∧ b1 ≠ b26_0
theorem rm15_3 (l : Launch) (Z : State) (a0 : Array Value) (hw : own_HW a0 Z) (ws : List Jvm.Cond) (x0 x1 : Int32) (x2 x3 : Int32) (x4 x5 x6 : Int32) (h0 : Heap) (n0 : Nat) (O0 : Old Z n0 h0) (f13 : Sta Z Z.heap cs8 cs9 "Z" (.int x6)) (hc17 : ¬ (x6 = (0 : Int32))) (hc20 : ¬ ((255 : Int32) < (nar .char x0))) (hc21 : ¬ ((255 : Int32) < (nar .char x1))) (hc22 : ¬ ((255 : Int32) < (nar .char x2))) (hc23 : ¬ ((255 : Int32) < (nar .char x3))) (hc24 : ¬ ((255 : Int32) < (nar .char x4))) (hc25 : ¬ ((255 : Int32) < (nar .char x5))) :
    own_MF l mN3 method_3_code 7 (some (.object cs8)) ws rR4_3_104_66 Z h0 #[vI2, (.int x0), (.int x1), (.int x2), (.int x3), (.int x4), (.int x5)] (Q15_3 Z x0 x1 x2 x3 x4 x5 h0 n0) := by
  refine own_open (plainFor_of_name pn_com_example_innerkey_innerkey_InternalCallDetailsToStringPinLaw) (L0 := #[lV vI2, lI x0, lI x1, lI x2, lI x3, lI x4, lI x5]) (fun _ => by first | (simp [entryFrame, mkF, argsToLocals, Value.category]; done) | rfl) ?_
  intro p e s m below meth c s₁ hx hby hml hret hnn hZ hown X0 e0
  have N0 := Fr.nil n0; have w := @ww Z a0 hw
  obtain ⟨T1, h1, X1, e1, E1, A1, D1, -, st1⟩ := newO X0 hx hZ hown (w 1 rfl) (w 2 rfl) (w 3 rfl) e0 (g := (mkF m 556 #[lV vI2, lI x0, lI x1, lI x2, lI x3, lI x4, lI x5] [])) rfl (hb hby d15_556) (by decide) (by decide)
  obtain ⟨b1, g1⟩ : ∃ z, z = h0.size := ⟨_, rfl⟩
  rw [← g1] at A1 D1 st1
  have f2 : Fld Z h1 b1 cs8 "coder" "B" vI0 := D1 (Or.inr (w 28 rfl)) (ty := .byte) (by decide)
  have f3 : Fld Z h1 b1 cs8 "value" "[B" .null := D1 (Or.inr (w 30 rfl)) (ty := (.array .byte)) (by decide)
  obtain ⟨T4, h4, k4, X4, e4, E4, A4, B4, st4⟩ := newPE X1 hx hZ (w 4 rfl) e1 (g := (mkF m 562 #[lV vI2, lI x0, lI x1, lI x2, lI x3, lI x4, lI x5] [vI50, (.ref b1), (.ref b1)])) rfl (hb hby d15_562) rfl (by decide) (cap := 50) (by decide) (by decide) (by decide) (by decide) (ad := "[C") rfl
  obtain ⟨b4, g4⟩ : ∃ z, z = h1.size := ⟨_, rfl⟩
  rw [← g4] at A4 B4 st4
  have V4 : Arv Z h4 b4 k4 .char (50 : Int32) [vI0, vI0, vI0, vI0, vI0, vI0, vI0, vI0, vI0, vI0, vI0, vI0, vI0, vI0, vI0, vI0, vI0, vI0, vI0, vI0, vI0, vI0, vI0, vI0, vI0, vI0, vI0, vI0, vI0, vI0, vI0, vI0, vI0, vI0, vI0, vI0, vI0, vI0, vI0, vI0, vI0, vI0, vI0, vI0, vI0, vI0, vI0, vI0, vI0, vI0] vI0 := (Arv.new A4 (by decide)).pad (pad_rep [] vI0 50)
  have o6 := Old.ext O0 E1
  have zz5 : n0 ≤ h1.size := by rw [← o6.1]; exact o6.2.1
  have g7 := Nat.le_trans zz5 (Nat.le_of_eq g4.symm)
  obtain ⟨T8, h8, L8, X8, e8, N8, K8, V8, st8⟩ := own_fill hx hZ hby g7 50 564 _ _ pl15_564 (rest := [(.ref b1), (.ref b1)]) (Ls := #[lV vI2, lI x0, lI x1, lI x2, lI x3, lI x4, lI x5]) X4 e4 (Keep.refl _ _) V4 N0 rfl (vs' := [vI73, vI110, vI116, vI101, vI114, vI110, vI97, vI108, vI67, vI97, vI108, vI108, vI68, vI101, vI116, vI97, vI105, vI108, vI115, vI32, vI91, vI107, vI101, vI121, vI61, (.int (nar .char x0)), (.int (nar .char x1)), vI44, vI32, vI97, vI117, vI116, vI104, vI111, vI114, vI105, vI116, vI105, vI101, vI115, vI61, vI91, (.int (nar .char x2)), (.int (nar .char x3)), vI44, vI32, (.int (nar .char x4)), (.int (nar .char x5)), vI93, vI93]) (by simp only [own_app, own_v2, List.set]; rfl)
  have f9 := ((A1.ext E4).keep K8)
  have n10 := Nat.ne_of_lt (Nat.lt_of_lt_of_le A1.lt (Nat.le_of_eq g4.symm))
  have f11 := ((f3.ext E4).keep K8 (ninS n10 nin0))
  have f12 := ((f2.ext E4).keep K8 (ninS n10 nin0))
  have o14 := Old.ext o6 E4
  have o15 := Old.keep o14 K8 (allS g7 all0)
  have f16 := f13.ext o15.2
  have zz18 : n0 ≤ h0.size := by rw [← O0.1]; exact O0.2.1
  have g19 := Nat.le_trans zz18 (Nat.le_of_eq g1.symm)
  obtain ⟨_, T26, Lc26, X26, hQ26, st26⟩ := own_fin (X8.specialBack hx (y := mN4) rfl hown (mvT hZ (w 5 rfl)) (mvT hZ (w 6 rfl)) (mvT hZ (w 7 rfl)) (by decide) (own_newStr hZ hw (w 2 rfl) (cs := [(73 : Int32), (110 : Int32), (116 : Int32), (101 : Int32), (114 : Int32), (110 : Int32), (97 : Int32), (108 : Int32), (67 : Int32), (97 : Int32), (108 : Int32), (108 : Int32), (68 : Int32), (101 : Int32), (116 : Int32), (97 : Int32), (105 : Int32), (108 : Int32), (115 : Int32), (32 : Int32), (91 : Int32), (107 : Int32), (101 : Int32), (121 : Int32), (61 : Int32), (nar .char x0), (nar .char x1), (44 : Int32), (32 : Int32), (97 : Int32), (117 : Int32), (116 : Int32), (104 : Int32), (111 : Int32), (114 : Int32), (105 : Int32), (116 : Int32), (105 : Int32), (101 : Int32), (115 : Int32), (61 : Int32), (91 : Int32), (nar .char x2), (nar .char x3), (44 : Int32), (32 : Int32), (nar .char x4), (nar .char x5), (93 : Int32), (93 : Int32)]) (n := 50) g19 f9 f11 f12 V8 f16 hc17 rfl rfl (by decide) (by decide) (own_acS (by decide : ¬ ((255 : Int32) < (73 : Int32))) (own_acS (by decide : ¬ ((255 : Int32) < (110 : Int32))) (own_acS (by decide : ¬ ((255 : Int32) < (116 : Int32))) (own_acS (by decide : ¬ ((255 : Int32) < (101 : Int32))) (own_acS (by decide : ¬ ((255 : Int32) < (114 : Int32))) (own_acS (by decide : ¬ ((255 : Int32) < (110 : Int32))) (own_acS (by decide : ¬ ((255 : Int32) < (97 : Int32))) (own_acS (by decide : ¬ ((255 : Int32) < (108 : Int32))) (own_acS (by decide : ¬ ((255 : Int32) < (67 : Int32))) (own_acS (by decide : ¬ ((255 : Int32) < (97 : Int32))) (own_acS (by decide : ¬ ((255 : Int32) < (108 : Int32))) (own_acS (by decide : ¬ ((255 : Int32) < (108 : Int32))) (own_acS (by decide : ¬ ((255 : Int32) < (68 : Int32))) (own_acS (by decide : ¬ ((255 : Int32) < (101 : Int32))) (own_acS (by decide : ¬ ((255 : Int32) < (116 : Int32))) (own_acS (by decide : ¬ ((255 : Int32) < (97 : Int32))) (own_acS (by decide : ¬ ((255 : Int32) < (105 : Int32))) (own_acS (by decide : ¬ ((255 : Int32) < (108 : Int32))) (own_acS (by decide : ¬ ((255 : Int32) < (115 : Int32))) (own_acS (by decide : ¬ ((255 : Int32) < (32 : Int32))) (own_acS (by decide : ¬ ((255 : Int32) < (91 : Int32))) (own_acS (by decide : ¬ ((255 : Int32) < (107 : Int32))) (own_acS (by decide : ¬ ((255 : Int32) < (101 : Int32))) (own_acS (by decide : ¬ ((255 : Int32) < (121 : Int32))) (own_acS (by decide : ¬ ((255 : Int32) < (61 : Int32))) (own_acS hc20 (own_acS hc21 (own_acS (by decide : ¬ ((255 : Int32) < (44 : Int32))) (own_acS (by decide : ¬ ((255 : Int32) < (32 : Int32))) (own_acS (by decide : ¬ ((255 : Int32) < (97 : Int32))) (own_acS (by decide : ¬ ((255 : Int32) < (117 : Int32))) (own_acS (by decide : ¬ ((255 : Int32) < (116 : Int32))) (own_acS (by decide : ¬ ((255 : Int32) < (104 : Int32))) (own_acS (by decide : ¬ ((255 : Int32) < (111 : Int32))) (own_acS (by decide : ¬ ((255 : Int32) < (114 : Int32))) (own_acS (by decide : ¬ ((255 : Int32) < (105 : Int32))) (own_acS (by decide : ¬ ((255 : Int32) < (116 : Int32))) (own_acS (by decide : ¬ ((255 : Int32) < (105 : Int32))) (own_acS (by decide : ¬ ((255 : Int32) < (101 : Int32))) (own_acS (by decide : ¬ ((255 : Int32) < (115 : Int32))) (own_acS (by decide : ¬ ((255 : Int32) < (61 : Int32))) (own_acS (by decide : ¬ ((255 : Int32) < (91 : Int32))) (own_acS hc22 (own_acS hc23 (own_acS (by decide : ¬ ((255 : Int32) < (44 : Int32))) (own_acS (by decide : ¬ ((255 : Int32) < (32 : Int32))) (own_acS hc24 (own_acS hc25 (own_acS (by decide : ¬ ((255 : Int32) < (93 : Int32))) (own_acS (by decide : ¬ ((255 : Int32) < (93 : Int32))) own_ac0)))))))))))))))))))))))))))))))))))))))))))))))))) (own_bsS (by decide : ((73 : Int32)).toInt8.toInt32 = (73 : Int32)) (own_bsS (by decide : ((110 : Int32)).toInt8.toInt32 = (110 : Int32)) (own_bsS (by decide : ((116 : Int32)).toInt8.toInt32 = (116 : Int32)) (own_bsS (by decide : ((101 : Int32)).toInt8.toInt32 = (101 : Int32)) (own_bsS (by decide : ((114 : Int32)).toInt8.toInt32 = (114 : Int32)) (own_bsS (by decide : ((110 : Int32)).toInt8.toInt32 = (110 : Int32)) (own_bsS (by decide : ((97 : Int32)).toInt8.toInt32 = (97 : Int32)) (own_bsS (by decide : ((108 : Int32)).toInt8.toInt32 = (108 : Int32)) (own_bsS (by decide : ((67 : Int32)).toInt8.toInt32 = (67 : Int32)) (own_bsS (by decide : ((97 : Int32)).toInt8.toInt32 = (97 : Int32)) (own_bsS (by decide : ((108 : Int32)).toInt8.toInt32 = (108 : Int32)) (own_bsS (by decide : ((108 : Int32)).toInt8.toInt32 = (108 : Int32)) (own_bsS (by decide : ((68 : Int32)).toInt8.toInt32 = (68 : Int32)) (own_bsS (by decide : ((101 : Int32)).toInt8.toInt32 = (101 : Int32)) (own_bsS (by decide : ((116 : Int32)).toInt8.toInt32 = (116 : Int32)) (own_bsS (by decide : ((97 : Int32)).toInt8.toInt32 = (97 : Int32)) (own_bsS (by decide : ((105 : Int32)).toInt8.toInt32 = (105 : Int32)) (own_bsS (by decide : ((108 : Int32)).toInt8.toInt32 = (108 : Int32)) (own_bsS (by decide : ((115 : Int32)).toInt8.toInt32 = (115 : Int32)) (own_bsS (by decide : ((32 : Int32)).toInt8.toInt32 = (32 : Int32)) (own_bsS (by decide : ((91 : Int32)).toInt8.toInt32 = (91 : Int32)) (own_bsS (by decide : ((107 : Int32)).toInt8.toInt32 = (107 : Int32)) (own_bsS (by decide : ((101 : Int32)).toInt8.toInt32 = (101 : Int32)) (own_bsS (by decide : ((121 : Int32)).toInt8.toInt32 = (121 : Int32)) (own_bsS (by decide : ((61 : Int32)).toInt8.toInt32 = (61 : Int32)) (own_bsS rfl (own_bsS rfl (own_bsS (by decide : ((44 : Int32)).toInt8.toInt32 = (44 : Int32)) (own_bsS (by decide : ((32 : Int32)).toInt8.toInt32 = (32 : Int32)) (own_bsS (by decide : ((97 : Int32)).toInt8.toInt32 = (97 : Int32)) (own_bsS (by decide : ((117 : Int32)).toInt8.toInt32 = (117 : Int32)) (own_bsS (by decide : ((116 : Int32)).toInt8.toInt32 = (116 : Int32)) (own_bsS (by decide : ((104 : Int32)).toInt8.toInt32 = (104 : Int32)) (own_bsS (by decide : ((111 : Int32)).toInt8.toInt32 = (111 : Int32)) (own_bsS (by decide : ((114 : Int32)).toInt8.toInt32 = (114 : Int32)) (own_bsS (by decide : ((105 : Int32)).toInt8.toInt32 = (105 : Int32)) (own_bsS (by decide : ((116 : Int32)).toInt8.toInt32 = (116 : Int32)) (own_bsS (by decide : ((105 : Int32)).toInt8.toInt32 = (105 : Int32)) (own_bsS (by decide : ((101 : Int32)).toInt8.toInt32 = (101 : Int32)) (own_bsS (by decide : ((115 : Int32)).toInt8.toInt32 = (115 : Int32)) (own_bsS (by decide : ((61 : Int32)).toInt8.toInt32 = (61 : Int32)) (own_bsS (by decide : ((91 : Int32)).toInt8.toInt32 = (91 : Int32)) (own_bsS rfl (own_bsS rfl (own_bsS (by decide : ((44 : Int32)).toInt8.toInt32 = (44 : Int32)) (own_bsS (by decide : ((32 : Int32)).toInt8.toInt32 = (32 : Int32)) (own_bsS rfl (own_bsS rfl (own_bsS (by decide : ((93 : Int32)).toInt8.toInt32 = (93 : Int32)) (own_bsS (by decide : ((93 : Int32)).toInt8.toInt32 = (93 : Int32)) own_bs0)))))))))))))))))))))))))))))))))))))))))))))))))) (by decide) (by decide : 1 + 65 ≤ _)) (g := (mkF m 855 #[lV vI2, lI x0, lI x1, lI x2, lI x3, lI x4, lI x5] [(.ref b4), (.ref b1), (.ref b1)])) rfl (by rw [hml]; rfl) (Steps.refl _) (a := b1) (argsL := [(.ref b4)]) (rest := [(.ref b1)]) (lenOf pd___C_V rfl) rfl (own_W rfl) (hb hby d15_855) (fun _ _ => ⟨rfl, e8, (by decide : 2 + 1 ≤ _), (by decide : 54 + 50 ≤ _)⟩))
  obtain ⟨b26_0, k26_0, rfl, N26q, K26, f27, f28, f29, f30, f31, f32⟩ := hQ26
  have N26 := Fr.app N8 N26q
  have f33 := (f9.keep K26)
  have zs34 := E1.1
  have zs35 := Nat.le_trans zs34 E4.1
  have zs36 := Nat.le_trans zs35 K8.1
  have zs37 := E4.1
  have zs38 := Nat.le_trans zs37 K8.1
  have n39 := Nat.ne_of_lt (Nat.lt_of_lt_of_le (Nat.lt_of_lt_of_le A1.lt zs38) f29)
  have kp40 : Keep h0 h1 [] := (Keep.refl h0 []).ext E1
  have kp41 : Keep h0 h4 [] := kp40.ext E4
  have kp42 : Keep h0 h8 [] := kp41.trans K8 (allS (Or.inr (Nat.le_trans zs34 (Nat.le_of_eq g4.symm))) all0)
  have kp43 : Keep h0 T26.heap [] := kp42.trans K26 (allS (Or.inr (Nat.le_of_eq g1.symm)) all0)
  refine ⟨some (.ref b1), _, _, _, _, nofun, X26, by decide, by decide, ?_, fun fs hr => ?_⟩
  · exact ⟨b1, b26_0, k26_0, rfl, N26, kp43, (Nat.le_of_eq g1.symm), f33, f27, f28, (Nat.le_trans zs36 f29), f30, f31, n39⟩
  · show SG p e below s₁ (mkF m 0 #[lV vI2, lI x0, lI x1, lI x2, lI x3, lI x4, lI x5] []) _
    refine qiN X0 hx hby d15_0 ?_
    refine XS.ifYes X0.here hx rfl (pc0 := 1) (pc' := 272) rfl (hb hby d15_1) rfl ((if0 _ _).trans (feq (by decide : ¬ ((2 : Int32) = (0 : Int32)))).2) (by decide) (by decide) ?_
    refine qiN X0 hx hby d15_272 ?_
    refine qc X0 hx hby d15_273 ?_
    refine XS.icmpYes X0.here hx rfl (pc0 := 274) (pc' := 556) rfl (hb hby d15_274) rfl (feq (by decide : ¬ ((2 : Int32) = (1 : Int32)))).2 (by decide) (by decide) ?_
    refine st1 _ ?_
    refine qd X1 hx hby d15_559 ?_
    refine qb X1 hx hby d15_560 ?_
    refine st4 _ ?_
    show SG p e below T4 (mkF m 564 #[lV vI2, lI x0, lI x1, lI x2, lI x3, lI x4, lI x5] [(.ref b4), (.ref b1), (.ref b1)]) _
    refine st8 _ ?_
    show SG p e below T8 (mkF m 855 #[lV vI2, lI x0, lI x1, lI x2, lI x3, lI x4, lI x5] [(.ref b4), (.ref b1), (.ref b1)]) _
    refine st26.trans ?_
    exact retOut X26 hx (i := .areturn) hret rfl (Or.inr (Or.inr (Or.inr (Or.inr ⟨rfl, rfl, rfl⟩)))) (hb hby d15_858) hr
def Q19_3 (Z : State)  (h0 : Heap) (n0 : Nat) (v : Option Value) (h : Heap) (L : List Loc) : Prop := v = some vI0 ∧ Fr n0 L ∧ h = h0
theorem rm19_3 (l : Launch) (Z : State) (a0 : Array Value) (hw : own_HW a0 Z) (ws : List Jvm.Cond) (r0 : Addr) (h0 : Heap) (n0 : Nat) (O0 : Old Z n0 h0) (f1 : Fld Z h0 r0 cs2 "size" "I" vI2) :
    own_MF l mN5 jdk_38_method_9_code 1 (some .boolean) ws rR0_0_0_0 Z h0 #[(.ref r0)] (Q19_3 Z  h0 n0) := by
  refine own_open (plainFor_of_name pn_java_util_ArrayList) (L0 := #[lR r0]) (fun _ => by first | (simp [entryFrame, mkF, argsToLocals, Value.category]; done) | rfl) ?_
  intro p e s m below meth c s₁ hx hby hml hret hnn hZ hown X0 e0
  have N0 := Fr.nil n0
  obtain ⟨T2, X2, e2, st2⟩ := getF X0 hx hZ hown (host := "") (Or.inl (ww hw 62 rfl)) Via.refl e0 f1 (g := (mkF m 1 #[lR r0] [(.ref r0)])) rfl rfl (hb hby d19_1)
  refine ⟨some vI0, _, _, _, _, nofun, X2, by decide, by decide, ?_, fun fs hr => ?_⟩
  · rw [e2]; exact ⟨rfl, N0, rfl⟩
  · show SG p e below s₁ (mkF m 0 #[lR r0] []) _
    refine qaN X0 hx hby d19_0 ?_
    refine st2 _ ?_
    refine XS.ifYes X2.here hx rfl (pc0 := 4) (pc' := 11) rfl (hb hby d19_4) rfl ((if0 _ _).trans (feq (by decide : ¬ ((2 : Int32) = (0 : Int32)))).2) (by decide) (by decide) ?_
    refine qc X2 hx hby d19_11 ?_
    exact retN X2 hx (t := .boolean) hret (by simp) (hb hby d19_12) hr
def Q22_2 (Z : State) (r3 r4 : Addr) (h0 : Heap) (n0 : Nat) (v : Option Value) (h : Heap) (L : List Loc) : Prop := ∃ (b3 : Addr) (k3 : ClassId), v = some (.ref b3) ∧ Fr n0 L ∧ Keep h0 h [] ∧ h0.size ≤ b3 ∧ Arv Z h b3 k3 (.object cs5) (2 : Int32) [(.ref r3), (.ref r4)] .null ∧ Exa Z h b3 cs4 ∧ Ovr Z k3 cs5
theorem rm22_2 (l : Launch) (Z : State) (a0 : Array Value) (hw : own_HW a0 Z) (ws : List Jvm.Cond) (r0 r1 : Addr) (c2 : ClassId) (r3 r4 : Addr) (h0 : Heap) (n0 : Nat) (O0 : Old Z n0 h0) (f1 : own_Mir Z cs4 r1) (f4 : Arv Z h0 r0 c2 (.object cs5) (10 : Int32) [(.ref r3), (.ref r4), .null, .null, .null, .null, .null, .null, .null, .null] .null) (f10 : Exa Z h0 r4 cs8) (f12 : Exa Z h0 r3 cs8) :
    own_MF l mN53 jdk_65_method_120_code 4 (some (.array (.object cs5))) ws rR1_1_2_24 Z h0 #[(.ref r0), vI2, (.ref r1)] (Q22_2 Z r3 r4 h0 n0) := by
  refine own_open (plainFor_of_name pn_java_util_Arrays) (L0 := #[lR r0, lV vI2, lR r1, lU]) (fun _ => by first | (simp [entryFrame, mkF, argsToLocals, Value.category]; done) | rfl) ?_
  intro p e s m below meth c s₁ hx hby hml hret hnn hZ hown X0 e0
  have N0 := Fr.nil n0; have w := @ww Z a0 hw
  obtain ⟨T2, X2, e2, st2⟩ := own_ldcM X0 hx hZ hown (w 143 rfl) e0 f1 (g := (mkF m 1 #[lR r0, lV vI2, lR r1, lU] [(.ref r1)])) rfl (hb hby d22_1)
  obtain ⟨T3, h3, k3, X3, e3, E3, A3, B3, O3, st3⟩ := newRE X2 hx hZ hown (w 144 rfl) (w 84 rfl) e2 (g := (mkF m 7 #[lR r0, lV vI2, lR r1, lU] [vI2])) rfl (hb hby d22_7) rfl (by decide) (cap := 2) (by decide) (by decide) (by decide) (by decide) (ad := cs4) rfl
  obtain ⟨b3, g3⟩ : ∃ z, z = h0.size := ⟨_, rfl⟩
  rw [← g3] at A3 B3 st3
  have V3 : Arv Z h3 b3 k3 (.object cs5) (2 : Int32) [.null, .null] .null := (Arv.new A3 (by decide)).pad (pad_rep [] .null 2)
  have f5 := (f4.ext E3)
  obtain ⟨clq6, Arq6, qq6, Sq6, Nq6, Hq6, Gq6⟩ := id f5
  have o7 := Old.ext O0 E3
  obtain ⟨_, T8, Lc8, X8, hQ8, st8⟩ := own_cS X3 hx hZ hown e3 (rm23_2 l Z a0 hw [] (10 : Int32) (2 : Int32) h3 n0 o7 (by decide)) (w 145 rfl) (w 146 rfl) (w 81 rfl) (w 147 rfl) (by decide) (W := 4) (by decide) (by decide) (by decide) (by decide) (g := (mkF m 32 #[lR r0, lV vI2, lR r1, lR b3] [vI2, vI10, vI0, (.ref b3), vI0, (.ref r0)])) rfl (by rw [hml]; rfl) (argsL := [vI10, vI2]) (rest := [vI0, (.ref b3), vI0, (.ref r0)]) (lenOf pd__II_I rfl) rfl (own_W rfl) (hb hby d22_32)
  obtain ⟨rfl, N8q, E8⟩ := hQ8
  have N8 := Fr.app N0 N8q
  obtain ⟨clq9, Arq9, qq9, Sq9, Nq9, Hq9, Gq9⟩ := id V3
  have f11 := (f10.ext E3)
  have f13 := (f12.ext E3)
  have zz14 : n0 ≤ h0.size := by rw [← O0.1]; exact O0.2.1
  have g15 := Nat.le_trans zz14 (Nat.le_of_eq g3.symm)
  obtain ⟨T16, h16, L16, X16, e16, N16, K16, B16, st16⟩ := cpA X8 hx hZ hown (w 148 rfl) (w 151 rfl) (w 149 rfl) (w 150 rfl) E8 f5 V3 (us := [(.ref r3), (.ref r4)]) (Or.inr ⟨rfl, rfl, (And.intro (Sto.ofV Arq9 qq9 O3 (Ins.of_exa f13 (w 85 rfl))) (And.intro (Sto.ofV Arq9 qq9 O3 (Ins.of_exa f11 (w 85 rfl))) trivial))⟩) (by decide) (by decide) (by decide) (by decide) (by decide) rfl (by decide) N8 g15 (g := (mkF m 35 #[lR r0, lV vI2, lR r1, lR b3] [vI2, vI0, (.ref b3), vI0, (.ref r0)])) rfl (by rw [hml]; rfl) rfl (hb hby d22_35) (by decide) (W := 0) (own_W rfl) (by decide)
  have V16 : Arv Z h16 b3 k3 (.object cs5) (2 : Int32) [(.ref r3), (.ref r4)] .null := B16
  have f17 := (B3.keep K16)
  have kp18 : Keep h0 h3 [] := (Keep.refl h0 []).ext E3
  have kp19 : Keep h0 h16 [] := kp18.trans K16 (allS (Or.inr (Nat.le_of_eq g3.symm)) all0)
  refine ⟨some (.ref b3), _, _, _, _, nofun, X16, by decide, by decide, ?_, fun fs hr => ?_⟩
  · rw [e16]; exact ⟨b3, k3, rfl, N16, kp19, (Nat.le_of_eq g3.symm), V16, f17, O3⟩
  · show SG p e below s₁ (mkF m 0 #[lR r0, lV vI2, lR r1, lU] []) _
    refine qaN X0 hx hby d22_0 ?_
    refine st2 _ ?_
    refine Jvm.RoadKit.acmp (g := (mkF m 3 #[lR r0, lV vI2, lR r1, lU] [(.ref r1), (.ref r1)])) X2 hx rfl rfl rfl (pc0 := 3) (pc' := 6) (same := true) rfl (hb hby d22_3) rfl (decide_eq_true rfl) (by decide) (by decide) ?_
    refine qiN X2 hx hby d22_6 ?_
    refine st3 _ ?_
    refine XS.goto X3.here hx rfl (pc0 := 10) (pc' := 24) rfl (hb hby d22_10) (by decide) (by decide) ?_
    refine XS.astoreN X3.here hx rfl (hb hby d22_24) rfl rfl (l' := #[lR r0, lV vI2, lR r1, lR b3]) rfl ?_
    refine qaN X3 hx hby d22_25 ?_
    refine qc X3 hx hby d22_26 ?_
    refine qaN X3 hx hby d22_27 ?_
    refine qc X3 hx hby d22_28 ?_
    refine qaN X3 hx hby d22_29 ?_
    refine X3.arraylength hx (by rw [e3]; exact Arq6.1) (State.isArrayOf_alike hZ.alike Arq6.2.1) (g := (mkF m 30 #[lR r0, lV vI2, lR r1, lR b3] [(.ref r0), vI0, (.ref b3), vI0, (.ref r0)])) rfl rfl (hb hby d22_30) _ ?_
    rw [len_of Sq6 Nq6]
    refine qiN X3 hx hby d22_31 ?_
    refine st8 _ ?_
    refine st16 _ ?_
    refine qaN X16 hx hby d22_38 ?_
    exact retOut X16 hx (i := .areturn) hret rfl (Or.inr (Or.inr (Or.inr (Or.inr ⟨rfl, rfl, rfl⟩)))) (hb hby d22_39) hr
def Q21_2 (Z : State) (r3 r4 : Addr) (h0 : Heap) (n0 : Nat) (v : Option Value) (h : Heap) (L : List Loc) : Prop := ∃ (b7_0 : Addr) (k7_0 : ClassId), v = some (.ref b7_0) ∧ Fr n0 L ∧ Keep h0 h [] ∧ h0.size ≤ b7_0 ∧ Arv Z h b7_0 k7_0 (.object cs5) (2 : Int32) [(.ref r3), (.ref r4)] .null ∧ Exa Z h b7_0 cs4 ∧ Ovr Z k7_0 cs5
theorem rm21_2 (l : Launch) (Z : State) (a0 : Array Value) (hw : own_HW a0 Z) (ws : List Jvm.Cond) (r0 r1 : Addr) (c2 : ClassId) (r3 r4 : Addr) (h0 : Heap) (n0 : Nat) (O0 : Old Z n0 h0) (f1 : Exa Z h0 r0 cs4) (f2 : own_Mir Z cs4 r1) (f4 : Arv Z h0 r0 c2 (.object cs5) (10 : Int32) [(.ref r3), (.ref r4), .null, .null, .null, .null, .null, .null, .null, .null] .null) (f5 : Exa Z h0 r4 cs8) (f6 : Exa Z h0 r3 cs8) :
    own_MF l mN54 jdk_65_method_119_code 2 (some (.array (.object cs5))) ws rR2_1_2_39 Z h0 #[(.ref r0), vI2] (Q21_2 Z r3 r4 h0 n0) := by
  refine own_open (plainFor_of_name pn_java_util_Arrays) (L0 := #[lR r0, lV vI2]) (fun _ => by first | (simp [entryFrame, mkF, argsToLocals, Value.category]; done) | rfl) ?_
  intro p e s m below meth c s₁ hx hby hml hret hnn hZ hown X0 e0
  have N0 := Fr.nil n0; have w := @ww Z a0 hw
  obtain ⟨T3, X3, e3, st3⟩ := own_gcls X0 hx hZ hown (w 134 rfl) (w 135 rfl) (w 111 rfl) (w 137 rfl) (w 136 rfl) (w 138 rfl) e0 f1 f2 (g := (mkF m 3 #[lR r0, lV vI2] [(.ref r0), vI2, (.ref r0)])) rfl (by rw [hml]; rfl) rfl (hb hby d21_3) (by decide) (W := 2) (own_W rfl) (by decide)
  obtain ⟨_, T7, Lc7, X7, hQ7, st7⟩ := own_cS X3 hx hZ hown e3 (rm22_2 l Z a0 hw [] r0 r1 c2 r3 r4 h0 n0 O0 f2 f4 f5 f6) (w 140 rfl) (w 141 rfl) (w 132 rfl) (w 142 rfl) (by decide) (W := 0) (by decide) (by decide) (by decide) (by decide) (g := (mkF m 6 #[lR r0, lV vI2] [(.ref r1), vI2, (.ref r0)])) rfl (by rw [hml]; rfl) (argsL := [(.ref r0), vI2, (.ref r1)]) (rest := []) (lenOf pd___Ljava_lang_Object_ILjava_lang_Class___Ljava_lang_Object_ rfl) rfl (own_W rfl) (hb hby d21_6)
  obtain ⟨b7_0, k7_0, rfl, N7q, K7, f8, f9, f10, f11⟩ := hQ7
  have N7 := Fr.app N0 N7q
  have kp12 : Keep h0 T7.heap [] := (Keep.refl h0 []).trans K7 all0
  refine ⟨some (.ref b7_0), _, _, _, _, nofun, X7, by decide, by decide, ?_, fun fs hr => ?_⟩
  · exact ⟨b7_0, k7_0, rfl, N7, kp12, f8, f9, f10, f11⟩
  · show SG p e below s₁ (mkF m 0 #[lR r0, lV vI2] []) _
    refine qaN X0 hx hby d21_0 ?_
    refine qiN X0 hx hby d21_1 ?_
    refine qaN X0 hx hby d21_2 ?_
    refine st3 _ ?_
    refine st7 _ ?_
    exact retOut X7 hx (i := .areturn) hret rfl (Or.inr (Or.inr (Or.inr (Or.inr ⟨rfl, rfl, rfl⟩)))) (hb hby d21_9) hr
def Q20_2 (Z : State) (r4 r5 : Addr) (h0 : Heap) (n0 : Nat) (v : Option Value) (h : Heap) (L : List Loc) : Prop := ∃ (b10_0 : Addr) (k10_0 : ClassId), v = some (.ref b10_0) ∧ Fr n0 L ∧ Keep h0 h [] ∧ h0.size ≤ b10_0 ∧ Arv Z h b10_0 k10_0 (.object cs5) (2 : Int32) [(.ref r4), (.ref r5)] .null ∧ Exa Z h b10_0 cs4 ∧ Ovr Z k10_0 cs5
theorem rm20_2 (l : Launch) (Z : State) (a0 : Array Value) (hw : own_HW a0 Z) (ws : List Jvm.Cond) (r0 r1 r2 : Addr) (c3 : ClassId) (r4 r5 : Addr) (h0 : Heap) (n0 : Nat) (O0 : Old Z n0 h0) (f1 : Fld Z h0 r0 cs2 cs3 cs4 (.ref r1)) (f3 : Fld Z h0 r0 cs2 "size" "I" vI2) (f5 : Exa Z h0 r1 cs4) (f6 : own_Mir Z cs4 r2) (f7 : Arv Z h0 r1 c3 (.object cs5) (10 : Int32) [(.ref r4), (.ref r5), .null, .null, .null, .null, .null, .null, .null, .null] .null) (f8 : Exa Z h0 r5 cs8) (f9 : Exa Z h0 r4 cs8) :
    own_MF l mN55 jdk_38_method_16_code 1 (some (.array (.object cs5))) ws rR3_1_2_52 Z h0 #[(.ref r0)] (Q20_2 Z r4 r5 h0 n0) := by
  refine own_open (plainFor_of_name pn_java_util_ArrayList) (L0 := #[lR r0]) (fun _ => by first | (simp [entryFrame, mkF, argsToLocals, Value.category]; done) | rfl) ?_
  intro p e s m below meth c s₁ hx hby hml hret hnn hZ hown X0 e0
  have N0 := Fr.nil n0; have w := @ww Z a0 hw
  obtain ⟨T2, X2, e2, st2⟩ := getF X0 hx hZ hown (host := "") (Or.inl (w 53 rfl)) Via.refl e0 f1 (g := (mkF m 1 #[lR r0] [(.ref r0)])) rfl rfl (hb hby d20_1)
  obtain ⟨T4, X4, e4, st4⟩ := getF X2 hx hZ hown (host := "") (Or.inl (w 62 rfl)) Via.refl e2 f3 (g := (mkF m 5 #[lR r0] [(.ref r0), (.ref r1)])) rfl rfl (hb hby d20_5)
  obtain ⟨_, T10, Lc10, X10, hQ10, st10⟩ := own_cS X4 hx hZ hown e4 (rm21_2 l Z a0 hw [] r1 r2 c3 r4 r5 h0 n0 O0 f5 f6 f7 f8 f9) (w 130 rfl) (w 131 rfl) (w 132 rfl) (w 133 rfl) (by decide) (W := 0) (by decide) (by decide) (by decide) (by decide) (g := (mkF m 8 #[lR r0] [vI2, (.ref r1)])) rfl (by rw [hml]; rfl) (argsL := [(.ref r1), vI2]) (rest := []) (lenOf pd___Ljava_lang_Object_I__Ljava_lang_Object_ rfl) rfl (own_W rfl) (hb hby d20_8)
  obtain ⟨b10_0, k10_0, rfl, N10q, K10, f11, f12, f13, f14⟩ := hQ10
  have N10 := Fr.app N0 N10q
  have kp15 : Keep h0 T10.heap [] := (Keep.refl h0 []).trans K10 all0
  refine ⟨some (.ref b10_0), _, _, _, _, nofun, X10, by decide, by decide, ?_, fun fs hr => ?_⟩
  · exact ⟨b10_0, k10_0, rfl, N10, kp15, f11, f12, f13, f14⟩
  · show SG p e below s₁ (mkF m 0 #[lR r0] []) _
    refine qaN X0 hx hby d20_0 ?_
    refine st2 _ ?_
    refine qaN X2 hx hby d20_4 ?_
    refine st4 _ ?_
    refine st10 _ ?_
    exact retOut X10 hx (i := .areturn) hret rfl (Or.inr (Or.inr (Or.inr (Or.inr ⟨rfl, rfl, rfl⟩)))) (hb hby d20_11) hr
theorem d24_45 : DK cB24 45 (.new 96) 3 := by decide +kernel
theorem d24_48 : DK cB24 48 (.dup) 1 := by decide +kernel
theorem d24_49 : DK cB24 49 (.aload_n 0) 1 := by decide +kernel
theorem d24_50 : DK cB24 50 (.iconst 0) 1 := by decide +kernel
theorem d24_51 : DK cB24 51 (.aaload) 1 := by decide +kernel
theorem d24_52 : DK cB24 52 (.aload_n 0) 1 := by decide +kernel
theorem d24_53 : DK cB24 53 (.iconst 1) 1 := by decide +kernel
theorem d24_54 : DK cB24 54 (.aaload) 1 := by decide +kernel
theorem d24_55 : DK cB24 55 (.invokespecial 100) 3 := by decide +kernel
theorem d68_0 : DK cB68 0 (.aload_n 0) 1 := by decide +kernel
theorem d68_1 : DK cB68 1 (.invokespecial 1) 3 := by decide +kernel
theorem d68_4 : DK cB68 4 (.aload_n 0) 1 := by decide +kernel
theorem d68_5 : DK cB68 5 (.aload_n 1) 1 := by decide +kernel
theorem d68_6 : DK cB68 6 (.invokestatic 7) 3 := by decide +kernel
theorem d68_9 : DK cB68 9 (.putfield 13) 3 := by decide +kernel
theorem d68_12 : DK cB68 12 (.aload_n 0) 1 := by decide +kernel
theorem d68_13 : DK cB68 13 (.aload_n 2) 1 := by decide +kernel
theorem d68_14 : DK cB68 14 (.invokestatic 7) 3 := by decide +kernel
theorem d68_17 : DK cB68 17 (.putfield 24) 3 := by decide +kernel
theorem d68_20 : DK cB68 20 (.return_) 1 := by decide +kernel
def Q68_1 (Z : State) (r0 r1 r2 : Addr) (h0 : Heap) (n0 : Nat) (v : Option Value) (h : Heap) (L : List Loc) : Prop := v = none ∧ Fr n0 L ∧ Keep h0 h [r0] ∧ Fld Z h r0 cs45 "e0" cs46 (.ref r1) ∧ Fld Z h r0 cs45 "e1" cs46 (.ref r2)
theorem rm68_1 (l : Launch) (Z : State) (a0 : Array Value) (hw : own_HW a0 Z) (ws : List Jvm.Cond) (r0 r1 r2 : Addr) (h0 : Heap) (n0 : Nat) (O0 : Old Z n0 h0) (f3 : Exa Z h0 r0 cs45) (f4 : Fld Z h0 r0 cs45 "e0" cs46 .null) (g5 : n0 ≤ r0) (f10 : Fld Z h0 r0 cs45 "e1" cs46 .null) :
    own_MF l mN71 jdk_44_method_2_code 3 none ws rR4_0_0_48 Z h0 #[(.ref r0), (.ref r1), (.ref r2)] (Q68_1 Z r0 r1 r2 h0 n0) := by
  refine own_open (plainFor_of_name pn_java_util_ImmutableCollections_List12) (L0 := #[lR r0, lR r1, lR r2]) (fun _ => by first | (simp [entryFrame, mkF, argsToLocals, Value.category]; done) | rfl) ?_
  intro p e s m below meth c s₁ hx hby hml hret hnn hZ hown X0 e0
  have N0 := Fr.nil n0; have w := @ww Z a0 hw
  have hnm := (name_of_methodNamed hnn.1 hnn.2).1
  obtain ⟨_, T1, Lc1, X1, hQ1, st1⟩ := own_fin (X0.specialBack hx (y := mN57) rfl hown (mvT hZ (w 162 rfl)) (mvT hZ (w 163 rfl)) (mvT hZ (w 167 rfl)) (by decide) (backOf (W := 0) (rm26_1 l Z a0 hw [] r0 h0 n0 O0) hZ (w 167 rfl) (w 166 rfl) (by decide) (by decide)) (g := (mkF m 1 #[lR r0, lR r1, lR r2] [(.ref r0)])) rfl (by rw [hml]; rfl) (Steps.refl _) (a := r0) (argsL := []) (rest := []) (lenOf pd___V rfl) rfl (own_W rfl) (hb hby d68_1) (fun _ _ => ⟨rfl, e0, (by decide : 0 + 0 ≤ _), (by decide : 0 + 0 ≤ _)⟩))
  obtain ⟨rfl, N1q, E1⟩ := hQ1
  have N1 := Fr.app N0 N1q
  obtain ⟨_, T2, Lc2, X2, hQ2, st2⟩ := own_cS X1 hx hZ hown E1 (rm28_1 l Z a0 hw [] r1 h0 n0 O0) (w 176 rfl) (w 177 rfl) (w 178 rfl) (w 179 rfl) (by decide) (W := 1) (by decide) (by decide) (by decide) (by decide) (g := (mkF m 6 #[lR r0, lR r1, lR r2] [(.ref r1), (.ref r0)])) rfl (by rw [hml]; rfl) (argsL := [(.ref r1)]) (rest := [(.ref r0)]) (lenOf pd__Ljava_lang_Object__Ljava_lang_Object_ rfl) rfl (own_W rfl) (hb hby d68_6)
  obtain ⟨rfl, N2q, E2⟩ := hQ2
  have N2 := Fr.app N1 N2q
  obtain ⟨T6, h6, X6, e6, W6, st6⟩ := putF X2 hx hZ hown (host := "") (Or.inl (w 180 rfl)) Via.refl E2 f4 f3 (Or.inr ⟨(w 181 rfl), rfl, hnm⟩) (w 156 rfl) (ty := (.object cs5)) (by decide) rfl rfl (g := (mkF m 9 #[lR r0, lR r1, lR r2] [(.ref r1), (.ref r0)])) rfl rfl (hb hby d68_9)
  have Fw6 := f4.same W6
  have N6 := Fr.snoc X6 N2 g5
  have o7 := Old.wr O0 W6 g5
  obtain ⟨_, T8, Lc8, X8, hQ8, st8⟩ := own_cS X6 hx hZ hown e6 (rm28_1 l Z a0 hw [] r2 h6 n0 o7) (w 176 rfl) (w 177 rfl) (w 178 rfl) (w 179 rfl) (by decide) (W := 1) (by decide) (by decide) (by decide) (by decide) (g := (mkF m 14 #[lR r0, lR r1, lR r2] [(.ref r2), (.ref r0)])) rfl (by rw [hml]; rfl) (argsL := [(.ref r2)]) (rest := [(.ref r0)]) (lenOf pd__Ljava_lang_Object__Ljava_lang_Object_ rfl) rfl (own_W rfl) (hb hby d68_14)
  obtain ⟨rfl, N8q, E8⟩ := hQ8
  have N8 := Fr.app N6 N8q
  have f9 := (f3.wr W6)
  have f11 := (f10.other W6 (Or.inr (slot_ne (Or.inr (w 184 rfl)) (Or.inr (w 181 rfl)) (by decide) (t := (.object cs5)) (t' := (.object cs5)) (by decide) (by decide))))
  obtain ⟨T12, h12, X12, e12, W12, st12⟩ := putF X8 hx hZ hown (host := "") (Or.inl (w 183 rfl)) Via.refl E8 f11 f9 (Or.inr ⟨(w 184 rfl), rfl, hnm⟩) (w 156 rfl) (ty := (.object cs5)) (by decide) rfl rfl (g := (mkF m 17 #[lR r0, lR r1, lR r2] [(.ref r2), (.ref r0)])) rfl rfl (hb hby d68_17)
  have Fw12 := f11.same W12
  have N12 := Fr.snoc X12 N8 g5
  have f13 := (Fw6.other W12 (Or.inr (slot_ne (Or.inr (w 181 rfl)) (Or.inr (w 184 rfl)) (by decide) (t := (.object cs5)) (t' := (.object cs5)) (by decide) (by decide))))
  have kp14 : Keep h0 h6 [r0] := (Keep.refl h0 [r0]).wr W6 (Or.inl (List.mem_of_getElem? (i := 0) rfl))
  have kp15 : Keep h0 h12 [r0] := kp14.wr W12 (Or.inl (List.mem_of_getElem? (i := 0) rfl))
  refine ⟨none, _, _, _, _, (fun _ => rfl), X12, by decide, by decide, ?_, fun fs hr => ?_⟩
  · rw [e12]; exact ⟨rfl, N12, kp15, f13, Fw12⟩
  · show SG p e below s₁ (mkF m 0 #[lR r0, lR r1, lR r2] []) _
    refine qaN X0 hx hby d68_0 ?_
    refine st1.trans ?_
    refine qaN X1 hx hby d68_4 ?_
    refine qaN X1 hx hby d68_5 ?_
    refine st2 _ ?_
    refine st6 _ ?_
    refine qaN X6 hx hby d68_12 ?_
    refine qaN X6 hx hby d68_13 ?_
    refine st8 _ ?_
    refine st12 _ ?_
    exact X12.returnOut hx hret (hb hby d68_20) hr
theorem pd__Ljava_lang_Object_Ljava_lang_Object__V : parseMethodDescriptor "(Ljava/lang/Object;Ljava/lang/Object;)V" = some ⟨[(.object "java/lang/Object"), (.object "java/lang/Object")], none⟩ := by decide +kernel
theorem d24_58 : DK cB24 58 (.areturn) 1 := by decide +kernel
def Q24_2 (Z : State) (r2 r3 : Addr) (h0 : Heap) (n0 : Nat) (v : Option Value) (h : Heap) (L : List Loc) : Prop := ∃ (b3 : Addr), v = some (.ref b3) ∧ Fr n0 L ∧ Keep h0 h [] ∧ h0.size ≤ b3 ∧ Exa Z h b3 cs45 ∧ Fld Z h b3 cs45 "e0" cs46 (.ref r2) ∧ Fld Z h b3 cs45 "e1" cs46 (.ref r3)
theorem rm24_2 (l : Launch) (Z : State) (a0 : Array Value) (hw : own_HW a0 Z) (ws : List Jvm.Cond) (r0 : Addr) (c1 : ClassId) (r2 r3 : Addr) (h0 : Heap) (n0 : Nat) (O0 : Old Z n0 h0) (f1 : Arv Z h0 r0 c1 (.object cs5) (2 : Int32) [(.ref r2), (.ref r3)] .null) :
    own_MF l mN60 jdk_40_method_47_code 2 (some (.object cs11)) ws rR5_1_2_63 Z h0 #[(.ref r0)] (Q24_2 Z r2 r3 h0 n0) := by
  refine own_open (plainFor_of_name pn_java_util_List) (L0 := #[lR r0, lU]) (fun _ => by first | (simp [entryFrame, mkF, argsToLocals, Value.category]; done) | rfl) ?_
  intro p e s m below meth c s₁ hx hby hml hret hnn hZ hown X0 e0
  have N0 := Fr.nil n0; have w := @ww Z a0 hw
  obtain ⟨clq2, Arq2, qq2, Sq2, Nq2, Hq2, Gq2⟩ := id f1
  obtain ⟨T3, h3, X3, e3, E3, A3, D3, -, st3⟩ := newO X0 hx hZ hown (w 155 rfl) (w 156 rfl) (w 157 rfl) e0 (g := (mkF m 45 #[lR r0, lU] [])) rfl (hb hby d24_45) (by decide) (by decide)
  obtain ⟨b3, g3⟩ : ∃ z, z = h0.size := ⟨_, rfl⟩
  rw [← g3] at A3 D3 st3
  have f4 : Fld Z h3 b3 cs45 "e0" cs46 .null := D3 (Or.inr (w 181 rfl)) (ty := (.object cs5)) (by decide)
  have f5 : Fld Z h3 b3 cs45 "e1" cs46 .null := D3 (Or.inr (w 184 rfl)) (ty := (.object cs5)) (by decide)
  have f6 := (f1.ext E3)
  obtain ⟨clq7, Arq7, qq7, Sq7, Nq7, Hq7, Gq7⟩ := id f6
  obtain ⟨clq8, Arq8, qq8, Sq8, Nq8, Hq8, Gq8⟩ := id f6
  have zz9 : n0 ≤ h0.size := by rw [← O0.1]; exact O0.2.1
  have g10 := Nat.le_trans zz9 (Nat.le_of_eq g3.symm)
  have o11 := Old.ext O0 E3
  obtain ⟨_, T12, Lc12, X12, hQ12, st12⟩ := own_fin (X3.specialBack hx (y := mN71) rfl hown (mvT hZ (w 412 rfl)) (mvT hZ (w 413 rfl)) (mvT hZ (w 414 rfl)) (by decide) (backOf (W := 1) (rm68_1 l Z a0 hw [] b3 r2 r3 h3 n0 o11 A3 f4 g10 f5) hZ (w 414 rfl) (w 157 rfl) (by decide) (by decide)) (g := (mkF m 55 #[lR r0, lU] [(.ref r3), (.ref r2), (.ref b3), (.ref b3)])) rfl (by rw [hml]; rfl) (Steps.refl _) (a := b3) (argsL := [(.ref r2), (.ref r3)]) (rest := [(.ref b3)]) (lenOf pd__Ljava_lang_Object_Ljava_lang_Object__V rfl) rfl (own_W rfl) (hb hby d24_55) (fun _ _ => ⟨rfl, e3, (by decide : 1 + 0 ≤ _), (by decide : 2 + 0 ≤ _)⟩))
  obtain ⟨rfl, N12q, K12, f13, f14⟩ := hQ12
  have N12 := Fr.app N0 N12q
  have f15 := (A3.keep K12)
  have kp16 : Keep h0 h3 [] := (Keep.refl h0 []).ext E3
  have kp17 : Keep h0 T12.heap [] := kp16.trans K12 (allS (Or.inr (Nat.le_of_eq g3.symm)) all0)
  refine ⟨some (.ref b3), _, _, _, _, nofun, X12, by decide, by decide, ?_, fun fs hr => ?_⟩
  · exact ⟨b3, rfl, N12, kp17, (Nat.le_of_eq g3.symm), f15, f13, f14⟩
  · show SG p e below s₁ (mkF m 0 #[lR r0, lU] []) _
    refine qaN X0 hx hby d24_0 ?_
    refine X0.arraylength hx (by rw [e0]; exact Arq2.1) (State.isArrayOf_alike hZ.alike Arq2.2.1) (g := (mkF m 1 #[lR r0, lU] [(.ref r0)])) rfl rfl (hb hby d24_1) _ ?_
    rw [len_of Sq2 Nq2]
    refine XS.tswIn X0.here hx rfl (pc0 := 2) (pc' := 45) rfl (hb hby d24_2) rfl (by decide) rfl (by decide) (by decide) ?_
    refine st3 _ ?_
    refine qd X3 hx hby d24_48 ?_
    refine qaN X3 hx hby d24_49 ?_
    refine qc X3 hx hby d24_50 ?_
    refine X3.aaload hx (j := (0 : Int32)) (v := (.ref r2)) (by rw [e3]; exact Arq7.1) (State.isArrayOf_alike hZ.alike Arq7.2.1) rfl Arq7.2.2 (inb_of Sq7 ⟨(by decide : ¬ ((0 : Int32) < (0 : Int32))), (by decide : (0 : Int32) < (2 : Int32))⟩) (Has.at Hq7 (inb_of Sq7 ⟨(by decide : ¬ ((0 : Int32) < (0 : Int32))), (by decide : (0 : Int32) < (2 : Int32))⟩) rfl) (g := (mkF m 51 #[lR r0, lU] [vI0, (.ref r0), (.ref b3), (.ref b3)])) rfl rfl (hb hby d24_51) _ ?_
    refine qaN X3 hx hby d24_52 ?_
    refine qc X3 hx hby d24_53 ?_
    refine X3.aaload hx (j := (1 : Int32)) (v := (.ref r3)) (by rw [e3]; exact Arq8.1) (State.isArrayOf_alike hZ.alike Arq8.2.1) rfl Arq8.2.2 (inb_of Sq8 ⟨(by decide : ¬ ((1 : Int32) < (0 : Int32))), (by decide : (1 : Int32) < (2 : Int32))⟩) (Has.at Hq8 (inb_of Sq8 ⟨(by decide : ¬ ((1 : Int32) < (0 : Int32))), (by decide : (1 : Int32) < (2 : Int32))⟩) rfl) (g := (mkF m 54 #[lR r0, lU] [vI1, (.ref r0), (.ref r2), (.ref b3), (.ref b3)])) rfl rfl (hb hby d24_54) _ ?_
    refine st12.trans ?_
    exact retOut X12 hx (i := .areturn) hret rfl (Or.inr (Or.inr (Or.inr (Or.inr ⟨rfl, rfl, rfl⟩)))) (hb hby d24_58) hr
def Q18_3 (Z : State) (r4 r5 : Addr) (h0 : Heap) (n0 : Nat) (v : Option Value) (h : Heap) (L : List Loc) : Prop := ∃ (b18_0 : Addr), v = some (.ref b18_0) ∧ Fr n0 L ∧ Keep h0 h [] ∧ h0.size ≤ b18_0 ∧ Exa Z h b18_0 cs45 ∧ Fld Z h b18_0 cs45 "e0" cs46 (.ref r4) ∧ Fld Z h b18_0 cs45 "e1" cs46 (.ref r5)
theorem rm18_3 (l : Launch) (Z : State) (a0 : Array Value) (hw : own_HW a0 Z) (ws : List Jvm.Cond) (r0 r1 r2 : Addr) (c3 : ClassId) (r4 r5 : Addr) (h0 : Heap) (n0 : Nat) (O0 : Old Z n0 h0) (f1 : Exa Z h0 r0 cs2) (f4 : Fld Z h0 r0 cs2 "size" "I" vI2) (f6 : Fld Z h0 r0 cs2 cs3 cs4 (.ref r1)) (f7 : Exa Z h0 r1 cs4) (f8 : own_Mir Z cs4 r2) (f9 : Arv Z h0 r1 c3 (.object cs5) (10 : Int32) [(.ref r4), (.ref r5), .null, .null, .null, .null, .null, .null, .null, .null] .null) (f10 : Exa Z h0 r5 cs8) (f11 : Exa Z h0 r4 cs8) :
    own_MF l mN7 jdk_56_method_3_code 2 (some (.object cs11)) ws rR6_2_4_76 Z h0 #[(.ref r0)] (Q18_3 Z r4 r5 h0 n0) := by
  refine own_open (plainFor_of_name pn_java_util_ImmutableCollections) (L0 := #[lR r0, lU]) (fun _ => by first | (simp [entryFrame, mkF, argsToLocals, Value.category]; done) | rfl) ?_
  intro p e s m below meth c s₁ hx hby hml hret hnn hZ hown X0 e0
  have N0 := Fr.nil n0; have w := @ww Z a0 hw
  obtain ⟨T2, X2, e2, st2⟩ := instNo X0 hx hZ hown (w 107 rfl) e0 f1 (own_NSno (w 108 rfl) (w 156 rfl) (NS.step (w 108 rfl) (NS.step (w 109 rfl) (NS.step (w 110 rfl) (own_NSroot (w 111 rfl) (w 156 rfl) (by decide)) (by decide)) (by decide)) (by decide)) (by decide)) (g := (mkF m 1 #[lR r0, lU] [(.ref r0)])) rfl rfl (hb hby d18_1)
  obtain ⟨T3, X3, e3, st3⟩ := instNo X2 hx hZ hown (w 112 rfl) e2 f1 (own_NSnoS (w 108 rfl) (w 421 rfl) rfl (NS.step (w 108 rfl) (NS.step (w 109 rfl) (NS.step (w 110 rfl) (own_NSrootS (w 111 rfl) (w 421 rfl) rfl (by decide)) (by decide)) (by decide)) (by decide)) (by decide)) (g := (mkF m 8 #[lR r0, lU] [(.ref r0)])) rfl rfl (hb hby d18_8)
  obtain ⟨_, T5, Lc5, X5, hQ5, st5⟩ := own_cI (xi := mN8) X3 hx hZ hown e3 (rm19_3 l Z a0 hw [] r0 h0 n0 O0 f4) f1 (w 113 rfl) (w 114 rfl) (w 115 rfl) (w 116 rfl) (w 117 rfl) (w 118 rfl) (w 119 rfl) (w 120 rfl) (w 121 rfl) (w 33 rfl) (by decide) (W := 0) (by decide) (by decide) (by decide) (by decide) (g := (mkF m 32 #[lR r0, lU] [(.ref r0)])) rfl (by rw [hml]; rfl) (argsL := []) (rest := []) (lenOf pd___Z rfl) rfl (own_W rfl) (hb hby d18_32)
  obtain ⟨rfl, N5q, E5⟩ := hQ5
  have N5 := Fr.app N0 N5q
  obtain ⟨_, T12, Lc12, X12, hQ12, st12⟩ := own_cI (xi := mN61) X5 hx hZ hown E5 (rm20_2 l Z a0 hw [] r0 r1 r2 c3 r4 r5 h0 n0 O0 f6 f4 f7 f8 f9 f10 f11) f1 (w 122 rfl) (w 123 rfl) (w 124 rfl) (w 125 rfl) (w 126 rfl) (w 127 rfl) (w 128 rfl) (w 120 rfl) (w 129 rfl) (w 33 rfl) (by decide) (W := 0) (by decide) (by decide) (by decide) (by decide) (g := (mkF m 45 #[lR r0, lU] [(.ref r0)])) rfl (by rw [hml]; rfl) (argsL := []) (rest := []) (lenOf pd____Ljava_lang_Object_ rfl) rfl (own_W rfl) (hb hby d18_45)
  obtain ⟨b12_0, k12_0, rfl, N12q, K12, f13, f14, f15, f16⟩ := hQ12
  have N12 := Fr.app N5 N12q
  have o17 := Old.keep O0 K12 all0
  obtain ⟨_, T18, Lc18, X18, hQ18, st18⟩ := own_cS X12 hx hZ hown rfl (rm24_2 l Z a0 hw [] b12_0 k12_0 r4 r5 T12.heap n0 o17 f14) (w 152 rfl) (w 153 rfl) (w 101 rfl) (w 154 rfl) (by decide) (W := 0) (by decide) (by decide) (by decide) (by decide) (g := (mkF m 50 #[lR r0, lU] [(.ref b12_0)])) rfl (by rw [hml]; rfl) (argsL := [(.ref b12_0)]) (rest := []) (lenOf pd___Ljava_lang_Object__Ljava_util_List_ rfl) rfl (own_W rfl) (hb hby d18_50)
  obtain ⟨b18_0, rfl, N18q, K18, f19, f20, f21, f22⟩ := hQ18
  have N18 := Fr.app N12 N18q
  have zs23 := K12.1
  have kp24 : Keep h0 T12.heap [] := (Keep.refl h0 []).trans K12 all0
  have kp25 : Keep h0 T18.heap [] := kp24.trans K18 all0
  refine ⟨some (.ref b18_0), _, _, _, _, nofun, X18, by decide, by decide, ?_, fun fs hr => ?_⟩
  · exact ⟨b18_0, rfl, N18, kp25, (Nat.le_trans zs23 f19), f20, f21, f22⟩
  · show SG p e below s₁ (mkF m 0 #[lR r0, lU] []) _
    refine qaN X0 hx hby d18_0 ?_
    refine st2 _ ?_
    refine XS.ifNo X2.here hx rfl (hb hby d18_4) rfl ((if0 _ _).trans (teq (rfl : (0 : Int32) = (0 : Int32))).2) ?_
    refine qaN X2 hx hby d18_7 ?_
    refine st3 _ ?_
    refine XS.ifYes X3.here hx rfl (pc0 := 11) (pc' := 31) rfl (hb hby d18_11) rfl ((if0 _ _).trans (teq (rfl : (0 : Int32) = (0 : Int32))).1) (by decide) (by decide) ?_
    refine qaN X3 hx hby d18_31 ?_
    refine st5 _ ?_
    refine XS.ifYes X5.here hx rfl (pc0 := 37) (pc' := 44) rfl (hb hby d18_37) rfl ((if0 _ _).trans (teq (rfl : (0 : Int32) = (0 : Int32))).1) (by decide) (by decide) ?_
    refine qaN X5 hx hby d18_44 ?_
    refine st12 _ ?_
    refine st18 _ ?_
    exact retOut X18 hx (i := .areturn) hret rfl (Or.inr (Or.inr (Or.inr (Or.inr ⟨rfl, rfl, rfl⟩)))) (hb hby d18_53) hr
def Q17_3 (Z : State) (r4 r5 : Addr) (h0 : Heap) (n0 : Nat) (v : Option Value) (h : Heap) (L : List Loc) : Prop := ∃ (b9_0 : Addr), v = some (.ref b9_0) ∧ Fr n0 L ∧ Keep h0 h [] ∧ h0.size ≤ b9_0 ∧ Exa Z h b9_0 cs45 ∧ Fld Z h b9_0 cs45 "e0" cs46 (.ref r4) ∧ Fld Z h b9_0 cs45 "e1" cs46 (.ref r5)
theorem rm17_3 (l : Launch) (Z : State) (a0 : Array Value) (hw : own_HW a0 Z) (ws : List Jvm.Cond) (r0 r1 r2 : Addr) (c3 : ClassId) (r4 r5 : Addr) (h0 : Heap) (n0 : Nat) (O0 : Old Z n0 h0) (f1 : Exa Z h0 r0 cs2) (f2 : Fld Z h0 r0 cs2 "size" "I" vI2) (f3 : Fld Z h0 r0 cs2 cs3 cs4 (.ref r1)) (f4 : Exa Z h0 r1 cs4) (f5 : own_Mir Z cs4 r2) (f6 : Arv Z h0 r1 c3 (.object cs5) (10 : Int32) [(.ref r4), (.ref r5), .null, .null, .null, .null, .null, .null, .null, .null] .null) (f7 : Exa Z h0 r5 cs8) (f8 : Exa Z h0 r4 cs8) :
    own_MF l mN9 jdk_40_method_48_code 1 (some (.object cs11)) ws rR7_2_4_89 Z h0 #[(.ref r0)] (Q17_3 Z r4 r5 h0 n0) := by
  refine own_open (plainFor_of_name pn_java_util_List) (L0 := #[lR r0]) (fun _ => by first | (simp [entryFrame, mkF, argsToLocals, Value.category]; done) | rfl) ?_
  intro p e s m below meth c s₁ hx hby hml hret hnn hZ hown X0 e0
  have N0 := Fr.nil n0
  obtain ⟨_, T9, Lc9, X9, hQ9, st9⟩ := own_cS X0 hx hZ hown e0 (rm18_3 l Z a0 hw [] r0 r1 r2 c3 r4 r5 h0 n0 O0 f1 f2 f3 f4 f5 f6 f7 f8) (ww hw 103 rfl) (ww hw 104 rfl) (ww hw 105 rfl) (ww hw 106 rfl) (by decide) (W := 0) (by decide) (by decide) (by decide) (by decide) (g := (mkF m 1 #[lR r0] [(.ref r0)])) rfl (by rw [hml]; rfl) (argsL := [(.ref r0)]) (rest := []) (lenOf pd__Ljava_util_Collection__Ljava_util_List_ rfl) rfl (own_W rfl) (hb hby d17_1)
  obtain ⟨b9_0, rfl, N9q, K9, f10, f11, f12, f13⟩ := hQ9
  have N9 := Fr.app N0 N9q
  have kp14 : Keep h0 T9.heap [] := (Keep.refl h0 []).trans K9 all0
  refine ⟨some (.ref b9_0), _, _, _, _, nofun, X9, by decide, by decide, ?_, fun fs hr => ?_⟩
  · exact ⟨b9_0, rfl, N9, kp14, f10, f11, f12, f13⟩
  · show SG p e below s₁ (mkF m 0 #[lR r0] []) _
    refine qaN X0 hx hby d17_0 ?_
    refine st9 _ ?_
    exact retOut X9 hx (i := .areturn) hret rfl (Or.inr (Or.inr (Or.inr (Or.inr ⟨rfl, rfl, rfl⟩)))) (hb hby d17_4) hr
def Q16_3 (Z : State) (r0 r1 : Addr) (r6 r7 : Addr) (h0 : Heap) (n0 : Nat) (v : Option Value) (h : Heap) (L : List Loc) : Prop := ∃ (b24_0 : Addr), v = none ∧ Fr n0 L ∧ Keep h0 h [r0] ∧ Fld Z h r0 cs17 "key" cs18 (.ref r1) ∧ Fld Z h r0 cs17 cs19 cs20 (.ref b24_0) ∧ h0.size ≤ b24_0 ∧ Exa Z h b24_0 cs45 ∧ Fld Z h b24_0 cs45 "e0" cs46 (.ref r6) ∧ Fld Z h b24_0 cs45 "e1" cs46 (.ref r7)
theorem rm16_3 (l : Launch) (Z : State) (a0 : Array Value) (hw : own_HW a0 Z) (ws : List Jvm.Cond) (r0 r1 : Addr) (r2 r3 r4 : Addr) (c5 : ClassId) (r6 r7 : Addr) (h0 : Heap) (n0 : Nat) (O0 : Old Z n0 h0) (f2 : Exa Z h0 r0 cs17) (f3 : Fld Z h0 r0 cs17 "key" cs18 .null) (g4 : n0 ≤ r0) (f6 : Exa Z h0 r2 cs2) (f8 : Fld Z h0 r2 cs2 "size" "I" vI2) (n9 : r2 ≠ r0) (f11 : Fld Z h0 r2 cs2 cs3 cs4 (.ref r3)) (f13 : Exa Z h0 r3 cs4) (f15 : own_Mir Z cs4 r4) (f16 : Arv Z h0 r3 c5 (.object cs5) (10 : Int32) [(.ref r6), (.ref r7), .null, .null, .null, .null, .null, .null, .null, .null] .null) (n17 : r3 ≠ r0) (f19 : Exa Z h0 r7 cs8) (f21 : Exa Z h0 r6 cs8) (f30 : Fld Z h0 r0 cs17 cs19 cs20 .null) (l36 : r0 < h0.size) :
    own_MF l mN10 prog_4_method_1_code 3 none ws rR8_2_4_102 Z h0 #[(.ref r0), (.ref r1), (.ref r2)] (Q16_3 Z r0 r1 r6 r7 h0 n0) := by
  refine own_open (plainFor_of_name pn_com_example_innerkey_innerkey_InternalCallDetails) (L0 := #[lR r0, lR r1, lR r2]) (fun _ => by first | (simp [entryFrame, mkF, argsToLocals, Value.category]; done) | rfl) ?_
  intro p e s m below meth c s₁ hx hby hml hret hnn hZ hown X0 e0
  have N0 := Fr.nil n0; have w := @ww Z a0 hw
  have hnm := (name_of_methodNamed hnn.1 hnn.2).1
  obtain ⟨T1, X1, e1, st1⟩ := initO X0 hx hZ hown (w 96 rfl) (w 13 rfl) (w 14 rfl) e0 (g := (mkF m 1 #[lR r0, lR r1, lR r2] [(.ref r0)])) rfl (by rw [hml]; rfl) rfl (hb hby d16_1) (by decide) (W := 0) (own_W rfl) (by decide)
  obtain ⟨T5, h5, X5, e5, W5, st5⟩ := putF X1 hx hZ hown (host := "") (Or.inl (w 97 rfl)) Via.refl e1 f3 f2 (Or.inr ⟨(w 98 rfl), rfl, hnm⟩) (w 91 rfl) (ty := (.object cs8)) (by decide) rfl rfl (g := (mkF m 6 #[lR r0, lR r1, lR r2] [(.ref r1), (.ref r0)])) rfl rfl (hb hby d16_6)
  have Fw5 := f3.same W5
  have N5 := Fr.snoc X5 N0 g4
  have f7 := (f6.wr W5)
  have f10 := (f8.other W5 (Or.inl n9))
  have f12 := (f11.other W5 (Or.inl n9))
  have f14 := (f13.wr W5)
  have f18 := (f16.other W5 n17)
  have f20 := (f19.wr W5)
  have f22 := (f21.wr W5)
  have o23 := Old.wr O0 W5 g4
  obtain ⟨_, T24, Lc24, X24, hQ24, st24⟩ := own_cS X5 hx hZ hown e5 (rm17_3 l Z a0 hw [] r2 r3 r4 c5 r6 r7 h5 n0 o23 f7 f10 f12 f14 f15 f18 f20 f22) (w 99 rfl) (w 100 rfl) (w 101 rfl) (w 102 rfl) (by decide) (W := 1) (by decide) (by decide) (by decide) (by decide) (g := (mkF m 11 #[lR r0, lR r1, lR r2] [(.ref r2), (.ref r0)])) rfl (by rw [hml]; rfl) (argsL := [(.ref r2)]) (rest := [(.ref r0)]) (lenOf pd__Ljava_util_Collection__Ljava_util_List_ rfl) rfl (own_W rfl) (hb hby d16_11)
  obtain ⟨b24_0, rfl, N24q, K24, f25, f26, f27, f28⟩ := hQ24
  have N24 := Fr.app N5 N24q
  have f29 := ((f2.wr W5).keep K24)
  have f31 := ((f30.other W5 (Or.inr (slot_ne (Or.inr (w 186 rfl)) (Or.inr (w 98 rfl)) (by decide) (t := (.object cs11)) (t' := (.object cs8)) (by decide) (by decide)))).keep K24 nin0)
  obtain ⟨T32, h32, X32, e32, W32, st32⟩ := putF X24 hx hZ hown (host := "") (Or.inl (w 185 rfl)) Via.refl rfl f31 f29 (Or.inr ⟨(w 186 rfl), rfl, hnm⟩) (w 91 rfl) (ty := (.object cs11)) (by decide) rfl rfl (g := (mkF m 14 #[lR r0, lR r1, lR r2] [(.ref b24_0), (.ref r0)])) rfl rfl (hb hby d16_14)
  have Fw32 := f31.same W32
  have N32 := Fr.snoc X32 N24 g4
  have f33 := ((Fw5.keep K24 nin0).other W32 (Or.inr (slot_ne (Or.inr (w 98 rfl)) (Or.inr (w 186 rfl)) (by decide) (t := (.object cs8)) (t' := (.object cs11)) (by decide) (by decide))))
  have zs34 := (Nat.le_of_eq W5.size.symm)
  have f35 := (f26.wr W32)
  have n37 := Nat.ne_of_lt (Nat.lt_of_lt_of_le (Nat.lt_of_lt_of_le l36 zs34) f25)
  have f38 := (f27.other W32 (Or.inl (Ne.symm n37)))
  have f39 := (f28.other W32 (Or.inl (Ne.symm n37)))
  have kp40 : Keep h0 h5 [r0] := (Keep.refl h0 [r0]).wr W5 (Or.inl (List.mem_of_getElem? (i := 0) rfl))
  have kp41 : Keep h0 T24.heap [r0] := kp40.trans K24 all0
  have kp42 : Keep h0 h32 [r0] := kp41.wr W32 (Or.inl (List.mem_of_getElem? (i := 0) rfl))
  refine ⟨none, _, _, _, _, (fun _ => rfl), X32, by decide, by decide, ?_, fun fs hr => ?_⟩
  · rw [e32]; exact ⟨b24_0, rfl, N32, kp42, f33, Fw32, (Nat.le_trans zs34 f25), f35, f38, f39⟩
  · show SG p e below s₁ (mkF m 0 #[lR r0, lR r1, lR r2] []) _
    refine qaN X0 hx hby d16_0 ?_
    refine st1 _ ?_
    refine qaN X1 hx hby d16_4 ?_
    refine qaN X1 hx hby d16_5 ?_
    refine st5 _ ?_
    refine qaN X5 hx hby d16_9 ?_
    refine qaN X5 hx hby d16_10 ?_
    refine st24 _ ?_
    refine st32 _ ?_
    exact X32.returnOut hx hret (hb hby d16_17) hr
theorem d47_10 : DK cB47 10 (.iconst 2) 1 := by decide +kernel
theorem d47_11 : DK cB47 11 (.goto 4) 3 := by decide +kernel
def Q47_2 (Z : State)  (h0 : Heap) (n0 : Nat) (v : Option Value) (h : Heap) (L : List Loc) : Prop := v = some vI2 ∧ Fr n0 L ∧ h = h0
theorem rm47_2 (l : Launch) (Z : State) (a0 : Array Value) (hw : own_HW a0 Z) (ws : List Jvm.Cond) (r0 r1 r2 : Addr) (h0 : Heap) (n0 : Nat) (O0 : Old Z n0 h0) (f1 : Fld Z h0 r0 cs45 "e1" cs46 (.ref r1)) (f3 : Sta Z Z.heap cs12 "EMPTY" cs46 (.ref r2)) (f6 : Exa Z Z.heap r2 cs5) (g7 : n0 ≤ r1) :
    own_MF l mN62 jdk_44_method_3_code 1 (some .int) ws rR0_0_0_0 Z h0 #[(.ref r0)] (Q47_2 Z  h0 n0) := by
  refine own_open (plainFor_of_name pn_java_util_ImmutableCollections_List12) (L0 := #[lR r0]) (fun _ => by first | (simp [entryFrame, mkF, argsToLocals, Value.category]; done) | rfl) ?_
  intro p e s m below meth c s₁ hx hby hml hret hnn hZ hown X0 e0
  have N0 := Fr.nil n0
  obtain ⟨T2, X2, e2, st2⟩ := getF X0 hx hZ hown (host := "") (Or.inl (ww hw 183 rfl)) Via.refl e0 f1 (g := (mkF m 1 #[lR r0] [(.ref r0)])) rfl rfl (hb hby d47_1)
  have f4 := f3.ext O0.2
  obtain ⟨T5, X5, e5, st5⟩ := getS2 X2 hx hZ hown (Or.inr (ww hw 182 rfl)) Via.refl e2 f4 (g := (mkF m 4 #[lR r0] [(.ref r1)])) rfl (hb hby d47_4)
  have n8 := Old.ne O0 f6.lt g7
  refine ⟨some vI2, _, _, _, _, nofun, X5, by decide, by decide, ?_, fun fs hr => ?_⟩
  · rw [e5]; exact ⟨rfl, N0, rfl⟩
  · show SG p e below s₁ (mkF m 0 #[lR r0] []) _
    refine qaN X0 hx hby d47_0 ?_
    refine st2 _ ?_
    refine st5 _ ?_
    refine Jvm.RoadKit.acmp (g := (mkF m 7 #[lR r0] [(.ref r2), (.ref r1)])) X5 hx rfl rfl rfl (pc0 := 7) (pc' := 10) (same := false) rfl (hb hby d47_7) rfl (decide_eq_false fun q => (Ne.symm n8) (Value.ref.inj q)) (by decide) (by decide) ?_
    refine qc X5 hx hby d47_10 ?_
    refine XS.goto X5.here hx rfl (pc0 := 11) (pc' := 15) rfl (hb hby d47_11) (by decide) (by decide) ?_
    exact retOut X5 hx (i := .ireturn) hret rfl (Or.inl ⟨rfl, Or.inl rfl, _, rfl⟩) (hb hby d47_15) hr
def Q48_3 (Z : State) (r0 r1 : Addr) (h0 : Heap) (n0 : Nat) (v : Option Value) (h : Heap) (L : List Loc) : Prop := v = none ∧ Fr n0 L ∧ Keep h0 h [r0] ∧ Fld Z h r0 cs33 "list" cs20 (.ref r1) ∧ Fld Z h r0 cs33 "size" "I" vI2 ∧ Fld Z h r0 cs33 "cursor" "I" vI0 ∧ Fld Z h r0 cs33 cs34 "Z" vI0
theorem rm48_3 (l : Launch) (Z : State) (a0 : Array Value) (hw : own_HW a0 Z) (ws : List Jvm.Cond) (r0 r1 : Addr) (h0 : Heap) (n0 : Nat) (O0 : Old Z n0 h0) (f2 : Exa Z h0 r0 cs33) (f3 : Fld Z h0 r0 cs33 "list" cs20 .null) (g4 : n0 ≤ r0) (f7 : Fld Z h0 r0 cs33 "size" "I" vI0) (f11 : Fld Z h0 r0 cs33 "cursor" "I" vI0) (f15 : Fld Z h0 r0 cs33 cs34 "Z" vI0) :
    own_MF l mN27 jdk_53_method_1_code 3 none ws rR1_0_0_12 Z h0 #[(.ref r0), (.ref r1), vI2] (Q48_3 Z r0 r1 h0 n0) := by
  refine own_open (plainFor_of_name pn_java_util_ImmutableCollections_ListItr) (L0 := #[lR r0, lR r1, lV vI2]) (fun _ => by first | (simp [entryFrame, mkF, argsToLocals, Value.category]; done) | rfl) ?_
  intro p e s m below meth c s₁ hx hby hml hret hnn hZ hown X0 e0
  have N0 := Fr.nil n0; have w := @ww Z a0 hw
  have hnm := (name_of_methodNamed hnn.1 hnn.2).1
  obtain ⟨T1, X1, e1, st1⟩ := initO X0 hx hZ hown (w 305 rfl) (w 13 rfl) (w 14 rfl) e0 (g := (mkF m 1 #[lR r0, lR r1, lV vI2] [(.ref r0)])) rfl (by rw [hml]; rfl) rfl (hb hby d48_1) (by decide) (W := 0) (own_W rfl) (by decide)
  obtain ⟨T5, h5, X5, e5, W5, st5⟩ := putF X1 hx hZ hown (host := "") (Or.inl (w 306 rfl)) Via.refl e1 f3 f2 (Or.inr ⟨(w 307 rfl), rfl, hnm⟩) (w 293 rfl) (ty := (.object cs11)) (by decide) rfl rfl (g := (mkF m 6 #[lR r0, lR r1, lV vI2] [(.ref r1), (.ref r0)])) rfl rfl (hb hby d48_6)
  have Fw5 := f3.same W5
  have N5 := Fr.snoc X5 N0 g4
  have f6 := (f2.wr W5)
  have f8 := (f7.other W5 (Or.inr (slot_ne (Or.inr (w 309 rfl)) (Or.inr (w 307 rfl)) (by decide) (t := .int) (t' := (.object cs11)) (by decide) (by decide))))
  obtain ⟨T9, h9, X9, e9, W9, st9⟩ := putF X5 hx hZ hown (host := "") (Or.inl (w 308 rfl)) Via.refl e5 f8 f6 (Or.inr ⟨(w 309 rfl), rfl, hnm⟩) (w 293 rfl) (ty := .int) (by decide) rfl rfl (g := (mkF m 11 #[lR r0, lR r1, lV vI2] [vI2, (.ref r0)])) rfl rfl (hb hby d48_11)
  have Fw9 := f8.same W9
  have N9 := Fr.snoc X9 N5 g4
  have f10 := (f6.wr W9)
  have f12 := ((f11.other W5 (Or.inr (slot_ne (Or.inl (w 311 rfl)) (Or.inr (w 307 rfl)) (by decide) (t := .int) (t' := (.object cs11)) (by decide) (by decide)))).other W9 (Or.inr (slot_ne (Or.inl (w 311 rfl)) (Or.inr (w 309 rfl)) (by decide) (t := .int) (t' := .int) (by decide) (by decide))))
  obtain ⟨T13, h13, X13, e13, W13, st13⟩ := putF X9 hx hZ hown (host := "") (Or.inl (w 310 rfl)) Via.refl e9 f12 f10 (Or.inl (w 311 rfl)) (w 293 rfl) (ty := .int) (by decide) rfl rfl (g := (mkF m 16 #[lR r0, lR r1, lV vI2] [vI0, (.ref r0)])) rfl rfl (hb hby d48_16)
  have Fw13 := f12.same W13
  have N13 := Fr.snoc X13 N9 g4
  have f14 := (f10.wr W13)
  have f16 := (((f15.other W5 (Or.inr (slot_ne (Or.inr (w 313 rfl)) (Or.inr (w 307 rfl)) (by decide) (t := .boolean) (t' := (.object cs11)) (by decide) (by decide)))).other W9 (Or.inr (slot_ne (Or.inr (w 313 rfl)) (Or.inr (w 309 rfl)) (by decide) (t := .boolean) (t' := .int) (by decide) (by decide)))).other W13 (Or.inr (slot_ne (Or.inr (w 313 rfl)) (Or.inl (w 311 rfl)) (by decide) (t := .boolean) (t' := .int) (by decide) (by decide))))
  obtain ⟨T17, h17, X17, e17, W17, st17⟩ := putFN X13 hx hZ hown (w 312 rfl) Via.refl e13 f16 f14 (Or.inr ⟨(w 313 rfl), rfl, hnm⟩) (w 293 rfl) (ty := .boolean) (v' := vI0) (by decide) rfl (by decide) (g := (mkF m 21 #[lR r0, lR r1, lV vI2] [vI0, (.ref r0)])) rfl rfl (hb hby d48_21)
  have Fw17 := f16.same W17
  have N17 := Fr.snoc X17 N13 g4
  have f18 := (((Fw5.other W9 (Or.inr (slot_ne (Or.inr (w 307 rfl)) (Or.inr (w 309 rfl)) (by decide) (t := (.object cs11)) (t' := .int) (by decide) (by decide)))).other W13 (Or.inr (slot_ne (Or.inr (w 307 rfl)) (Or.inl (w 311 rfl)) (by decide) (t := (.object cs11)) (t' := .int) (by decide) (by decide)))).other W17 (Or.inr (slot_ne (Or.inr (w 307 rfl)) (Or.inr (w 313 rfl)) (by decide) (t := (.object cs11)) (t' := .boolean) (by decide) (by decide))))
  have f19 := ((Fw9.other W13 (Or.inr (slot_ne (Or.inr (w 309 rfl)) (Or.inl (w 311 rfl)) (by decide) (t := .int) (t' := .int) (by decide) (by decide)))).other W17 (Or.inr (slot_ne (Or.inr (w 309 rfl)) (Or.inr (w 313 rfl)) (by decide) (t := .int) (t' := .boolean) (by decide) (by decide))))
  have f20 := (Fw13.other W17 (Or.inr (slot_ne (Or.inl (w 311 rfl)) (Or.inr (w 313 rfl)) (by decide) (t := .int) (t' := .boolean) (by decide) (by decide))))
  have kp21 : Keep h0 h5 [r0] := (Keep.refl h0 [r0]).wr W5 (Or.inl (List.mem_of_getElem? (i := 0) rfl))
  have kp22 : Keep h0 h9 [r0] := kp21.wr W9 (Or.inl (List.mem_of_getElem? (i := 0) rfl))
  have kp23 : Keep h0 h13 [r0] := kp22.wr W13 (Or.inl (List.mem_of_getElem? (i := 0) rfl))
  have kp24 : Keep h0 h17 [r0] := kp23.wr W17 (Or.inl (List.mem_of_getElem? (i := 0) rfl))
  refine ⟨none, _, _, _, _, (fun _ => rfl), X17, by decide, by decide, ?_, fun fs hr => ?_⟩
  · rw [e17]; exact ⟨rfl, N17, kp24, f18, f19, f20, Fw17⟩
  · show SG p e below s₁ (mkF m 0 #[lR r0, lR r1, lV vI2] []) _
    refine qaN X0 hx hby d48_0 ?_
    refine st1 _ ?_
    refine qaN X1 hx hby d48_4 ?_
    refine qaN X1 hx hby d48_5 ?_
    refine st5 _ ?_
    refine qaN X5 hx hby d48_9 ?_
    refine qiN X5 hx hby d48_10 ?_
    refine st9 _ ?_
    refine qaN X9 hx hby d48_14 ?_
    refine qc X9 hx hby d48_15 ?_
    refine st13 _ ?_
    refine qaN X13 hx hby d48_19 ?_
    refine qc X13 hx hby d48_20 ?_
    refine st17 _ ?_
    exact X17.returnOut hx hret (hb hby d48_24) hr
def Q46_3 (Z : State) (r0 : Addr) (h0 : Heap) (n0 : Nat) (v : Option Value) (h : Heap) (L : List Loc) : Prop := ∃ (b1 : Addr), v = some (.ref b1) ∧ Fr n0 L ∧ Keep h0 h [] ∧ h0.size ≤ b1 ∧ Exa Z h b1 cs33 ∧ Fld Z h b1 cs33 "list" cs20 (.ref r0) ∧ Fld Z h b1 cs33 "size" "I" vI2 ∧ Fld Z h b1 cs33 "cursor" "I" vI0 ∧ Fld Z h b1 cs33 cs34 "Z" vI0
theorem rm46_3 (l : Launch) (Z : State) (a0 : Array Value) (hw : own_HW a0 Z) (ws : List Jvm.Cond) (r0 r1 r2 : Addr) (h0 : Heap) (n0 : Nat) (O0 : Old Z n0 h0) (f6 : Exa Z h0 r0 cs45) (f8 : Fld Z h0 r0 cs45 "e1" cs46 (.ref r1)) (f10 : Sta Z Z.heap cs12 "EMPTY" cs46 (.ref r2)) (f11 : Exa Z Z.heap r2 cs5) (g12 : n0 ≤ r1) :
    own_MF l mN28 jdk_46_method_10_code 1 (some (.object cs38)) ws rR2_1_4_27 Z h0 #[(.ref r0)] (Q46_3 Z r0 h0 n0) := by
  refine own_open (plainFor_of_name pn_java_util_ImmutableCollections_AbstractImmutableList) (L0 := #[lR r0]) (fun _ => by first | (simp [entryFrame, mkF, argsToLocals, Value.category]; done) | rfl) ?_
  intro p e s m below meth c s₁ hx hby hml hret hnn hZ hown X0 e0
  have N0 := Fr.nil n0; have w := @ww Z a0 hw
  obtain ⟨T1, h1, X1, e1, E1, A1, D1, -, st1⟩ := newO X0 hx hZ hown (w 292 rfl) (w 293 rfl) (w 294 rfl) e0 (g := (mkF m 0 #[lR r0] [])) rfl (hb hby d46_0) (by decide) (by decide)
  obtain ⟨b1, g1⟩ : ∃ z, z = h0.size := ⟨_, rfl⟩
  rw [← g1] at A1 D1 st1
  have f2 : Fld Z h1 b1 cs33 "list" cs20 .null := D1 (Or.inr (w 307 rfl)) (ty := (.object cs11)) (by decide)
  have f3 : Fld Z h1 b1 cs33 "size" "I" vI0 := D1 (Or.inr (w 309 rfl)) (ty := .int) (by decide)
  have f4 : Fld Z h1 b1 cs33 "cursor" "I" vI0 := D1 (Or.inl (w 311 rfl)) (ty := .int) (by decide)
  have f5 : Fld Z h1 b1 cs33 cs34 "Z" vI0 := D1 (Or.inr (w 313 rfl)) (ty := .boolean) (by decide)
  have f7 := (f6.ext E1)
  have f9 := (f8.ext E1)
  have o13 := Old.ext O0 E1
  obtain ⟨cqq15, kqq15, qq15a, qq15b, qq15c⟩ := isOf hZ e1 f7
  obtain ⟨_, T14, Lc14, X14, hQ14, st14⟩ := own_fin (X1.virtualBackUp hx (x := mN29) (y := mN62) hown (mvT hZ (w 295 rfl)) (mvT hZ (w 296 rfl)) (mvT hZ (w 297 rfl)) (by decide) (mvT hZ (w 298 rfl)) (mvT hZ (w 299 rfl)) (backOf (W := 3) (rm47_2 l Z a0 hw [] r0 r1 r2 h1 n0 o13 f9 f10 f11 g12) hZ (w 300 rfl) (w 157 rfl) (by decide) (by decide)) qq15a qq15c (g := (mkF m 6 #[lR r0] [(.ref r0), (.ref r0), (.ref b1), (.ref b1)])) rfl (by rw [hml]; rfl) (Steps.refl _) (argsL := []) (rest := [(.ref r0), (.ref b1), (.ref b1)]) (lenOf pd___I rfl) rfl (own_W rfl) (hb hby d46_6) (fun _ _ => ⟨rfl, e1, (by decide : 1 + 0 ≤ _), (by decide : 4 + 0 ≤ _)⟩))
  obtain ⟨rfl, N14q, E14⟩ := hQ14
  have N14 := Fr.app N0 N14q
  have zz16 : n0 ≤ h0.size := by rw [← O0.1]; exact O0.2.1
  have g17 := Nat.le_trans zz16 (Nat.le_of_eq g1.symm)
  obtain ⟨_, T18, Lc18, X18, hQ18, st18⟩ := own_fin (X14.specialBack hx (y := mN27) rfl hown (mvT hZ (w 301 rfl)) (mvT hZ (w 302 rfl)) (mvT hZ (w 304 rfl)) (by decide) (backOf (W := 1) (rm48_3 l Z a0 hw [] b1 r0 h1 n0 o13 A1 f2 g17 f3 f4 f5) hZ (w 304 rfl) (w 294 rfl) (by decide) (by decide)) (g := (mkF m 9 #[lR r0] [vI2, (.ref r0), (.ref b1), (.ref b1)])) rfl (by rw [hml]; rfl) (Steps.refl _) (a := b1) (argsL := [(.ref r0), vI2]) (rest := [(.ref b1)]) (lenOf pd__Ljava_util_List_I_V rfl) rfl (own_W rfl) (hb hby d46_9) (fun _ _ => ⟨rfl, E14, (by decide : 1 + 0 ≤ _), (by decide : 4 + 0 ≤ _)⟩))
  obtain ⟨rfl, N18q, K18, f19, f20, f21, f22⟩ := hQ18
  have N18 := Fr.app N14 N18q
  have f23 := (A1.keep K18)
  have kp24 : Keep h0 h1 [] := (Keep.refl h0 []).ext E1
  have kp25 : Keep h0 T18.heap [] := kp24.trans K18 (allS (Or.inr (Nat.le_of_eq g1.symm)) all0)
  refine ⟨some (.ref b1), _, _, _, _, nofun, X18, by decide, by decide, ?_, fun fs hr => ?_⟩
  · exact ⟨b1, rfl, N18, kp25, (Nat.le_of_eq g1.symm), f23, f19, f20, f21, f22⟩
  · show SG p e below s₁ (mkF m 0 #[lR r0] []) _
    refine st1 _ ?_
    refine qd X1 hx hby d46_3 ?_
    refine qaN X1 hx hby d46_4 ?_
    refine qaN X1 hx hby d46_5 ?_
    refine st14.trans ?_
    refine st18.trans ?_
    exact retOut X18 hx (i := .areturn) hret rfl (Or.inr (Or.inr (Or.inr (Or.inr ⟨rfl, rfl, rfl⟩)))) (hb hby d46_12) hr
def Q49_4 (Z : State)  (h0 : Heap) (n0 : Nat) (v : Option Value) (h : Heap) (L : List Loc) : Prop := v = some vI1 ∧ Fr n0 L ∧ h = h0
theorem rm49_4 (l : Launch) (Z : State) (a0 : Array Value) (hw : own_HW a0 Z) (ws : List Jvm.Cond) (r0 : Addr) (h0 : Heap) (n0 : Nat) (O0 : Old Z n0 h0) (f1 : Fld Z h0 r0 cs33 "cursor" "I" vI0) (f3 : Fld Z h0 r0 cs33 "size" "I" vI2) :
    own_MF l mN30 jdk_53_method_3_code 1 (some .boolean) ws rR0_0_0_0 Z h0 #[(.ref r0)] (Q49_4 Z  h0 n0) := by
  refine own_open (plainFor_of_name pn_java_util_ImmutableCollections_ListItr) (L0 := #[lR r0]) (fun _ => by first | (simp [entryFrame, mkF, argsToLocals, Value.category]; done) | rfl) ?_
  intro p e s m below meth c s₁ hx hby hml hret hnn hZ hown X0 e0
  have N0 := Fr.nil n0
  obtain ⟨T2, X2, e2, st2⟩ := getF X0 hx hZ hown (host := "") (Or.inl (ww hw 310 rfl)) Via.refl e0 f1 (g := (mkF m 1 #[lR r0] [(.ref r0)])) rfl rfl (hb hby d49_1)
  obtain ⟨T4, X4, e4, st4⟩ := getF X2 hx hZ hown (host := "") (Or.inl (ww hw 308 rfl)) Via.refl e2 f3 (g := (mkF m 5 #[lR r0] [(.ref r0), vI0])) rfl rfl (hb hby d49_5)
  refine ⟨some vI1, _, _, _, _, nofun, X4, by decide, by decide, ?_, fun fs hr => ?_⟩
  · rw [e4]; exact ⟨rfl, N0, rfl⟩
  · show SG p e below s₁ (mkF m 0 #[lR r0] []) _
    refine qaN X0 hx hby d49_0 ?_
    refine st2 _ ?_
    refine qaN X2 hx hby d49_4 ?_
    refine st4 _ ?_
    refine XS.icmpNo X4.here hx rfl (hb hby d49_8) rfl (feq (by decide : ¬ ((0 : Int32) = (2 : Int32)))).1 ?_
    refine qc X4 hx hby d49_11 ?_
    refine XS.goto X4.here hx rfl (pc0 := 12) (pc' := 16) rfl (hb hby d49_12) (by decide) (by decide) ?_
    exact retN X4 hx (t := .boolean) hret (by simp) (hb hby d49_16) hr
def Q54_2 (Z : State) (r0 r1 r2 : Addr) (h0 : Heap) (n0 : Nat) (v : Option Value) (h : Heap) (L : List Loc) : Prop := v = some (.ref r2) ∧ Fr n0 L ∧ Keep h0 h [r0] ∧ Fld Z h r0 cs33 "cursor" "I" vI1 ∧ Fld Z h r0 cs33 "list" cs20 (.ref r1) ∧ Fld Z h r0 cs33 "size" "I" vI2 ∧ Fld Z h r0 cs33 cs34 "Z" vI0
theorem rm54_2 (l : Launch) (Z : State) (a0 : Array Value) (hw : own_HW a0 Z) (ws : List Jvm.Cond) (r0 r1 r2 : Addr) (h0 : Heap) (n0 : Nat) (O0 : Old Z n0 h0) (f1 : Fld Z h0 r0 cs33 "cursor" "I" vI0) (f3 : Fld Z h0 r0 cs33 "list" cs20 (.ref r1)) (f5 : Exa Z h0 r1 cs45) (f6 : Fld Z h0 r1 cs45 "e0" cs46 (.ref r2)) (f8 : Exa Z h0 r0 cs33) (g9 : n0 ≤ r0) (f11 : Fld Z h0 r0 cs33 "size" "I" vI2) (f13 : Fld Z h0 r0 cs33 cs34 "Z" vI0) :
    MetFree l mN67 (head1 (Jvm.Cond.codeWith mN67 jdk_53_method_4_code 3 (some (.object cs5)) [((0 : Nat), (24 : Nat), (25 : Nat), (30 : Nat))] :: ws) rR1_0_0_13) (fun a U => a = #[(.ref r0)] ∧ Z.Warmed39 U.vm ∧ U.heap = h0) (fun _ _ _ _ _ => True) (fun _ U o U' => ∃ v L, o = .returned v ∧ Q54_2 Z r0 r1 r2 h0 n0 v U'.heap L ∧ FrameEnd U o U' L rR1_0_0_13.cells rR1_0_0_13.slots) := by
  refine MetFree.of_bodySF (plainFor_of_name pn_java_util_ImmutableCollections_ListItr) hisWith ?_
  intro p e s m args below meth c s₁ Bd hml0 hP hK
  obtain ⟨rfl, hZ, hh⟩ := hP
  have hx := Bd.exec
  have hby := Bd.bytes
  have hml : c.maxLocals = 3 := hml0
  have hown : s.vm.findClass cs33 = some m.cls := findClass_of_methodNamed Bd.named
  have X0 : Stand p l e rR1_0_0_13 s m #[(.ref r0)] below meth c s₁ [] 0 0 := Stand.of_body Bd
  have e0 : s₁.heap = h0 := by rw [← hh, Bd.state]; rfl
  have N0 := Fr.nil n0; have w := @ww Z a0 hw
  have pre0 : ∀ t, Steps p.tables e below (s₁.setTop (mkF m 0 #[lR r0, lU, lU] [])) t → Steps p.tables e below (s₁.setTop (entryFrame m #[(.ref r0)] 3)) t := fun t k => castTop (by first | (simp [entryFrame, mkF, argsToLocals, Value.category]; done) | rfl) k
  obtain ⟨T2, X2, e2, st2⟩ := getF X0 hx hZ hown (host := "") (Or.inl (w 310 rfl)) Via.refl e0 f1 (g := (mkF m 1 #[lR r0, lU, lU] [(.ref r0)])) rfl rfl (hb hby d54_1)
  obtain ⟨T4, X4, e4, st4⟩ := getF X2 hx hZ hown (host := "") (Or.inl (w 306 rfl)) Via.refl e2 f3 (g := (mkF m 6 #[lR r0, lV vI0, lU] [(.ref r0)])) rfl rfl (hb hby d54_6)
  obtain ⟨_, T7, Lc7, X7, hQ7, st7⟩ := own_cI (xi := mN68) X4 hx hZ hown e4 (rm55_1 l Z a0 hw [] r1 r2 h0 n0 O0 f6) f5 (w 352 rfl) (w 353 rfl) (w 354 rfl) (w 355 rfl) (w 356 rfl) (w 357 rfl) (w 358 rfl) (w 359 rfl) (w 360 rfl) (w 157 rfl) (by decide) (W := 0) (by decide) (by decide) (by decide) (by decide) (g := (mkF m 10 #[lR r0, lV vI0, lU] [vI0, (.ref r1)])) rfl (by rw [hml]; rfl) (argsL := [vI0]) (rest := []) (lenOf pd__I_Ljava_lang_Object_ rfl) rfl (own_W rfl) (hb hby d54_10)
  obtain ⟨rfl, N7q, E7⟩ := hQ7
  have N7 := Fr.app N0 N7q
  obtain ⟨T10, h10, X10, e10, W10, st10⟩ := putF X7 hx hZ hown (host := "") (Or.inl (w 310 rfl)) Via.refl E7 f1 f8 (Or.inl (w 311 rfl)) (w 293 rfl) (ty := .int) (by decide) rfl rfl (g := (mkF m 20 #[lR r0, lV vI0, lR r2] [vI1, (.ref r0)])) rfl rfl (hb hby d54_20)
  have Fw10 := f1.same W10
  have N10 := Fr.snoc X10 N7 g9
  have f12 := (f11.other W10 (Or.inr (slot_ne (Or.inr (w 309 rfl)) (Or.inl (w 311 rfl)) (by decide) (t := .int) (t' := .int) (by decide) (by decide))))
  have f14 := (f13.other W10 (Or.inr (slot_ne (Or.inr (w 313 rfl)) (Or.inl (w 311 rfl)) (by decide) (t := .boolean) (t' := .int) (by decide) (by decide))))
  have f15 := (f3.other W10 (Or.inr (slot_ne (Or.inr (w 307 rfl)) (Or.inl (w 311 rfl)) (by decide) (t := (.object cs11)) (t' := .int) (by decide) (by decide))))
  have kp16 : Keep h0 h10 [r0] := (Keep.refl h0 [r0]).wr W10 (Or.inl (List.mem_of_getElem? (i := 0) rfl))
  obtain ⟨fs, hr, hrun, hended, hW, hsame⟩ := X10.leave (v := some (.ref r2)) (fun h => by rw [Bd.returns] at h; cases h)
  refine ⟨_, _, pre0 _ ?_, hrun, hended, _, _, rfl, ?_, ⟨_, rfl⟩, hW, hsame.mono (by decide) (by decide)⟩
  · show SG p e below s₁ (mkF m 0 #[lR r0, lU, lU] []) _
    refine qaN X0 hx hby d54_0 ?_
    refine st2 _ ?_
    refine XS.istoreN X2.here hx rfl (hb hby d54_4) rfl (l' := #[lR r0, lV vI0, lU]) rfl ?_
    refine qaN X2 hx hby d54_5 ?_
    refine st4 _ ?_
    refine qiN X4 hx hby d54_9 ?_
    refine st7 _ ?_
    refine XS.astoreN X7.here hx rfl (hb hby d54_15) rfl rfl (l' := #[lR r0, lV vI0, lR r2]) rfl ?_
    refine qaN X7 hx hby d54_16 ?_
    refine qiN X7 hx hby d54_17 ?_
    refine qc X7 hx hby d54_18 ?_
    refine XS.iadd X7.here hx rfl (hb hby d54_19) rfl ?_
    refine st10 _ ?_
    refine qaN X10 hx hby d54_23 ?_
    exact retOut X10 hx (i := .areturn) Bd.returns rfl (Or.inr (Or.inr (Or.inr (Or.inr ⟨rfl, rfl, rfl⟩)))) (hb hby d54_24) hr
  · show Q54_2 Z r0 r1 r2 h0 n0 _ T10.heap _
    rw [e10]
    exact ⟨rfl, N10, kp16, Fw10, f15, f12, f14⟩
def Q49_5 (Z : State)  (h0 : Heap) (n0 : Nat) (v : Option Value) (h : Heap) (L : List Loc) : Prop := v = some vI1 ∧ Fr n0 L ∧ h = h0
theorem rm49_5 (l : Launch) (Z : State) (a0 : Array Value) (hw : own_HW a0 Z) (ws : List Jvm.Cond) (r0 : Addr) (h0 : Heap) (n0 : Nat) (O0 : Old Z n0 h0) (f1 : Fld Z h0 r0 cs33 "cursor" "I" vI1) (f3 : Fld Z h0 r0 cs33 "size" "I" vI2) :
    own_MF l mN30 jdk_53_method_3_code 1 (some .boolean) ws rR0_0_0_0 Z h0 #[(.ref r0)] (Q49_5 Z  h0 n0) := by
  refine own_open (plainFor_of_name pn_java_util_ImmutableCollections_ListItr) (L0 := #[lR r0]) (fun _ => by first | (simp [entryFrame, mkF, argsToLocals, Value.category]; done) | rfl) ?_
  intro p e s m below meth c s₁ hx hby hml hret hnn hZ hown X0 e0
  have N0 := Fr.nil n0
  obtain ⟨T2, X2, e2, st2⟩ := getF X0 hx hZ hown (host := "") (Or.inl (ww hw 310 rfl)) Via.refl e0 f1 (g := (mkF m 1 #[lR r0] [(.ref r0)])) rfl rfl (hb hby d49_1)
  obtain ⟨T4, X4, e4, st4⟩ := getF X2 hx hZ hown (host := "") (Or.inl (ww hw 308 rfl)) Via.refl e2 f3 (g := (mkF m 5 #[lR r0] [(.ref r0), vI1])) rfl rfl (hb hby d49_5)
  refine ⟨some vI1, _, _, _, _, nofun, X4, by decide, by decide, ?_, fun fs hr => ?_⟩
  · rw [e4]; exact ⟨rfl, N0, rfl⟩
  · show SG p e below s₁ (mkF m 0 #[lR r0] []) _
    refine qaN X0 hx hby d49_0 ?_
    refine st2 _ ?_
    refine qaN X2 hx hby d49_4 ?_
    refine st4 _ ?_
    refine XS.icmpNo X4.here hx rfl (hb hby d49_8) rfl (feq (by decide : ¬ ((1 : Int32) = (2 : Int32)))).1 ?_
    refine qc X4 hx hby d49_11 ?_
    refine XS.goto X4.here hx rfl (pc0 := 12) (pc' := 16) rfl (hb hby d49_12) (by decide) (by decide) ?_
    exact retN X4 hx (t := .boolean) hret (by simp) (hb hby d49_16) hr
theorem d45_74 : DK cB45 74 (.aload_n 2) 1 := by decide +kernel
theorem d45_75 : DK cB45 75 (.bipush 44) 2 := by decide +kernel
theorem d45_77 : DK cB45 77 (.invokevirtual 97) 3 := by decide +kernel
theorem d45_80 : DK cB45 80 (.bipush 32) 2 := by decide +kernel
theorem d45_82 : DK cB45 82 (.invokevirtual 97) 3 := by decide +kernel
theorem d45_85 : DK cB45 85 (.pop) 1 := by decide +kernel
theorem d45_86 : DK cB45 86 (.goto (-54)) 3 := by decide +kernel
theorem d55_9 : DK cB55 9 (.iload_n 1) 1 := by decide +kernel
theorem d55_10 : DK cB55 10 (.iconst 1) 1 := by decide +kernel
theorem d55_11 : DK cB55 11 (.if_icmp .ne 18) 3 := by decide +kernel
theorem d55_14 : DK cB55 14 (.aload_n 0) 1 := by decide +kernel
theorem d55_15 : DK cB55 15 (.getfield 24) 3 := by decide +kernel
theorem d55_18 : DK cB55 18 (.getstatic 19) 3 := by decide +kernel
theorem d55_21 : DK cB55 21 (.if_acmp .eq 8) 3 := by decide +kernel
theorem d55_24 : DK cB55 24 (.aload_n 0) 1 := by decide +kernel
theorem d55_25 : DK cB55 25 (.getfield 24) 3 := by decide +kernel
theorem d55_28 : DK cB55 28 (.areturn) 1 := by decide +kernel
def Q55_2 (Z : State) (r1 : Addr) (h0 : Heap) (n0 : Nat) (v : Option Value) (h : Heap) (L : List Loc) : Prop := v = some (.ref r1) ∧ Fr n0 L ∧ h = h0
theorem rm55_2 (l : Launch) (Z : State) (a0 : Array Value) (hw : own_HW a0 Z) (ws : List Jvm.Cond) (r0 r1 r2 : Addr) (h0 : Heap) (n0 : Nat) (O0 : Old Z n0 h0) (f1 : Fld Z h0 r0 cs45 "e1" cs46 (.ref r1)) (f3 : Sta Z Z.heap cs12 "EMPTY" cs46 (.ref r2)) (f6 : Exa Z Z.heap r2 cs5) (g7 : n0 ≤ r1) :
    own_MF l mN66 jdk_44_method_5_code 2 (some (.object cs5)) ws rR0_0_0_0 Z h0 #[(.ref r0), vI1] (Q55_2 Z r1 h0 n0) := by
  refine own_open (plainFor_of_name pn_java_util_ImmutableCollections_List12) (L0 := #[lR r0, lV vI1]) (fun _ => by first | (simp [entryFrame, mkF, argsToLocals, Value.category]; done) | rfl) ?_
  intro p e s m below meth c s₁ hx hby hml hret hnn hZ hown X0 e0
  have N0 := Fr.nil n0
  obtain ⟨T2, X2, e2, st2⟩ := getF X0 hx hZ hown (host := "") (Or.inl (ww hw 183 rfl)) Via.refl e0 f1 (g := (mkF m 15 #[lR r0, lV vI1] [(.ref r0)])) rfl rfl (hb hby d55_15)
  have f4 := f3.ext O0.2
  obtain ⟨T5, X5, e5, st5⟩ := getS2 X2 hx hZ hown (Or.inr (ww hw 182 rfl)) Via.refl e2 f4 (g := (mkF m 18 #[lR r0, lV vI1] [(.ref r1)])) rfl (hb hby d55_18)
  have n8 := Old.ne O0 f6.lt g7
  obtain ⟨T9, X9, e9, st9⟩ := getF X5 hx hZ hown (host := "") (Or.inl (ww hw 183 rfl)) Via.refl e5 f1 (g := (mkF m 25 #[lR r0, lV vI1] [(.ref r0)])) rfl rfl (hb hby d55_25)
  refine ⟨some (.ref r1), _, _, _, _, nofun, X9, by decide, by decide, ?_, fun fs hr => ?_⟩
  · rw [e9]; exact ⟨rfl, N0, rfl⟩
  · show SG p e below s₁ (mkF m 0 #[lR r0, lV vI1] []) _
    refine qiN X0 hx hby d55_0 ?_
    refine XS.ifYes X0.here hx rfl (pc0 := 1) (pc' := 9) rfl (hb hby d55_1) rfl ((if0 _ _).trans (feq (by decide : ¬ ((1 : Int32) = (0 : Int32)))).2) (by decide) (by decide) ?_
    refine qiN X0 hx hby d55_9 ?_
    refine qc X0 hx hby d55_10 ?_
    refine XS.icmpNo X0.here hx rfl (hb hby d55_11) rfl (teq (rfl : (1 : Int32) = (1 : Int32))).2 ?_
    refine qaN X0 hx hby d55_14 ?_
    refine st2 _ ?_
    refine st5 _ ?_
    refine Jvm.RoadKit.acmp (g := (mkF m 21 #[lR r0, lV vI1] [(.ref r2), (.ref r1)])) X5 hx rfl rfl rfl (pc0 := 21) (pc' := 24) (same := false) rfl (hb hby d55_21) rfl (decide_eq_false fun q => (Ne.symm n8) (Value.ref.inj q)) (by decide) (by decide) ?_
    refine qaN X5 hx hby d55_24 ?_
    refine st9 _ ?_
    exact retOut X9 hx (i := .areturn) hret rfl (Or.inr (Or.inr (Or.inr (Or.inr ⟨rfl, rfl, rfl⟩)))) (hb hby d55_28) hr
def Q54_3 (Z : State) (r0 r1 r2 : Addr) (h0 : Heap) (n0 : Nat) (v : Option Value) (h : Heap) (L : List Loc) : Prop := v = some (.ref r2) ∧ Fr n0 L ∧ Keep h0 h [r0] ∧ Fld Z h r0 cs33 "cursor" "I" vI2 ∧ Fld Z h r0 cs33 "list" cs20 (.ref r1) ∧ Fld Z h r0 cs33 "size" "I" vI2 ∧ Fld Z h r0 cs33 cs34 "Z" vI0
theorem rm54_3 (l : Launch) (Z : State) (a0 : Array Value) (hw : own_HW a0 Z) (ws : List Jvm.Cond) (r0 r1 : Addr) (r2 r3 : Addr) (h0 : Heap) (n0 : Nat) (O0 : Old Z n0 h0) (f1 : Fld Z h0 r0 cs33 "cursor" "I" vI1) (f3 : Fld Z h0 r0 cs33 "list" cs20 (.ref r1)) (f5 : Exa Z h0 r1 cs45) (f6 : Fld Z h0 r1 cs45 "e1" cs46 (.ref r2)) (f7 : Sta Z Z.heap cs12 "EMPTY" cs46 (.ref r3)) (f8 : Exa Z Z.heap r3 cs5) (g9 : n0 ≤ r2) (f11 : Exa Z h0 r0 cs33) (g12 : n0 ≤ r0) (f14 : Fld Z h0 r0 cs33 "size" "I" vI2) (f16 : Fld Z h0 r0 cs33 cs34 "Z" vI0) :
    MetFree l mN67 (head1 (Jvm.Cond.codeWith mN67 jdk_53_method_4_code 3 (some (.object cs5)) [((0 : Nat), (24 : Nat), (25 : Nat), (30 : Nat))] :: ws) rR1_0_0_13) (fun a U => a = #[(.ref r0)] ∧ Z.Warmed39 U.vm ∧ U.heap = h0) (fun _ _ _ _ _ => True) (fun _ U o U' => ∃ v L, o = .returned v ∧ Q54_3 Z r0 r1 r2 h0 n0 v U'.heap L ∧ FrameEnd U o U' L rR1_0_0_13.cells rR1_0_0_13.slots) := by
  refine MetFree.of_bodySF (plainFor_of_name pn_java_util_ImmutableCollections_ListItr) hisWith ?_
  intro p e s m args below meth c s₁ Bd hml0 hP hK
  obtain ⟨rfl, hZ, hh⟩ := hP
  have hx := Bd.exec
  have hby := Bd.bytes
  have hml : c.maxLocals = 3 := hml0
  have hown : s.vm.findClass cs33 = some m.cls := findClass_of_methodNamed Bd.named
  have X0 : Stand p l e rR1_0_0_13 s m #[(.ref r0)] below meth c s₁ [] 0 0 := Stand.of_body Bd
  have e0 : s₁.heap = h0 := by rw [← hh, Bd.state]; rfl
  have N0 := Fr.nil n0; have w := @ww Z a0 hw
  have pre0 : ∀ t, Steps p.tables e below (s₁.setTop (mkF m 0 #[lR r0, lU, lU] [])) t → Steps p.tables e below (s₁.setTop (entryFrame m #[(.ref r0)] 3)) t := fun t k => castTop (by first | (simp [entryFrame, mkF, argsToLocals, Value.category]; done) | rfl) k
  obtain ⟨T2, X2, e2, st2⟩ := getF X0 hx hZ hown (host := "") (Or.inl (w 310 rfl)) Via.refl e0 f1 (g := (mkF m 1 #[lR r0, lU, lU] [(.ref r0)])) rfl rfl (hb hby d54_1)
  obtain ⟨T4, X4, e4, st4⟩ := getF X2 hx hZ hown (host := "") (Or.inl (w 306 rfl)) Via.refl e2 f3 (g := (mkF m 6 #[lR r0, lV vI1, lU] [(.ref r0)])) rfl rfl (hb hby d54_6)
  obtain ⟨_, T10, Lc10, X10, hQ10, st10⟩ := own_cI (xi := mN68) X4 hx hZ hown e4 (rm55_2 l Z a0 hw [] r1 r2 r3 h0 n0 O0 f6 f7 f8 g9) f5 (w 352 rfl) (w 353 rfl) (w 354 rfl) (w 355 rfl) (w 356 rfl) (w 357 rfl) (w 358 rfl) (w 359 rfl) (w 360 rfl) (w 157 rfl) (by decide) (W := 0) (by decide) (by decide) (by decide) (by decide) (g := (mkF m 10 #[lR r0, lV vI1, lU] [vI1, (.ref r1)])) rfl (by rw [hml]; rfl) (argsL := [vI1]) (rest := []) (lenOf pd__I_Ljava_lang_Object_ rfl) rfl (own_W rfl) (hb hby d54_10)
  obtain ⟨rfl, N10q, E10⟩ := hQ10
  have N10 := Fr.app N0 N10q
  obtain ⟨T13, h13, X13, e13, W13, st13⟩ := putF X10 hx hZ hown (host := "") (Or.inl (w 310 rfl)) Via.refl E10 f1 f11 (Or.inl (w 311 rfl)) (w 293 rfl) (ty := .int) (by decide) rfl rfl (g := (mkF m 20 #[lR r0, lV vI1, lR r2] [vI2, (.ref r0)])) rfl rfl (hb hby d54_20)
  have Fw13 := f1.same W13
  have N13 := Fr.snoc X13 N10 g12
  have f15 := (f14.other W13 (Or.inr (slot_ne (Or.inr (w 309 rfl)) (Or.inl (w 311 rfl)) (by decide) (t := .int) (t' := .int) (by decide) (by decide))))
  have f17 := (f16.other W13 (Or.inr (slot_ne (Or.inr (w 313 rfl)) (Or.inl (w 311 rfl)) (by decide) (t := .boolean) (t' := .int) (by decide) (by decide))))
  have f18 := (f3.other W13 (Or.inr (slot_ne (Or.inr (w 307 rfl)) (Or.inl (w 311 rfl)) (by decide) (t := (.object cs11)) (t' := .int) (by decide) (by decide))))
  have kp19 : Keep h0 h13 [r0] := (Keep.refl h0 [r0]).wr W13 (Or.inl (List.mem_of_getElem? (i := 0) rfl))
  obtain ⟨fs, hr, hrun, hended, hW, hsame⟩ := X13.leave (v := some (.ref r2)) (fun h => by rw [Bd.returns] at h; cases h)
  refine ⟨_, _, pre0 _ ?_, hrun, hended, _, _, rfl, ?_, ⟨_, rfl⟩, hW, hsame.mono (by decide) (by decide)⟩
  · show SG p e below s₁ (mkF m 0 #[lR r0, lU, lU] []) _
    refine qaN X0 hx hby d54_0 ?_
    refine st2 _ ?_
    refine XS.istoreN X2.here hx rfl (hb hby d54_4) rfl (l' := #[lR r0, lV vI1, lU]) rfl ?_
    refine qaN X2 hx hby d54_5 ?_
    refine st4 _ ?_
    refine qiN X4 hx hby d54_9 ?_
    refine st10 _ ?_
    refine XS.astoreN X10.here hx rfl (hb hby d54_15) rfl rfl (l' := #[lR r0, lV vI1, lR r2]) rfl ?_
    refine qaN X10 hx hby d54_16 ?_
    refine qiN X10 hx hby d54_17 ?_
    refine qc X10 hx hby d54_18 ?_
    refine XS.iadd X10.here hx rfl (hb hby d54_19) rfl ?_
    refine st13 _ ?_
    refine qaN X13 hx hby d54_23 ?_
    exact retOut X13 hx (i := .areturn) Bd.returns rfl (Or.inr (Or.inr (Or.inr (Or.inr ⟨rfl, rfl, rfl⟩)))) (hb hby d54_24) hr
  · show Q54_3 Z r0 r1 r2 h0 n0 _ T13.heap _
    rw [e13]
    exact ⟨rfl, N13, kp19, Fw13, f18, f15, f17⟩
def Q43_4 (Z : State) (r0 : Addr) (x4 x5 : Int32) (r7 : Addr) (c8 : ClassId) (x9 x10 : Int32) (h0 : Heap) (n0 : Nat) (v : Option Value) (h : Heap) (L : List Loc) : Prop := v = some (.ref r0) ∧ Fr n0 L ∧ Keep h0 h [r7, r0] ∧ Arv Z h r7 c8 .byte (16 : Int32) [vI91, (.int x9), (.int x10), vI44, vI32, (.int x4), (.int x5), vI0, vI0, vI0, vI0, vI0, vI0, vI0, vI0, vI0] vI0 ∧ Fld Z h r0 cs22 "count" "I" vI7 ∧ Fld Z h r0 cs22 "value" "[B" (.ref r7) ∧ Fld Z h r0 cs22 "coder" "B" vI0
theorem rm43_4 (l : Launch) (Z : State) (a0 : Array Value) (hw : own_HW a0 Z) (ws : List Jvm.Cond) (r0 r1 r2 : Addr) (c3 : ClassId) (x4 x5 x6 : Int32) (r7 : Addr) (c8 : ClassId) (x9 x10 : Int32) (h0 : Heap) (n0 : Nat) (O0 : Old Z n0 h0) (f1 : Exa Z h0 r1 cs8) (f3 : Exa Z h0 r0 cs23) (f4 : Fld Z h0 r1 cs8 "value" "[B" (.ref r2)) (f5 : Arv Z h0 r2 c3 .byte (2 : Int32) [(.int x4), (.int x5)] vI0) (f6 : Sta Z Z.heap cs8 cs9 "Z" (.int x6)) (hc7 : ¬ (x6 = (0 : Int32))) (f8 : Fld Z h0 r1 cs8 "coder" "B" vI0) (f9 : Fld Z h0 r0 cs22 "count" "I" vI5) (f10 : Fld Z h0 r0 cs22 "value" "[B" (.ref r7)) (f11 : Arv Z h0 r7 c8 .byte (16 : Int32) [vI91, (.int x9), (.int x10), vI44, vI32, vI0, vI0, vI0, vI0, vI0, vI0, vI0, vI0, vI0, vI0, vI0] vI0) (f12 : Fld Z h0 r0 cs22 "coder" "B" vI0) (g13 : n0 ≤ r7) (n14 : r0 ≠ r7) (g15 : n0 ≤ r0) :
    own_MF l mN36 jdk_67_method_6_code 2 (some (.object cs23)) ws rR5_0_0_80 Z h0 #[(.ref r0), (.ref r1)] (Q43_4 Z r0 x4 x5 r7 c8 x9 x10 h0 n0) := by
  refine own_open (plainFor_of_name pn_java_lang_StringBuilder) (L0 := #[lR r0, lR r1]) (fun _ => by first | (simp [entryFrame, mkF, argsToLocals, Value.category]; done) | rfl) ?_
  intro p e s m below meth c s₁ hx hby hml hret hnn hZ hown X0 e0
  have N0 := Fr.nil n0; have w := @ww Z a0 hw
  obtain ⟨_, T2, Lc2, X2, hQ2, st2⟩ := own_cS X0 hx hZ hown e0 (rm44_2 l Z a0 hw [] r1 h0 n0 O0 f1) (w 278 rfl) (w 279 rfl) (w 3 rfl) (w 280 rfl) (by decide) (W := 1) (by decide) (by decide) (by decide) (by decide) (g := (mkF m 2 #[lR r0, lR r1] [(.ref r1), (.ref r0)])) rfl (by rw [hml]; rfl) (argsL := [(.ref r1)]) (rest := [(.ref r0)]) (lenOf pd__Ljava_lang_Object__Ljava_lang_String_ rfl) rfl (own_W rfl) (hb hby d43_2)
  obtain ⟨rfl, N2q, E2⟩ := hQ2
  have N2 := Fr.app N0 N2q
  obtain ⟨_, T16, Lc16, X16, hQ16, st16⟩ := own_cV X2 hx hZ hown E2 (rm32_2 l Z a0 hw [] r0 r1 r2 (2 : Int32) c3 ([(.int x4), (.int x5)]) x6 (0 : Int32) (5 : Int32) r7 (16 : Int32) c8 ([vI91, (.int x9), (.int x10), vI44, vI32, vI0, vI0, vI0, vI0, vI0, vI0, vI0, vI0, vI0, vI0, vI0]) (0 : Int32) h0 n0 O0 f1 f4 f5 f6 hc7 f8 f9 f3 f10 f11 f12 (by decide) (by decide) (by decide) (own_lenK (n := 2) rfl (by decide) : [(.int x4), (.int x5)].length = ((2 : Int32)).toNatClampNeg) (own_lenK (n := 16) rfl (by decide) : [vI91, (.int x9), (.int x10), vI44, vI32, vI0, vI0, vI0, vI0, vI0, vI0, vI0, vI0, vI0, vI0, vI0].length = ((16 : Int32)).toNatClampNeg) (by decide) (by decide) (by decide) g13 n14 g15) f3 (w 365 rfl) (w 214 rfl) (w 216 rfl) (w 215 rfl) (w 217 rfl) (w 194 rfl) (by decide) (W := 0) (by decide) (by decide) (by decide) (by decide) (g := (mkF m 5 #[lR r0, lR r1] [(.ref r1), (.ref r0)])) rfl (by rw [hml]; rfl) (argsL := [(.ref r1)]) (rest := []) (lenOf pd__Ljava_lang_String__Ljava_lang_StringBuilder_ rfl) rfl (own_W rfl) (hb hby d43_5)
  obtain ⟨rfl, N16q, K16, f17, f18, f19, f20⟩ := hQ16
  have N16 := Fr.app N2 N16q
  have f21 : Arv Z T16.heap r7 c8 .byte (16 : Int32) [vI91, (.int x9), (.int x10), vI44, vI32, (.int x4), (.int x5), vI0, vI0, vI0, vI0, vI0, vI0, vI0, vI0, vI0] vI0 := own_cpx (by decide : (((5 : Int32) <<< ((0 : Int32) &&& 31))).toNatClampNeg = 5) (by decide : (((5 : Int32) <<< ((0 : Int32) &&& 31))).toNatClampNeg + ((2 : Int32)).toNatClampNeg = 7) f17
  have kp22 : Keep h0 T16.heap [r7, r0] := (Keep.refl h0 [r7, r0]).trans K16 (allS (Or.inl (List.mem_of_getElem? (i := 0) rfl)) (allS (Or.inl (List.mem_of_getElem? (i := 1) rfl)) all0))
  refine ⟨some (.ref r0), _, _, _, _, nofun, X16, by decide, by decide, ?_, fun fs hr => ?_⟩
  · exact ⟨rfl, N16, kp22, f21, f18, f19, f20⟩
  · show SG p e below s₁ (mkF m 0 #[lR r0, lR r1] []) _
    refine qaN X0 hx hby d43_0 ?_
    refine qaN X0 hx hby d43_1 ?_
    refine st2 _ ?_
    refine st16 _ ?_
    exact retOut X16 hx (i := .areturn) hret rfl (Or.inr (Or.inr (Or.inr (Or.inr ⟨rfl, rfl, rfl⟩)))) (hb hby d43_8) hr
def Q49_6 (Z : State)  (h0 : Heap) (n0 : Nat) (v : Option Value) (h : Heap) (L : List Loc) : Prop := v = some vI0 ∧ Fr n0 L ∧ h = h0
theorem rm49_6 (l : Launch) (Z : State) (a0 : Array Value) (hw : own_HW a0 Z) (ws : List Jvm.Cond) (r0 : Addr) (h0 : Heap) (n0 : Nat) (O0 : Old Z n0 h0) (f1 : Fld Z h0 r0 cs33 "cursor" "I" vI2) (f3 : Fld Z h0 r0 cs33 "size" "I" vI2) :
    own_MF l mN30 jdk_53_method_3_code 1 (some .boolean) ws rR0_0_0_0 Z h0 #[(.ref r0)] (Q49_6 Z  h0 n0) := by
  refine own_open (plainFor_of_name pn_java_util_ImmutableCollections_ListItr) (L0 := #[lR r0]) (fun _ => by first | (simp [entryFrame, mkF, argsToLocals, Value.category]; done) | rfl) ?_
  intro p e s m below meth c s₁ hx hby hml hret hnn hZ hown X0 e0
  have N0 := Fr.nil n0
  obtain ⟨T2, X2, e2, st2⟩ := getF X0 hx hZ hown (host := "") (Or.inl (ww hw 310 rfl)) Via.refl e0 f1 (g := (mkF m 1 #[lR r0] [(.ref r0)])) rfl rfl (hb hby d49_1)
  obtain ⟨T4, X4, e4, st4⟩ := getF X2 hx hZ hown (host := "") (Or.inl (ww hw 308 rfl)) Via.refl e2 f3 (g := (mkF m 5 #[lR r0] [(.ref r0), vI2])) rfl rfl (hb hby d49_5)
  refine ⟨some vI0, _, _, _, _, nofun, X4, by decide, by decide, ?_, fun fs hr => ?_⟩
  · rw [e4]; exact ⟨rfl, N0, rfl⟩
  · show SG p e below s₁ (mkF m 0 #[lR r0] []) _
    refine qaN X0 hx hby d49_0 ?_
    refine st2 _ ?_
    refine qaN X2 hx hby d49_4 ?_
    refine st4 _ ?_
    refine XS.icmpYes X4.here hx rfl (pc0 := 8) (pc' := 15) rfl (hb hby d49_8) rfl (teq (rfl : (2 : Int32) = (2 : Int32))).1 (by decide) (by decide) ?_
    refine qc X4 hx hby d49_15 ?_
    exact retN X4 hx (t := .boolean) hret (by simp) (hb hby d49_16) hr
def Q45_3 (Z : State) (x7 x8 : Int32) (x11 x12 : Int32) (h0 : Heap) (n0 : Nat) (v : Option Value) (h : Heap) (L : List Loc) : Prop := ∃ (b181_0 b181_1 : Addr) (k181_0 : ClassId), v = some (.ref b181_0) ∧ Fr n0 L ∧ Keep h0 h [] ∧ h0.size ≤ b181_0 ∧ Exa Z h b181_0 cs8 ∧ Fld Z h b181_0 cs8 "coder" "B" vI0 ∧ Fld Z h b181_0 cs8 "value" "[B" (.ref b181_1) ∧ h0.size ≤ b181_1 ∧ Arv Z h b181_1 k181_0 .byte (8 : Int32) [vI91, (.int x7), (.int x8), vI44, vI32, (.int x11), (.int x12), vI93] vI0 ∧ Exa Z h b181_1 "[B" ∧ b181_0 ≠ b181_1
theorem rm45_3 (l : Launch) (Z : State) (a0 : Array Value) (hw : own_HW a0 Z) (ws : List Jvm.Cond) (r0 r1 r2 : Addr) (x3 : Int32) (r4 r5 : Addr) (c6 : ClassId) (x7 x8 : Int32) (r9 : Addr) (c10 : ClassId) (x11 x12 : Int32) (h0 : Heap) (n0 : Nat) (O0 : Old Z n0 h0) (f1 : Exa Z h0 r0 cs45) (f2 : Fld Z h0 r0 cs45 "e1" cs46 (.ref r1)) (f3 : Sta Z Z.heap cs12 "EMPTY" cs46 (.ref r2)) (f4 : Exa Z Z.heap r2 cs5) (g5 : n0 ≤ r1) (f20 : Sta Z Z.heap cs8 cs9 "Z" (.int x3)) (hc21 : ¬ (x3 = (0 : Int32))) (f49 : Fld Z h0 r0 cs45 "e0" cs46 (.ref r4)) (l50 : r0 < h0.size) (n68 : r4 ≠ r0) (f69 : Exa Z h0 r4 cs8) (f72 : Fld Z h0 r4 cs8 "value" "[B" (.ref r5)) (l73 : r4 < h0.size) (f78 : Arv Z h0 r5 c6 .byte (2 : Int32) [(.int x7), (.int x8)] vI0) (l79 : r5 < h0.size) (f84 : Fld Z h0 r4 cs8 "coder" "B" vI0) (n131 : r1 ≠ r0) (f132 : Exa Z h0 r1 cs8) (f135 : Fld Z h0 r1 cs8 "value" "[B" (.ref r9)) (l136 : r1 < h0.size) (f141 : Arv Z h0 r9 c10 .byte (2 : Int32) [(.int x11), (.int x12)] vI0) (l142 : r9 < h0.size) (f147 : Fld Z h0 r1 cs8 "coder" "B" vI0) :
    own_MF l mN31 jdk_22_method_16_code 4 (some (.object cs8)) ws rR6_5_92_97 Z h0 #[(.ref r0)] (Q45_3 Z x7 x8 x11 x12 h0 n0) := by
  refine own_open (plainFor_of_name pn_java_util_AbstractCollection) (L0 := #[lR r0, lU, lU, lU]) (fun _ => by first | (simp [entryFrame, mkF, argsToLocals, Value.category]; done) | rfl) ?_
  intro p e s m below meth c s₁ hx hby hml hret hnn hZ hown X0 e0
  have N0 := Fr.nil n0; have w := @ww Z a0 hw
  obtain ⟨cqq7, kqq7, qq7a, qq7b, qq7c⟩ := isOf hZ e0 f1
  obtain ⟨_, T6, Lc6, X6, hQ6, st6⟩ := own_fin (X0.virtualBack hx (y := mN32) (z := mN28) hown (mvT hZ (w 287 rfl)) (mvT hZ (w 288 rfl)) (nf_super (args := #[]) (mvT hZ (w 110 rfl))) (mvT hZ (w 289 rfl)) (mvT hZ (w 290 rfl)) (by decide) (backOf (W := 0) (rm46_3 l Z a0 hw [] r0 r1 r2 h0 n0 O0 f1 f2 f3 f4 g5) hZ (w 291 rfl) (w 166 rfl) (by decide) (by decide)) qq7a qq7c (g := (mkF m 1 #[lR r0, lU, lU, lU] [(.ref r0)])) rfl (by rw [hml]; rfl) (Steps.refl _) (argsL := []) (rest := []) (lenOf pd___Ljava_util_Iterator_ rfl) rfl (own_W rfl) (hb hby d45_1) (fun _ _ => ⟨rfl, e0, (by decide : 0 + 1 ≤ _), (by decide : 0 + 4 ≤ _)⟩))
  obtain ⟨b6_0, rfl, N6q, K6, f8, f9, f10, f11, f12, f13⟩ := hQ6
  have N6 := Fr.app N0 N6q
  have o14 := Old.keep O0 K6 all0
  obtain ⟨_, T15, Lc15, X15, hQ15, st15⟩ := own_cI (xi := mN33) X6 hx hZ hown rfl (rm49_4 l Z a0 hw [] b6_0 T6.heap n0 o14 f12 f11) f9 (w 314 rfl) (w 315 rfl) (w 316 rfl) (w 317 rfl) (w 318 rfl) (w 319 rfl) (w 320 rfl) (w 321 rfl) (w 322 rfl) (w 294 rfl) (by decide) (W := 0) (by decide) (by decide) (by decide) (by decide) (g := (mkF m 6 #[lR r0, lR b6_0, lU, lU] [(.ref b6_0)])) rfl (by rw [hml]; rfl) (argsL := []) (rest := []) (lenOf pd___Z rfl) rfl (own_W rfl) (hb hby d45_6)
  obtain ⟨rfl, N15q, E15⟩ := hQ15
  have N15 := Fr.app N6 N15q
  obtain ⟨T16, h16, X16, e16, E16, A16, D16, -, st16⟩ := newO X15 hx hZ hown (w 323 rfl) (w 193 rfl) (w 194 rfl) E15 (g := (mkF m 17 #[lR r0, lR b6_0, lU, lU] [])) rfl (hb hby d45_17) (by decide) (by decide)
  obtain ⟨b16, g16⟩ : ∃ z, z = T6.heap.size := ⟨_, rfl⟩
  rw [← g16] at A16 D16 st16
  have f17 : Fld Z h16 b16 cs22 "value" "[B" .null := D16 (Or.inl (w 207 rfl)) (ty := (.array .byte)) (by decide)
  have f18 : Fld Z h16 b16 cs22 "coder" "B" vI0 := D16 (Or.inl (w 209 rfl)) (ty := .byte) (by decide)
  have f19 : Fld Z h16 b16 cs22 "count" "I" vI0 := D16 (Or.inl (w 234 rfl)) (ty := .int) (by decide)
  have zz22 : n0 ≤ T6.heap.size := by rw [← o14.1]; exact o14.2.1
  have g23 := Nat.le_trans zz22 (Nat.le_of_eq g16.symm)
  have o24 := Old.ext o14 E16
  obtain ⟨_, T25, Lc25, X25, hQ25, st25⟩ := own_fin (X16.specialBack hx (y := mN12) rfl hown (mvT hZ (w 324 rfl)) (mvT hZ (w 196 rfl)) (mvT hZ (w 197 rfl)) (by decide) (backOf (W := 1) (rm30_1 l Z a0 hw [] b16 x3 h16 n0 o24 f20 hc21 A16 f17 g23 f18 f19 A16.lt) hZ (w 197 rfl) (w 194 rfl) (by decide) (by decide)) (g := (mkF m 21 #[lR r0, lR b6_0, lU, lU] [(.ref b16), (.ref b16)])) rfl (by rw [hml]; rfl) (Steps.refl _) (a := b16) (argsL := []) (rest := [(.ref b16)]) (lenOf pd___V rfl) rfl (own_W rfl) (hb hby d45_21) (fun _ _ => ⟨rfl, e16, (by decide : 2 + 1 ≤ _), (by decide : 8 + 16 ≤ _)⟩))
  obtain ⟨b25_0, k25_0, rfl, N25q, K25, f26, f27, f28, f29, f30, f31⟩ := hQ25
  have N25 := Fr.app N15 N25q
  have f32 := (A16.keep K25)
  have n33 := Nat.ne_of_lt (Nat.lt_of_lt_of_le A16.lt f29)
  have zz34 : n0 ≤ h16.size := by rw [← o24.1]; exact o24.2.1
  have g35 := Nat.le_trans zz34 f29
  have o36 := Old.keep o24 K25 (allS g23 all0)
  obtain ⟨_, T37, Lc37, X37, hQ37, st37⟩ := own_cV X25 hx hZ hown rfl (rm50_1 l Z a0 hw [] b16 (91 : Int32) (0 : Int32) b25_0 (16 : Int32) k25_0 ([vI0, vI0, vI0, vI0, vI0, vI0, vI0, vI0, vI0, vI0, vI0, vI0, vI0, vI0, vI0, vI0]) (0 : Int32) x3 T25.heap n0 o36 f28 f32 f26 f30 f27 (by decide) f20 hc21 (by decide) (by decide) g23 (Ne.symm n33) g35 (by decide) (by decide) (by decide)) f32 (w 326 rfl) (w 327 rfl) (w 329 rfl) (w 328 rfl) (w 330 rfl) (w 194 rfl) (by decide) (W := 0) (by decide) (by decide) (by decide) (by decide) (g := (mkF m 28 #[lR r0, lR b6_0, lR b16, lU] [vI91, (.ref b16)])) rfl (by rw [hml]; rfl) (argsL := [vI91]) (rest := []) (lenOf pd__C_Ljava_lang_StringBuilder_ rfl) rfl (own_W rfl) (hb hby d45_28)
  obtain ⟨rfl, N37q, K37, f38, f39, f40, f41⟩ := hQ37
  have N37 := Fr.app N25 N37q
  have f42 : Arv Z T37.heap b25_0 k25_0 .byte (16 : Int32) [vI91, vI0, vI0, vI0, vI0, vI0, vI0, vI0, vI0, vI0, vI0, vI0, vI0, vI0, vI0, vI0] vI0 := own_setx (by decide : ((0 : Int32)).toNatClampNeg = 0) f41
  have n43 := Nat.ne_of_lt (Nat.lt_of_lt_of_le f9.lt (Nat.le_of_eq g16.symm))
  have zs44 := E16.1
  have n45 := Nat.ne_of_lt (Nat.lt_of_lt_of_le (Nat.lt_of_lt_of_le f9.lt zs44) f29)
  have f46 := (((f12.ext E16).keep K25 (ninS n43 nin0)).keep K37 (ninS n43 (ninS n45 nin0)))
  have f47 := (((f10.ext E16).keep K25 (ninS n43 nin0)).keep K37 (ninS n43 (ninS n45 nin0)))
  have f48 := ((((f1.keep K6).ext E16).keep K25).keep K37)
  have zs51 := K6.1
  have n52 := Nat.ne_of_lt (Nat.lt_of_lt_of_le (Nat.lt_of_lt_of_le l50 zs51) (Nat.le_of_eq g16.symm))
  have zs53 := Nat.le_trans zs51 E16.1
  have n54 := Nat.ne_of_lt (Nat.lt_of_lt_of_le (Nat.lt_of_lt_of_le l50 zs53) f29)
  have f55 := ((((f49.keep K6 nin0).ext E16).keep K25 (ninS n52 nin0)).keep K37 (ninS n52 (ninS n54 nin0)))
  have f56 := (((f9.ext E16).keep K25).keep K37)
  have zz57 : n0 ≤ h0.size := by rw [← O0.1]; exact O0.2.1
  have g58 := Nat.le_trans zz57 f8
  have f59 := (((f11.ext E16).keep K25 (ninS n43 nin0)).keep K37 (ninS n43 (ninS n45 nin0)))
  have f60 := (((f13.ext E16).keep K25 (ninS n43 nin0)).keep K37 (ninS n43 (ninS n45 nin0)))
  have o61 := Old.keep o36 K37 (allS g23 (allS g35 all0))
  obtain ⟨cqq63, kqq63, qq63a, qq63b, qq63c⟩ := isOf hZ rfl f56
  obtain ⟨_, T62, Lc62, X62, hQ62, st62⟩ := own_finI (X37.interfaceBack hx (xi := mN70) (y := mN67) hown (mvT hZ (w 344 rfl)) (mvT hZ (w 345 rfl)) (mvT hZ (w 346 rfl)) (mvT hZ (w 347 rfl)) (mvT hZ (w 348 rfl)) (mvT hZ (w 349 rfl)) (mvT hZ (w 350 rfl)) (mvT hZ (w 321 rfl)) (by decide) (backOfWith (W := 0) (rm54_2 l Z a0 hw [] b6_0 r0 r4 T37.heap n0 o61 f46 f47 f48 f55 f56 g58 f59 f60) hZ (w 351 rfl) (w 294 rfl) (by decide) (by decide)) qq63a qq63b qq63c (g := (mkF m 33 #[lR r0, lR b6_0, lR b16, lU] [(.ref b6_0)])) rfl (by rw [hml]; rfl) (Steps.refl _) (argsL := []) (rest := []) (lenOf pd___Ljava_lang_Object_ rfl) rfl (own_W rfl) (hb hby d45_33) (fun _ _ => ⟨rfl, rfl, (by decide : 3 + 0 ≤ _), (by decide : 24 + 0 ≤ _)⟩))
  obtain ⟨rfl, N62q, K62, f64, f65, f66, f67⟩ := hQ62
  have N62 := Fr.app N37 N62q
  have f70 := (((((f69.keep K6).ext E16).keep K25).keep K37).keep K62)
  have f71 := ((f32.keep K37).keep K62)
  have n74 := Nat.ne_of_lt (Nat.lt_of_lt_of_le (Nat.lt_of_lt_of_le l73 zs51) (Nat.le_of_eq g16.symm))
  have n75 := Nat.ne_of_lt (Nat.lt_of_lt_of_le (Nat.lt_of_lt_of_le l73 zs53) f29)
  have n76 := Nat.ne_of_lt (Nat.lt_of_lt_of_le l73 f8)
  have f77 := (((((f72.keep K6 nin0).ext E16).keep K25 (ninS n74 nin0)).keep K37 (ninS n74 (ninS n75 nin0))).keep K62 (ninS n76 nin0))
  have n80 := Nat.ne_of_lt (Nat.lt_of_lt_of_le (Nat.lt_of_lt_of_le l79 zs51) (Nat.le_of_eq g16.symm))
  have n81 := Nat.ne_of_lt (Nat.lt_of_lt_of_le (Nat.lt_of_lt_of_le l79 zs53) f29)
  have n82 := Nat.ne_of_lt (Nat.lt_of_lt_of_le l79 f8)
  have f83 := (((((f78.keep K6 nin0).ext E16).keep K25 (ninS n80 nin0)).keep K37 (ninS n80 (ninS n81 nin0))).keep K62 (ninS n82 nin0))
  have f85 := (((((f84.keep K6 nin0).ext E16).keep K25 (ninS n74 nin0)).keep K37 (ninS n74 (ninS n75 nin0))).keep K62 (ninS n76 nin0))
  have f86 := (f38.keep K62 (ninS (Ne.symm n43) nin0))
  have f87 := (f39.keep K62 (ninS (Ne.symm n43) nin0))
  have f88 := (f42.keep K62 (ninS (Ne.symm n45) nin0))
  have f89 := (f40.keep K62 (ninS (Ne.symm n43) nin0))
  have o90 := Old.keep o61 K62 (allS g58 all0)
  obtain ⟨_, T91, Lc91, X91, hQ91, st91⟩ := own_cV X62 hx hZ hown rfl (rm43_2 l Z a0 hw [] b16 r4 r5 c6 x7 x8 x3 b25_0 k25_0 T62.heap n0 o90 f70 f71 f77 f83 f20 hc21 f85 f86 f87 f88 f89 g35 n33 g23) f71 (w 361 rfl) (w 274 rfl) (w 276 rfl) (w 275 rfl) (w 277 rfl) (w 194 rfl) (by decide) (W := 0) (by decide) (by decide) (by decide) (by decide) (g := (mkF m 51 #[lR r0, lR b6_0, lR b16, lR r4] [(.ref r4), (.ref b16)])) rfl (by rw [hml]; rfl) (argsL := [(.ref r4)]) (rest := []) (lenOf pd__Ljava_lang_Object__Ljava_lang_StringBuilder_ rfl) rfl (own_W rfl) (hb hby d45_51)
  obtain ⟨rfl, N91q, K91, f92, f93, f94, f95⟩ := hQ91
  have N91 := Fr.app N62 N91q
  have f96 := (f64.keep K91 (ninS n45 (ninS n43 nin0)))
  have f97 := (f66.keep K91 (ninS n45 (ninS n43 nin0)))
  have o98 := Old.keep o90 K91 (allS g35 (allS g23 all0))
  have f100 := ((f56.keep K62).keep K91)
  obtain ⟨_, T99, Lc99, X99, hQ99, st99⟩ := own_cI (xi := mN33) X91 hx hZ hown rfl (rm49_5 l Z a0 hw [] b6_0 T91.heap n0 o98 f96 f97) f100 (w 314 rfl) (w 315 rfl) (w 316 rfl) (w 317 rfl) (w 318 rfl) (w 319 rfl) (w 320 rfl) (w 321 rfl) (w 322 rfl) (w 294 rfl) (by decide) (W := 0) (by decide) (by decide) (by decide) (by decide) (g := (mkF m 56 #[lR r0, lR b6_0, lR b16, lR r4] [(.ref b6_0)])) rfl (by rw [hml]; rfl) (argsL := []) (rest := []) (lenOf pd___Z rfl) rfl (own_W rfl) (hb hby d45_56)
  obtain ⟨rfl, N99q, E99⟩ := hQ99
  have N99 := Fr.app N91 N99q
  have f101 := (f71.keep K91)
  obtain ⟨_, T102, Lc102, X102, hQ102, st102⟩ := own_cV X99 hx hZ hown E99 (rm50_1 l Z a0 hw [] b16 (44 : Int32) (3 : Int32) b25_0 (16 : Int32) k25_0 ([vI91, (.int x7), (.int x8), vI0, vI0, vI0, vI0, vI0, vI0, vI0, vI0, vI0, vI0, vI0, vI0, vI0]) (0 : Int32) x3 T91.heap n0 o98 f93 f101 f94 f92 f95 (by decide) f20 hc21 (by decide) (by decide) g23 (Ne.symm n33) g35 (Nat.le_of_ble_eq_true rfl : ((3 : Int32)).toNatClampNeg < [vI91, (.int x7), (.int x8), vI0, vI0, vI0, vI0, vI0, vI0, vI0, vI0, vI0, vI0, vI0, vI0, vI0].length) (by decide) (by decide)) f101 (w 326 rfl) (w 327 rfl) (w 329 rfl) (w 328 rfl) (w 330 rfl) (w 194 rfl) (by decide) (W := 0) (by decide) (by decide) (by decide) (by decide) (g := (mkF m 77 #[lR r0, lR b6_0, lR b16, lR r4] [vI44, (.ref b16)])) rfl (by rw [hml]; rfl) (argsL := [vI44]) (rest := []) (lenOf pd__C_Ljava_lang_StringBuilder_ rfl) rfl (own_W rfl) (hb hby d45_77)
  obtain ⟨rfl, N102q, K102, f103, f104, f105, f106⟩ := hQ102
  have N102 := Fr.app N99 N102q
  have f107 : Arv Z T102.heap b25_0 k25_0 .byte (16 : Int32) [vI91, (.int x7), (.int x8), vI44, vI0, vI0, vI0, vI0, vI0, vI0, vI0, vI0, vI0, vI0, vI0, vI0] vI0 := own_setx (by decide : ((3 : Int32)).toNatClampNeg = 3) f106
  have f108 := (f101.keep K102)
  have o109 := Old.keep o98 K102 (allS g23 (allS g35 all0))
  obtain ⟨_, T110, Lc110, X110, hQ110, st110⟩ := own_cV X102 hx hZ hown rfl (rm50_1 l Z a0 hw [] b16 (32 : Int32) (4 : Int32) b25_0 (16 : Int32) k25_0 ([vI91, (.int x7), (.int x8), vI44, vI0, vI0, vI0, vI0, vI0, vI0, vI0, vI0, vI0, vI0, vI0, vI0]) (0 : Int32) x3 T102.heap n0 o109 f103 f108 f104 f107 f105 (by decide) f20 hc21 (by decide) (by decide) g23 (Ne.symm n33) g35 (Nat.le_of_ble_eq_true rfl : ((4 : Int32)).toNatClampNeg < [vI91, (.int x7), (.int x8), vI44, vI0, vI0, vI0, vI0, vI0, vI0, vI0, vI0, vI0, vI0, vI0, vI0].length) (by decide) (by decide)) f108 (w 326 rfl) (w 327 rfl) (w 329 rfl) (w 328 rfl) (w 330 rfl) (w 194 rfl) (by decide) (W := 0) (by decide) (by decide) (by decide) (by decide) (g := (mkF m 82 #[lR r0, lR b6_0, lR b16, lR r4] [vI32, (.ref b16)])) rfl (by rw [hml]; rfl) (argsL := [vI32]) (rest := []) (lenOf pd__C_Ljava_lang_StringBuilder_ rfl) rfl (own_W rfl) (hb hby d45_82)
  obtain ⟨rfl, N110q, K110, f111, f112, f113, f114⟩ := hQ110
  have N110 := Fr.app N102 N110q
  have f115 : Arv Z T110.heap b25_0 k25_0 .byte (16 : Int32) [vI91, (.int x7), (.int x8), vI44, vI32, vI0, vI0, vI0, vI0, vI0, vI0, vI0, vI0, vI0, vI0, vI0] vI0 := own_setx (by decide : ((4 : Int32)).toNatClampNeg = 4) f114
  have f116 := ((f96.keep K102 (ninS n43 (ninS n45 nin0))).keep K110 (ninS n43 (ninS n45 nin0)))
  have f117 := (((f65.keep K91 (ninS n45 (ninS n43 nin0))).keep K102 (ninS n43 (ninS n45 nin0))).keep K110 (ninS n43 (ninS n45 nin0)))
  have f118 := ((((f48.keep K62).keep K91).keep K102).keep K110)
  have n119 := Nat.ne_of_lt (Nat.lt_of_lt_of_le l50 f8)
  have f120 := ((((((((f2.keep K6 nin0).ext E16).keep K25 (ninS n52 nin0)).keep K37 (ninS n52 (ninS n54 nin0))).keep K62 (ninS n119 nin0)).keep K91 (ninS n54 (ninS n52 nin0))).keep K102 (ninS n52 (ninS n54 nin0))).keep K110 (ninS n52 (ninS n54 nin0)))
  have f121 := ((f100.keep K102).keep K110)
  have f122 := ((f97.keep K102 (ninS n43 (ninS n45 nin0))).keep K110 (ninS n43 (ninS n45 nin0)))
  have f123 := (((f67.keep K91 (ninS n45 (ninS n43 nin0))).keep K102 (ninS n43 (ninS n45 nin0))).keep K110 (ninS n43 (ninS n45 nin0)))
  have o124 := Old.keep o109 K110 (allS g23 (allS g35 all0))
  obtain ⟨cqq126, kqq126, qq126a, qq126b, qq126c⟩ := isOf hZ rfl f121
  obtain ⟨_, T125, Lc125, X125, hQ125, st125⟩ := own_finI (X110.interfaceBack hx (xi := mN70) (y := mN67) hown (mvT hZ (w 344 rfl)) (mvT hZ (w 345 rfl)) (mvT hZ (w 346 rfl)) (mvT hZ (w 347 rfl)) (mvT hZ (w 348 rfl)) (mvT hZ (w 349 rfl)) (mvT hZ (w 350 rfl)) (mvT hZ (w 321 rfl)) (by decide) (backOfWith (W := 0) (rm54_3 l Z a0 hw [] b6_0 r0 r1 r2 T110.heap n0 o124 f116 f117 f118 f120 f3 f4 g5 f121 g58 f122 f123) hZ (w 351 rfl) (w 294 rfl) (by decide) (by decide)) qq126a qq126b qq126c (g := (mkF m 33 #[lR r0, lR b6_0, lR b16, lR r4] [(.ref b6_0)])) rfl (by rw [hml]; rfl) (Steps.refl _) (argsL := []) (rest := []) (lenOf pd___Ljava_lang_Object_ rfl) rfl (own_W rfl) (hb hby d45_33) (fun _ _ => ⟨rfl, rfl, (by decide : 3 + 0 ≤ _), (by decide : 24 + 0 ≤ _)⟩))
  obtain ⟨rfl, N125q, K125, f127, f128, f129, f130⟩ := hQ125
  have N125 := Fr.app N110 N125q
  have f133 := (((((((((f132.keep K6).ext E16).keep K25).keep K37).keep K62).keep K91).keep K102).keep K110).keep K125)
  have f134 := ((f108.keep K110).keep K125)
  have n137 := Nat.ne_of_lt (Nat.lt_of_lt_of_le (Nat.lt_of_lt_of_le l136 zs51) (Nat.le_of_eq g16.symm))
  have n138 := Nat.ne_of_lt (Nat.lt_of_lt_of_le (Nat.lt_of_lt_of_le l136 zs53) f29)
  have n139 := Nat.ne_of_lt (Nat.lt_of_lt_of_le l136 f8)
  have f140 := (((((((((f135.keep K6 nin0).ext E16).keep K25 (ninS n137 nin0)).keep K37 (ninS n137 (ninS n138 nin0))).keep K62 (ninS n139 nin0)).keep K91 (ninS n138 (ninS n137 nin0))).keep K102 (ninS n137 (ninS n138 nin0))).keep K110 (ninS n137 (ninS n138 nin0))).keep K125 (ninS n139 nin0))
  have n143 := Nat.ne_of_lt (Nat.lt_of_lt_of_le (Nat.lt_of_lt_of_le l142 zs51) (Nat.le_of_eq g16.symm))
  have n144 := Nat.ne_of_lt (Nat.lt_of_lt_of_le (Nat.lt_of_lt_of_le l142 zs53) f29)
  have n145 := Nat.ne_of_lt (Nat.lt_of_lt_of_le l142 f8)
  have f146 := (((((((((f141.keep K6 nin0).ext E16).keep K25 (ninS n143 nin0)).keep K37 (ninS n143 (ninS n144 nin0))).keep K62 (ninS n145 nin0)).keep K91 (ninS n144 (ninS n143 nin0))).keep K102 (ninS n143 (ninS n144 nin0))).keep K110 (ninS n143 (ninS n144 nin0))).keep K125 (ninS n145 nin0))
  have f148 := (((((((((f147.keep K6 nin0).ext E16).keep K25 (ninS n137 nin0)).keep K37 (ninS n137 (ninS n138 nin0))).keep K62 (ninS n139 nin0)).keep K91 (ninS n138 (ninS n137 nin0))).keep K102 (ninS n137 (ninS n138 nin0))).keep K110 (ninS n137 (ninS n138 nin0))).keep K125 (ninS n139 nin0))
  have f149 := (f111.keep K125 (ninS (Ne.symm n43) nin0))
  have f150 := (f112.keep K125 (ninS (Ne.symm n43) nin0))
  have f151 := (f115.keep K125 (ninS (Ne.symm n45) nin0))
  have f152 := (f113.keep K125 (ninS (Ne.symm n43) nin0))
  have o153 := Old.keep o124 K125 (allS g58 all0)
  obtain ⟨_, T154, Lc154, X154, hQ154, st154⟩ := own_cV X125 hx hZ hown rfl (rm43_4 l Z a0 hw [] b16 r1 r9 c10 x11 x12 x3 b25_0 k25_0 x7 x8 T125.heap n0 o153 f133 f134 f140 f146 f20 hc21 f148 f149 f150 f151 f152 g35 n33 g23) f134 (w 361 rfl) (w 274 rfl) (w 276 rfl) (w 275 rfl) (w 277 rfl) (w 194 rfl) (by decide) (W := 0) (by decide) (by decide) (by decide) (by decide) (g := (mkF m 51 #[lR r0, lR b6_0, lR b16, lR r1] [(.ref r1), (.ref b16)])) rfl (by rw [hml]; rfl) (argsL := [(.ref r1)]) (rest := []) (lenOf pd__Ljava_lang_Object__Ljava_lang_StringBuilder_ rfl) rfl (own_W rfl) (hb hby d45_51)
  obtain ⟨rfl, N154q, K154, f155, f156, f157, f158⟩ := hQ154
  have N154 := Fr.app N125 N154q
  have f159 := (f127.keep K154 (ninS n45 (ninS n43 nin0)))
  have f160 := (f129.keep K154 (ninS n45 (ninS n43 nin0)))
  have o161 := Old.keep o153 K154 (allS g35 (allS g23 all0))
  have f163 := ((f121.keep K125).keep K154)
  obtain ⟨_, T162, Lc162, X162, hQ162, st162⟩ := own_cI (xi := mN33) X154 hx hZ hown rfl (rm49_6 l Z a0 hw [] b6_0 T154.heap n0 o161 f159 f160) f163 (w 314 rfl) (w 315 rfl) (w 316 rfl) (w 317 rfl) (w 318 rfl) (w 319 rfl) (w 320 rfl) (w 321 rfl) (w 322 rfl) (w 294 rfl) (by decide) (W := 0) (by decide) (by decide) (by decide) (by decide) (g := (mkF m 56 #[lR r0, lR b6_0, lR b16, lR r1] [(.ref b6_0)])) rfl (by rw [hml]; rfl) (argsL := []) (rest := []) (lenOf pd___Z rfl) rfl (own_W rfl) (hb hby d45_56)
  obtain ⟨rfl, N162q, E162⟩ := hQ162
  have N162 := Fr.app N154 N162q
  have f164 := (f134.keep K154)
  obtain ⟨_, T165, Lc165, X165, hQ165, st165⟩ := own_cV X162 hx hZ hown E162 (rm50_1 l Z a0 hw [] b16 (93 : Int32) (7 : Int32) b25_0 (16 : Int32) k25_0 ([vI91, (.int x7), (.int x8), vI44, vI32, (.int x11), (.int x12), vI0, vI0, vI0, vI0, vI0, vI0, vI0, vI0, vI0]) (0 : Int32) x3 T154.heap n0 o161 f156 f164 f157 f155 f158 (by decide) f20 hc21 (by decide) (by decide) g23 (Ne.symm n33) g35 (Nat.le_of_ble_eq_true rfl : ((7 : Int32)).toNatClampNeg < [vI91, (.int x7), (.int x8), vI44, vI32, (.int x11), (.int x12), vI0, vI0, vI0, vI0, vI0, vI0, vI0, vI0, vI0].length) (by decide) (by decide)) f164 (w 326 rfl) (w 327 rfl) (w 329 rfl) (w 328 rfl) (w 330 rfl) (w 194 rfl) (by decide) (W := 0) (by decide) (by decide) (by decide) (by decide) (g := (mkF m 67 #[lR r0, lR b6_0, lR b16, lR r1] [vI93, (.ref b16)])) rfl (by rw [hml]; rfl) (argsL := [vI93]) (rest := []) (lenOf pd__C_Ljava_lang_StringBuilder_ rfl) rfl (own_W rfl) (hb hby d45_67)
  obtain ⟨rfl, N165q, K165, f166, f167, f168, f169⟩ := hQ165
  have N165 := Fr.app N162 N165q
  have f170 : Arv Z T165.heap b25_0 k25_0 .byte (16 : Int32) [vI91, (.int x7), (.int x8), vI44, vI32, (.int x11), (.int x12), vI93, vI0, vI0, vI0, vI0, vI0, vI0, vI0, vI0] vI0 := own_setx (by decide : ((7 : Int32)).toNatClampNeg = 7) f169
  have f171 := (f164.keep K165)
  have zs172 := K37.1
  have zs173 := Nat.le_trans zs172 K62.1
  have zs174 := Nat.le_trans zs173 K91.1
  have zs175 := Nat.le_trans zs174 K102.1
  have zs176 := Nat.le_trans zs175 K110.1
  have zs177 := Nat.le_trans zs176 K125.1
  have zs178 := Nat.le_trans zs177 K154.1
  have zs179 := Nat.le_trans zs178 K165.1
  have o180 := Old.keep o161 K165 (allS g23 (allS g35 all0))
  obtain ⟨_, T181, Lc181, X181, hQ181, st181⟩ := own_cV X165 hx hZ hown rfl (rm57_1 l Z a0 hw [] b16 b25_0 (8 : Int32) x3 (0 : Int32) (16 : Int32) k25_0 ([vI91, (.int x7), (.int x8), vI44, vI32, (.int x11), (.int x12), vI93, vI0, vI0, vI0, vI0, vI0, vI0, vI0, vI0]) T165.heap n0 o180 f171 f167 f166 f20 hc21 f168 (by decide) f170 (Nat.lt_of_lt_of_le f30.lt zs179) (by decide) (by decide) (by decide) (by decide) (by decide) (by decide)) f171 (w 366 rfl) (w 367 rfl) (w 369 rfl) (w 368 rfl) (w 370 rfl) (w 194 rfl) (by decide) (W := 0) (by decide) (by decide) (by decide) (by decide) (g := (mkF m 70 #[lR r0, lR b6_0, lR b16, lR r1] [(.ref b16)])) rfl (by rw [hml]; rfl) (argsL := []) (rest := []) (lenOf pd___Ljava_lang_String_ rfl) rfl (own_W rfl) (hb hby d45_70)
  obtain ⟨b181_0, b181_1, k181_0, rfl, N181q, K181, f182, f183, f184, f185, f186, f187, f188, f189⟩ := hQ181
  have N181 := Fr.app N165 N181q
  have f190 : Arv Z T181.heap b181_1 k181_0 .byte (8 : Int32) [vI91, (.int x7), (.int x8), vI44, vI32, (.int x11), (.int x12), vI93] vI0 := own_trunc (ws := [vI91, (.int x7), (.int x8), vI44, vI32, (.int x11), (.int x12), vI93]) (rest := [vI0, vI0, vI0, vI0, vI0, vI0, vI0, vI0]) (own_lenK (n := 8) rfl (by decide)) f187
  have zs191 := Nat.le_trans zs53 K25.1
  have zs192 := Nat.le_trans zs191 K37.1
  have zs193 := Nat.le_trans zs192 K62.1
  have zs194 := Nat.le_trans zs193 K91.1
  have zs195 := Nat.le_trans zs194 K102.1
  have zs196 := Nat.le_trans zs195 K110.1
  have zs197 := Nat.le_trans zs196 K125.1
  have zs198 := Nat.le_trans zs197 K154.1
  have zs199 := Nat.le_trans zs198 K165.1
  have kp200 : Keep h0 T6.heap [] := (Keep.refl h0 []).trans K6 all0
  have kp201 : Keep h0 h16 [] := kp200.ext E16
  have kp202 : Keep h0 T25.heap [] := kp201.trans K25 (allS (Or.inr (Nat.le_trans zs51 (Nat.le_of_eq g16.symm))) all0)
  have kp203 : Keep h0 T37.heap [] := kp202.trans K37 (allS (Or.inr (Nat.le_trans zs51 (Nat.le_of_eq g16.symm))) (allS (Or.inr (Nat.le_trans zs53 f29)) all0))
  have kp204 : Keep h0 T62.heap [] := kp203.trans K62 (allS (Or.inr f8) all0)
  have kp205 : Keep h0 T91.heap [] := kp204.trans K91 (allS (Or.inr (Nat.le_trans zs53 f29)) (allS (Or.inr (Nat.le_trans zs51 (Nat.le_of_eq g16.symm))) all0))
  have kp206 : Keep h0 T102.heap [] := kp205.trans K102 (allS (Or.inr (Nat.le_trans zs51 (Nat.le_of_eq g16.symm))) (allS (Or.inr (Nat.le_trans zs53 f29)) all0))
  have kp207 : Keep h0 T110.heap [] := kp206.trans K110 (allS (Or.inr (Nat.le_trans zs51 (Nat.le_of_eq g16.symm))) (allS (Or.inr (Nat.le_trans zs53 f29)) all0))
  have kp208 : Keep h0 T125.heap [] := kp207.trans K125 (allS (Or.inr f8) all0)
  have kp209 : Keep h0 T154.heap [] := kp208.trans K154 (allS (Or.inr (Nat.le_trans zs53 f29)) (allS (Or.inr (Nat.le_trans zs51 (Nat.le_of_eq g16.symm))) all0))
  have kp210 : Keep h0 T165.heap [] := kp209.trans K165 (allS (Or.inr (Nat.le_trans zs51 (Nat.le_of_eq g16.symm))) (allS (Or.inr (Nat.le_trans zs53 f29)) all0))
  have kp211 : Keep h0 T181.heap [] := kp210.trans K181 all0
  refine ⟨some (.ref b181_0), _, _, _, _, nofun, X181, by decide, by decide, ?_, fun fs hr => ?_⟩
  · exact ⟨b181_0, b181_1, k181_0, rfl, N181, kp211, (Nat.le_trans zs199 f182), f183, f184, f185, (Nat.le_trans zs199 f186), f190, f188, f189⟩
  · show SG p e below s₁ (mkF m 0 #[lR r0, lU, lU, lU] []) _
    refine qaN X0 hx hby d45_0 ?_
    refine st6.trans ?_
    refine XS.astoreN X6.here hx rfl (hb hby d45_4) rfl rfl (l' := #[lR r0, lR b6_0, lU, lU]) rfl ?_
    refine qaN X6 hx hby d45_5 ?_
    refine st15 _ ?_
    refine XS.ifYes X15.here hx rfl (pc0 := 11) (pc' := 17) rfl (hb hby d45_11) rfl ((if0 _ _).trans (feq (by decide : ¬ ((1 : Int32) = (0 : Int32)))).2) (by decide) (by decide) ?_
    refine st16 _ ?_
    refine qd X16 hx hby d45_20 ?_
    refine st25.trans ?_
    refine XS.astoreN X25.here hx rfl (hb hby d45_24) rfl rfl (l' := #[lR r0, lR b6_0, lR b16, lU]) rfl ?_
    refine qaN X25 hx hby d45_25 ?_
    refine qb X25 hx hby d45_26 ?_
    refine st37 _ ?_
    refine XS.pop X37.here hx rfl (hb hby d45_31) rfl rfl ?_
    refine qaN X37 hx hby d45_32 ?_
    refine st62.trans ?_
    refine XS.astoreN X62.here hx rfl (hb hby d45_38) rfl rfl (l' := #[lR r0, lR b6_0, lR b16, lR r4]) rfl ?_
    refine qaN X62 hx hby d45_39 ?_
    refine qaN X62 hx hby d45_40 ?_
    refine qaN X62 hx hby d45_41 ?_
    refine Jvm.RoadKit.acmp (g := (mkF m 42 #[lR r0, lR b6_0, lR b16, lR r4] [(.ref r0), (.ref r4), (.ref b16)])) X62 hx rfl rfl rfl (pc0 := 42) (pc' := 50) (same := false) rfl (hb hby d45_42) rfl (decide_eq_false fun q => n68 (Value.ref.inj q)) (by decide) (by decide) ?_
    refine qaN X62 hx hby d45_50 ?_
    refine st91 _ ?_
    refine XS.pop X91.here hx rfl (hb hby d45_54) rfl rfl ?_
    refine qaN X91 hx hby d45_55 ?_
    show SG p e below T91 (mkF m 56 #[lR r0, lR b6_0, lR b16, lR r4] [(.ref b6_0)]) _
    refine st99 _ ?_
    refine XS.ifYes X99.here hx rfl (pc0 := 61) (pc' := 74) rfl (hb hby d45_61) rfl ((if0 _ _).trans (feq (by decide : ¬ ((1 : Int32) = (0 : Int32)))).2) (by decide) (by decide) ?_
    refine qaN X99 hx hby d45_74 ?_
    refine qb X99 hx hby d45_75 ?_
    refine st102 _ ?_
    refine qb X102 hx hby d45_80 ?_
    refine st110 _ ?_
    refine XS.pop X110.here hx rfl (hb hby d45_85) rfl rfl ?_
    refine XS.goto X110.here hx rfl (pc0 := 86) (pc' := 32) rfl (hb hby d45_86) (by decide) (by decide) ?_
    refine qaN X110 hx hby d45_32 ?_
    refine st125.trans ?_
    refine XS.astoreN X125.here hx rfl (hb hby d45_38) rfl rfl (l' := #[lR r0, lR b6_0, lR b16, lR r1]) rfl ?_
    refine qaN X125 hx hby d45_39 ?_
    refine qaN X125 hx hby d45_40 ?_
    refine qaN X125 hx hby d45_41 ?_
    refine Jvm.RoadKit.acmp (g := (mkF m 42 #[lR r0, lR b6_0, lR b16, lR r1] [(.ref r0), (.ref r1), (.ref b16)])) X125 hx rfl rfl rfl (pc0 := 42) (pc' := 50) (same := false) rfl (hb hby d45_42) rfl (decide_eq_false fun q => n131 (Value.ref.inj q)) (by decide) (by decide) ?_
    refine qaN X125 hx hby d45_50 ?_
    refine st154 _ ?_
    refine XS.pop X154.here hx rfl (hb hby d45_54) rfl rfl ?_
    refine qaN X154 hx hby d45_55 ?_
    refine st162 _ ?_
    refine XS.ifNo X162.here hx rfl (hb hby d45_61) rfl ((if0 _ _).trans (teq (rfl : (0 : Int32) = (0 : Int32))).2) ?_
    refine qaN X162 hx hby d45_64 ?_
    refine qb X162 hx hby d45_65 ?_
    refine st165 _ ?_
    show SG p e below T165 (mkF m 70 #[lR r0, lR b6_0, lR b16, lR r1] [(.ref b16)]) _
    refine st181 _ ?_
    exact retOut X181 hx (i := .areturn) hret rfl (Or.inr (Or.inr (Or.inr (Or.inr ⟨rfl, rfl, rfl⟩)))) (hb hby d45_73) hr
def Q44_4 (Z : State) (x7 x8 : Int32) (x11 x12 : Int32) (h0 : Heap) (n0 : Nat) (v : Option Value) (h : Heap) (L : List Loc) : Prop := ∃ (b24_0 b24_1 : Addr) (k24_0 : ClassId), v = some (.ref b24_0) ∧ Fr n0 L ∧ Keep h0 h [] ∧ h0.size ≤ b24_0 ∧ Exa Z h b24_0 cs8 ∧ Fld Z h b24_0 cs8 "coder" "B" vI0 ∧ Fld Z h b24_0 cs8 "value" "[B" (.ref b24_1) ∧ h0.size ≤ b24_1 ∧ Arv Z h b24_1 k24_0 .byte (8 : Int32) [vI91, (.int x7), (.int x8), vI44, vI32, (.int x11), (.int x12), vI93] vI0 ∧ Exa Z h b24_1 "[B" ∧ b24_0 ≠ b24_1
theorem rm44_4 (l : Launch) (Z : State) (a0 : Array Value) (hw : own_HW a0 Z) (ws : List Jvm.Cond) (r0 r1 r2 : Addr) (x3 : Int32) (r4 r5 : Addr) (c6 : ClassId) (x7 x8 : Int32) (r9 : Addr) (c10 : ClassId) (x11 x12 : Int32) (h0 : Heap) (n0 : Nat) (O0 : Old Z n0 h0) (f1 : Exa Z h0 r0 cs45) (f2 : Fld Z h0 r0 cs45 "e1" cs46 (.ref r1)) (f3 : Sta Z Z.heap cs12 "EMPTY" cs46 (.ref r2)) (f4 : Exa Z Z.heap r2 cs5) (g5 : n0 ≤ r1) (f6 : Sta Z Z.heap cs8 cs9 "Z" (.int x3)) (hc7 : ¬ (x3 = (0 : Int32))) (f8 : Fld Z h0 r0 cs45 "e0" cs46 (.ref r4)) (l9 : r0 < h0.size) (n10 : r4 ≠ r0) (f11 : Exa Z h0 r4 cs8) (f12 : Fld Z h0 r4 cs8 "value" "[B" (.ref r5)) (l13 : r4 < h0.size) (f14 : Arv Z h0 r5 c6 .byte (2 : Int32) [(.int x7), (.int x8)] vI0) (l15 : r5 < h0.size) (f16 : Fld Z h0 r4 cs8 "coder" "B" vI0) (n17 : r1 ≠ r0) (f18 : Exa Z h0 r1 cs8) (f19 : Fld Z h0 r1 cs8 "value" "[B" (.ref r9)) (l20 : r1 < h0.size) (f21 : Arv Z h0 r9 c10 .byte (2 : Int32) [(.int x11), (.int x12)] vI0) (l22 : r9 < h0.size) (f23 : Fld Z h0 r1 cs8 "coder" "B" vI0) :
    own_MF l mN34 jdk_42_method_133_code 1 (some (.object cs8)) ws rR7_5_92_112 Z h0 #[(.ref r0)] (Q44_4 Z x7 x8 x11 x12 h0 n0) := by
  refine own_open (plainFor_of_name pn_java_lang_String) (L0 := #[lR r0]) (fun _ => by first | (simp [entryFrame, mkF, argsToLocals, Value.category]; done) | rfl) ?_
  intro p e s m below meth c s₁ hx hby hml hret hnn hZ hown X0 e0
  have N0 := Fr.nil n0; have w := @ww Z a0 hw
  obtain ⟨cqq25, kqq25, qq25a, qq25b, qq25c⟩ := isOf hZ e0 f1
  obtain ⟨_, T24, Lc24, X24, hQ24, st24⟩ := own_fin (X0.virtualBack hx (y := mN35) (z := mN31) hown (mvT hZ (w 281 rfl)) (mvT hZ (w 282 rfl)) (nf_top (args := #[]) (mvT hZ (w 111 rfl))) (mvT hZ (w 284 rfl)) (mvT hZ (w 285 rfl)) (by decide) (backOf (W := 0) (rm45_3 l Z a0 hw [] r0 r1 r2 x3 r4 r5 c6 x7 x8 r9 c10 x11 x12 h0 n0 O0 f1 f2 f3 f4 g5 f6 hc7 f8 l9 n10 f11 f12 l13 f14 l15 f16 n17 f18 f19 l20 f21 l22 f23) hZ (w 286 rfl) (w 47 rfl) (by decide) (by decide)) qq25a qq25c (g := (mkF m 11 #[lR r0] [(.ref r0)])) rfl (by rw [hml]; rfl) (Steps.refl _) (argsL := []) (rest := []) (lenOf pd___Ljava_lang_String_ rfl) rfl (own_W rfl) (hb hby d44_11) (fun _ _ => ⟨rfl, e0, (by decide : 0 + 5 ≤ _), (by decide : 0 + 92 ≤ _)⟩))
  obtain ⟨b24_0, b24_1, k24_0, rfl, N24q, K24, f26, f27, f28, f29, f30, f31, f32, f33⟩ := hQ24
  have N24 := Fr.app N0 N24q
  have kp34 : Keep h0 T24.heap [] := (Keep.refl h0 []).trans K24 all0
  refine ⟨some (.ref b24_0), _, _, _, _, nofun, X24, by decide, by decide, ?_, fun fs hr => ?_⟩
  · exact ⟨b24_0, b24_1, k24_0, rfl, N24, kp34, f26, f27, f28, f29, f30, f31, f32, f33⟩
  · show SG p e below s₁ (mkF m 0 #[lR r0] []) _
    refine qaN X0 hx hby d44_0 ?_
    refine XS.ifnonnullYes X0.here hx rfl (pc0 := 1) (pc' := 10) rfl (hb hby d44_1) rfl (by decide) (by decide) ?_
    refine qaN X0 hx hby d44_10 ?_
    refine st24.trans ?_
    exact retOut X24 hx (i := .areturn) hret rfl (Or.inr (Or.inr (Or.inr (Or.inr ⟨rfl, rfl, rfl⟩)))) (hb hby d44_14) hr
def Q43_5 (Z : State) (r0 : Addr) (x8 x9 : Int32) (x12 x13 : Int32) (r14 : Addr) (c15 : ClassId) (x16 x17 : Int32) (h0 : Heap) (n0 : Nat) (v : Option Value) (h : Heap) (L : List Loc) : Prop := v = some (.ref r0) ∧ Fr n0 L ∧ Keep h0 h [r14, r0] ∧ Arv Z h r14 c15 .byte (70 : Int32) [vI73, vI110, vI116, vI101, vI114, vI110, vI97, vI108, vI67, vI97, vI108, vI108, vI68, vI101, vI116, vI97, vI105, vI108, vI115, vI32, vI91, vI107, vI101, vI121, vI61, (.int x16), (.int x17), vI44, vI32, vI97, vI117, vI116, vI104, vI111, vI114, vI105, vI116, vI105, vI101, vI115, vI61, vI91, (.int x8), (.int x9), vI44, vI32, (.int x12), (.int x13), vI93, vI0, vI0, vI0, vI0, vI0, vI0, vI0, vI0, vI0, vI0, vI0, vI0, vI0, vI0, vI0, vI0, vI0, vI0, vI0, vI0, vI0] vI0 ∧ Fld Z h r0 cs22 "count" "I" vI49 ∧ Fld Z h r0 cs22 "value" "[B" (.ref r14) ∧ Fld Z h r0 cs22 "coder" "B" vI0
theorem rm43_5 (l : Launch) (Z : State) (a0 : Array Value) (hw : own_HW a0 Z) (ws : List Jvm.Cond) (r0 r1 : Addr) (r2 r3 : Addr) (x4 : Int32) (r5 r6 : Addr) (c7 : ClassId) (x8 x9 : Int32) (r10 : Addr) (c11 : ClassId) (x12 x13 : Int32) (r14 : Addr) (c15 : ClassId) (x16 x17 : Int32) (h0 : Heap) (n0 : Nat) (O0 : Old Z n0 h0) (f1 : Exa Z h0 r1 cs45) (f2 : Fld Z h0 r1 cs45 "e1" cs46 (.ref r2)) (f3 : Sta Z Z.heap cs12 "EMPTY" cs46 (.ref r3)) (f4 : Exa Z Z.heap r3 cs5) (g5 : n0 ≤ r2) (f6 : Sta Z Z.heap cs8 cs9 "Z" (.int x4)) (hc7 : ¬ (x4 = (0 : Int32))) (f8 : Fld Z h0 r1 cs45 "e0" cs46 (.ref r5)) (l9 : r1 < h0.size) (n10 : r5 ≠ r1) (f11 : Exa Z h0 r5 cs8) (f12 : Fld Z h0 r5 cs8 "value" "[B" (.ref r6)) (l13 : r5 < h0.size) (f14 : Arv Z h0 r6 c7 .byte (2 : Int32) [(.int x8), (.int x9)] vI0) (l15 : r6 < h0.size) (f16 : Fld Z h0 r5 cs8 "coder" "B" vI0) (n17 : r2 ≠ r1) (f18 : Exa Z h0 r2 cs8) (f19 : Fld Z h0 r2 cs8 "value" "[B" (.ref r10)) (l20 : r2 < h0.size) (f21 : Arv Z h0 r10 c11 .byte (2 : Int32) [(.int x12), (.int x13)] vI0) (l22 : r10 < h0.size) (f23 : Fld Z h0 r2 cs8 "coder" "B" vI0) (f33 : Exa Z h0 r0 cs23) (f35 : Fld Z h0 r0 cs22 "count" "I" vI41) (f37 : Fld Z h0 r0 cs22 "value" "[B" (.ref r14)) (f39 : Arv Z h0 r14 c15 .byte (70 : Int32) [vI73, vI110, vI116, vI101, vI114, vI110, vI97, vI108, vI67, vI97, vI108, vI108, vI68, vI101, vI116, vI97, vI105, vI108, vI115, vI32, vI91, vI107, vI101, vI121, vI61, (.int x16), (.int x17), vI44, vI32, vI97, vI117, vI116, vI104, vI111, vI114, vI105, vI116, vI105, vI101, vI115, vI61, vI0, vI0, vI0, vI0, vI0, vI0, vI0, vI0, vI0, vI0, vI0, vI0, vI0, vI0, vI0, vI0, vI0, vI0, vI0, vI0, vI0, vI0, vI0, vI0, vI0, vI0, vI0, vI0, vI0] vI0) (f41 : Fld Z h0 r0 cs22 "coder" "B" vI0) (g43 : n0 ≤ r14) (n44 : r0 ≠ r14) (g45 : n0 ≤ r0) :
    own_MF l mN36 jdk_67_method_6_code 2 (some (.object cs23)) ws rR8_5_92_125 Z h0 #[(.ref r0), (.ref r1)] (Q43_5 Z r0 x8 x9 x12 x13 r14 c15 x16 x17 h0 n0) := by
  refine own_open (plainFor_of_name pn_java_lang_StringBuilder) (L0 := #[lR r0, lR r1]) (fun _ => by first | (simp [entryFrame, mkF, argsToLocals, Value.category]; done) | rfl) ?_
  intro p e s m below meth c s₁ hx hby hml hret hnn hZ hown X0 e0
  have N0 := Fr.nil n0; have w := @ww Z a0 hw
  obtain ⟨_, T24, Lc24, X24, hQ24, st24⟩ := own_cS X0 hx hZ hown e0 (rm44_4 l Z a0 hw [] r1 r2 r3 x4 r5 r6 c7 x8 x9 r10 c11 x12 x13 h0 n0 O0 f1 f2 f3 f4 g5 f6 hc7 f8 l9 n10 f11 f12 l13 f14 l15 f16 n17 f18 f19 l20 f21 l22 f23) (w 278 rfl) (w 279 rfl) (w 3 rfl) (w 280 rfl) (by decide) (W := 1) (by decide) (by decide) (by decide) (by decide) (g := (mkF m 2 #[lR r0, lR r1] [(.ref r1), (.ref r0)])) rfl (by rw [hml]; rfl) (argsL := [(.ref r1)]) (rest := [(.ref r0)]) (lenOf pd__Ljava_lang_Object__Ljava_lang_String_ rfl) rfl (own_W rfl) (hb hby d43_2)
  obtain ⟨b24_0, b24_1, k24_0, rfl, N24q, K24, f25, f26, f27, f28, f29, f30, f31, f32⟩ := hQ24
  have N24 := Fr.app N0 N24q
  have f34 := (f33.keep K24)
  have f36 := (f35.keep K24 nin0)
  have f38 := (f37.keep K24 nin0)
  have f40 := (f39.keep K24 nin0)
  have f42 := (f41.keep K24 nin0)
  have o46 := Old.keep O0 K24 all0
  obtain ⟨_, T47, Lc47, X47, hQ47, st47⟩ := own_cV X24 hx hZ hown rfl (rm32_2 l Z a0 hw [] r0 b24_0 b24_1 (8 : Int32) k24_0 ([vI91, (.int x8), (.int x9), vI44, vI32, (.int x12), (.int x13), vI93]) x4 (0 : Int32) (41 : Int32) r14 (70 : Int32) c15 ([vI73, vI110, vI116, vI101, vI114, vI110, vI97, vI108, vI67, vI97, vI108, vI108, vI68, vI101, vI116, vI97, vI105, vI108, vI115, vI32, vI91, vI107, vI101, vI121, vI61, (.int x16), (.int x17), vI44, vI32, vI97, vI117, vI116, vI104, vI111, vI114, vI105, vI116, vI105, vI101, vI115, vI61, vI0, vI0, vI0, vI0, vI0, vI0, vI0, vI0, vI0, vI0, vI0, vI0, vI0, vI0, vI0, vI0, vI0, vI0, vI0, vI0, vI0, vI0, vI0, vI0, vI0, vI0, vI0, vI0, vI0]) (0 : Int32) T24.heap n0 o46 f26 f28 f30 f6 hc7 f27 f36 f34 f38 f40 f42 (by decide) (by decide) (by decide) (own_lenK (n := 8) rfl (by decide) : [vI91, (.int x8), (.int x9), vI44, vI32, (.int x12), (.int x13), vI93].length = ((8 : Int32)).toNatClampNeg) (own_lenK (n := 70) rfl (by decide) : [vI73, vI110, vI116, vI101, vI114, vI110, vI97, vI108, vI67, vI97, vI108, vI108, vI68, vI101, vI116, vI97, vI105, vI108, vI115, vI32, vI91, vI107, vI101, vI121, vI61, (.int x16), (.int x17), vI44, vI32, vI97, vI117, vI116, vI104, vI111, vI114, vI105, vI116, vI105, vI101, vI115, vI61, vI0, vI0, vI0, vI0, vI0, vI0, vI0, vI0, vI0, vI0, vI0, vI0, vI0, vI0, vI0, vI0, vI0, vI0, vI0, vI0, vI0, vI0, vI0, vI0, vI0, vI0, vI0, vI0, vI0].length = ((70 : Int32)).toNatClampNeg) (by decide) (by decide) (by decide) g43 n44 g45) f34 (w 365 rfl) (w 214 rfl) (w 216 rfl) (w 215 rfl) (w 217 rfl) (w 194 rfl) (by decide) (W := 0) (by decide) (by decide) (by decide) (by decide) (g := (mkF m 5 #[lR r0, lR r1] [(.ref b24_0), (.ref r0)])) rfl (by rw [hml]; rfl) (argsL := [(.ref b24_0)]) (rest := []) (lenOf pd__Ljava_lang_String__Ljava_lang_StringBuilder_ rfl) rfl (own_W rfl) (hb hby d43_5)
  obtain ⟨rfl, N47q, K47, f48, f49, f50, f51⟩ := hQ47
  have N47 := Fr.app N24 N47q
  have f52 : Arv Z T47.heap r14 c15 .byte (70 : Int32) [vI73, vI110, vI116, vI101, vI114, vI110, vI97, vI108, vI67, vI97, vI108, vI108, vI68, vI101, vI116, vI97, vI105, vI108, vI115, vI32, vI91, vI107, vI101, vI121, vI61, (.int x16), (.int x17), vI44, vI32, vI97, vI117, vI116, vI104, vI111, vI114, vI105, vI116, vI105, vI101, vI115, vI61, vI91, (.int x8), (.int x9), vI44, vI32, (.int x12), (.int x13), vI93, vI0, vI0, vI0, vI0, vI0, vI0, vI0, vI0, vI0, vI0, vI0, vI0, vI0, vI0, vI0, vI0, vI0, vI0, vI0, vI0, vI0] vI0 := own_cpx (by decide : (((41 : Int32) <<< ((0 : Int32) &&& 31))).toNatClampNeg = 41) (by decide : (((41 : Int32) <<< ((0 : Int32) &&& 31))).toNatClampNeg + ((8 : Int32)).toNatClampNeg = 49) f48
  have kp53 : Keep h0 T24.heap [r14, r0] := (Keep.refl h0 [r14, r0]).trans K24 all0
  have kp54 : Keep h0 T47.heap [r14, r0] := kp53.trans K47 (allS (Or.inl (List.mem_of_getElem? (i := 0) rfl)) (allS (Or.inl (List.mem_of_getElem? (i := 1) rfl)) all0))
  refine ⟨some (.ref r0), _, _, _, _, nofun, X47, by decide, by decide, ?_, fun fs hr => ?_⟩
  · exact ⟨rfl, N47, kp54, f52, f49, f50, f51⟩
  · show SG p e below s₁ (mkF m 0 #[lR r0, lR r1] []) _
    refine qaN X0 hx hby d43_0 ?_
    refine qaN X0 hx hby d43_1 ?_
    refine st24 _ ?_
    refine st47 _ ?_
    exact retOut X47 hx (i := .areturn) hret rfl (Or.inr (Or.inr (Or.inr (Or.inr ⟨rfl, rfl, rfl⟩)))) (hb hby d43_8) hr
def Q29_3 (Z : State) (x5 x6 : Int32) (x13 x14 : Int32) (x17 x18 : Int32) (h0 : Heap) (n0 : Nat) (v : Option Value) (h : Heap) (L : List Loc) : Prop := ∃ (b210_0 b210_1 : Addr) (k210_0 : ClassId), v = some (.ref b210_0) ∧ Fr n0 L ∧ Keep h0 h [] ∧ h0.size ≤ b210_0 ∧ Exa Z h b210_0 cs8 ∧ Fld Z h b210_0 cs8 "coder" "B" vI0 ∧ Fld Z h b210_0 cs8 "value" "[B" (.ref b210_1) ∧ h0.size ≤ b210_1 ∧ Arv Z h b210_1 k210_0 .byte (50 : Int32) [vI73, vI110, vI116, vI101, vI114, vI110, vI97, vI108, vI67, vI97, vI108, vI108, vI68, vI101, vI116, vI97, vI105, vI108, vI115, vI32, vI91, vI107, vI101, vI121, vI61, (.int x5), (.int x6), vI44, vI32, vI97, vI117, vI116, vI104, vI111, vI114, vI105, vI116, vI105, vI101, vI115, vI61, vI91, (.int x13), (.int x14), vI44, vI32, (.int x17), (.int x18), vI93, vI93] vI0 ∧ Exa Z h b210_1 "[B" ∧ b210_0 ≠ b210_1
theorem rm29_3 (l : Launch) (Z : State) (a0 : Array Value) (hw : own_HW a0 Z) (ws : List Jvm.Cond) (r0 : Addr) (x1 : Int32) (r2 r3 : Addr) (c4 : ClassId) (x5 x6 : Int32) (r7 r8 : Addr) (r9 r10 r11 : Addr) (c12 : ClassId) (x13 x14 : Int32) (r15 : Addr) (c16 : ClassId) (x17 x18 : Int32) (h0 : Heap) (n0 : Nat) (O0 : Old Z n0 h0) (f7 : Sta Z Z.heap cs8 cs9 "Z" (.int x1)) (hc8 : ¬ (x1 = (0 : Int32))) (f45 : Fld Z h0 r0 cs17 "key" cs18 (.ref r2)) (l46 : r0 < h0.size) (f50 : Exa Z h0 r2 cs8) (f52 : Fld Z h0 r2 cs8 "value" "[B" (.ref r3)) (l53 : r2 < h0.size) (f56 : Arv Z h0 r3 c4 .byte (2 : Int32) [(.int x5), (.int x6)] vI0) (l57 : r3 < h0.size) (f60 : Fld Z h0 r2 cs8 "coder" "B" vI0) (f107 : Fld Z h0 r0 cs17 cs19 cs20 (.ref r7)) (f114 : Exa Z h0 r7 cs45) (f116 : Fld Z h0 r7 cs45 "e1" cs46 (.ref r8)) (l117 : r7 < h0.size) (f121 : Sta Z Z.heap cs12 "EMPTY" cs46 (.ref r9)) (f122 : Exa Z Z.heap r9 cs5) (g123 : n0 ≤ r8) (f124 : Fld Z h0 r7 cs45 "e0" cs46 (.ref r10)) (n130 : r10 ≠ r7) (f131 : Exa Z h0 r10 cs8) (f133 : Fld Z h0 r10 cs8 "value" "[B" (.ref r11)) (l134 : r10 < h0.size) (f138 : Arv Z h0 r11 c12 .byte (2 : Int32) [(.int x13), (.int x14)] vI0) (l139 : r11 < h0.size) (f143 : Fld Z h0 r10 cs8 "coder" "B" vI0) (n145 : r8 ≠ r7) (f146 : Exa Z h0 r8 cs8) (f148 : Fld Z h0 r8 cs8 "value" "[B" (.ref r15)) (l149 : r8 < h0.size) (f153 : Arv Z h0 r15 c16 .byte (2 : Int32) [(.int x17), (.int x18)] vI0) (l154 : r15 < h0.size) (f158 : Fld Z h0 r8 cs8 "coder" "B" vI0) :
    own_MH l mN47 prog_4_method_4_code 1 (some (.object cs8)) ws rR9_17_456_138 Z h0 #[(.ref r0)] (Q29_3 Z x5 x6 x13 x14 x17 x18 h0 n0) := by
  have hEL : EW Z a0 consts_1 := own_EW hw
  refine own_openH hEL (plainFor_of_name pn_com_example_innerkey_innerkey_InternalCallDetails) (L0 := #[lR r0]) (fun _ => by first | (simp [entryFrame, mkF, argsToLocals, Value.category]; done) | rfl) ?_
  intro p e s m below meth c s₁ hx hby hml hret hnn hZ hown X0 e0 R0
  have N0 := Fr.nil n0; have w := @ww Z a0 hw
  obtain ⟨T1, h1, X1, e1, E1, A1, D1, -, st1⟩ := newO X0 hx hZ hown (w 192 rfl) (w 193 rfl) (w 194 rfl) e0 (g := (mkF m 0 #[lR r0] [])) rfl (hb hby d29_0) (by decide) (by decide)
  obtain ⟨b1, g1⟩ : ∃ z, z = h0.size := ⟨_, rfl⟩
  have sf2 : Safe Z consts_1 s.vm h0 b1 := Safe.new (Nat.le_of_eq g1.symm)
  rw [← g1] at A1 D1 st1
  have R3 := CHr.trans R0 (CHr.ext E1 R0.1)
  have f4 : Fld Z h1 b1 cs22 "value" "[B" .null := D1 (Or.inl (w 207 rfl)) (ty := (.array .byte)) (by decide)
  have f5 : Fld Z h1 b1 cs22 "coder" "B" vI0 := D1 (Or.inl (w 209 rfl)) (ty := .byte) (by decide)
  have f6 : Fld Z h1 b1 cs22 "count" "I" vI0 := D1 (Or.inl (w 234 rfl)) (ty := .int) (by decide)
  have zz9 : n0 ≤ h0.size := by rw [← O0.1]; exact O0.2.1
  have g10 := Nat.le_trans zz9 (Nat.le_of_eq g1.symm)
  have o11 := Old.ext O0 E1
  obtain ⟨_, T12, Lc12, X12, hQ12, st12⟩ := own_fin (X1.specialBack hx (y := mN12) rfl hown (mvT hZ (w 195 rfl)) (mvT hZ (w 196 rfl)) (mvT hZ (w 197 rfl)) (by decide) (backOf (W := 1) (rm30_1 l Z a0 hw [] b1 x1 h1 n0 o11 f7 hc8 A1 f4 g10 f5 f6 A1.lt) hZ (w 197 rfl) (w 194 rfl) (by decide) (by decide)) (g := (mkF m 4 #[lR r0] [(.ref b1), (.ref b1)])) rfl (by rw [hml]; rfl) (Steps.refl _) (a := b1) (argsL := []) (rest := [(.ref b1)]) (lenOf pd___V rfl) rfl (own_W rfl) (hb hby d29_4) (fun _ _ => ⟨rfl, e1, (by decide : 1 + 1 ≤ _), (by decide : 4 + 16 ≤ _)⟩))
  obtain ⟨b12_0, k12_0, rfl, N12q, K12, f13, f14, f15, f16, f17, f18⟩ := hQ12
  have N12 := Fr.app N0 N12q
  have R19 := CHr.trans R3 (CHr.keep K12 (sfS (Safe.exa hZ.alike A1 (by decide) (by decide)) sf0) R3.1)
  have sf20 : Safe Z consts_1 s.vm h1 b12_0 := Safe.new f16
  have hS21 := (State.WarmedH.refl s).since 0
  have hstr : ∀ a ∈ Bundle.stringAtoms, a.before a0 Z = true := fun a q => hw a (own_str a q)
  obtain ⟨a22, T22, h22, kk22, b22, k22, X22, e22, E22, hS22, hk22, hZ22, ho22, EE22, C22, F22, V22, l22, m22, CR22, -, ne22, st22⟩ := ldcCH (s := s) (vm0 := s.vm) X12 hx hZ hown (w 210 rfl) hstr rfl hS21 (Nat.zero_le _) hEL (by simp [consts_1]) R19.1 (vs := [vI73, vI110, vI116, vI101, vI114, vI110, vI97, vI108, vI67, vI97, vI108, vI108, vI68, vI101, vI116, vI97, vI105, vI108, vI115, vI32, vI91, vI107, vI101, vI121, vI61]) (z := (25 : Int32)) ⟨by decide, by decide⟩ (by decide) rfl (g := (mkF m 7 #[lR r0] [(.ref b1)])) rfl (hb hby d29_7) (n := 100) (by decide) (by decide) (by decide) (by decide)
  have R23 := CHr.trans R19 CR22
  have f24 := ((A1.keep K12).ext E22)
  have nl25 := ne22 _ (Safe.exa hZ22.alike f24 (by decide) (by decide))
  have sf26 := (CHr.safe CR22 f17.lt (Safe.keep K12 (sfS (Safe.exa hZ.alike A1 (by decide) (by decide)) sf0) R3.1 sf20))
  have nl27 := ne22 _ sf26
  have f28 := (f15.ext E22)
  have f29 := (f13.ext E22)
  have f30 := (f17.ext E22)
  have f31 := (f14.ext E22)
  have zs32 := K12.1
  have zs33 := Nat.le_trans zs32 E22.1
  have o34 := Old.keep o11 K12 (allS g10 all0)
  have o35 := Old.ext o34 E22
  obtain ⟨_, T36, Lc36, X36, hQ36, st36⟩ := own_cV X22 hx hZ22 ho22 e22 (rm32_1 l Z a0 hw [] b1 a22 b22 k22 x1 b12_0 k12_0 h22 n0 o35 EE22 F22 V22 f7 hc8 C22 f28 f24 f29 f30 f31 g10 (Nat.lt_of_lt_of_le A1.lt zs33) (Ne.symm nl25.1) (Ne.symm nl25.2)) f24 (w 213 rfl) (w 214 rfl) (w 216 rfl) (w 215 rfl) (w 217 rfl) (w 194 rfl) (by decide) (W := 0) (by decide) (by decide) (by decide) (by decide) (g := (mkF m 9 #[lR r0] [(.ref a22), (.ref b1)])) rfl (by rw [hml]; rfl) (argsL := [(.ref a22)]) (rest := []) (lenOf pd__Ljava_lang_String__Ljava_lang_StringBuilder_ rfl) rfl (own_W rfl) (hb hby d29_9)
  obtain ⟨b36_0, k36_0, rfl, N36q, K36, f37, f38, f39, f40, f41, f42⟩ := hQ36
  have N36 := Fr.app N12 N36q
  have R43 := CHr.trans R23 (CHr.keep K36 (sfS (Safe.exa hZ22.alike f24 (by decide) (by decide)) sf0) R23.1)
  have sf44 : Safe Z consts_1 T22.vm h22 b36_0 := Safe.new f40
  have n47 := Nat.ne_of_lt (Nat.lt_of_lt_of_le l46 (Nat.le_of_eq g1.symm))
  have f48 := ((((f45.ext E1).keep K12 (ninS n47 nin0)).ext E22).keep K36 (ninS n47 nin0))
  obtain ⟨T49, X49, e49, st49⟩ := getF X36 hx hZ22 ho22 (host := "") (Or.inl (w 97 rfl)) Via.refl rfl f48 (g := (mkF m 13 #[lR r0] [(.ref r0), (.ref b1)])) rfl rfl (hb hby d29_13)
  have f51 := ((((f50.ext E1).keep K12).ext E22).keep K36)
  have n54 := Nat.ne_of_lt (Nat.lt_of_lt_of_le l53 (Nat.le_of_eq g1.symm))
  have f55 := ((((f52.ext E1).keep K12 (ninS n54 nin0)).ext E22).keep K36 (ninS n54 nin0))
  have n58 := Nat.ne_of_lt (Nat.lt_of_lt_of_le l57 (Nat.le_of_eq g1.symm))
  have f59 := ((((f56.ext E1).keep K12 (ninS n58 nin0)).ext E22).keep K36 (ninS n58 nin0))
  have f61 := ((((f60.ext E1).keep K12 (ninS n54 nin0)).ext E22).keep K36 (ninS n54 nin0))
  have f62 := (f24.keep K36)
  have zz63 : n0 ≤ h22.size := by rw [← o35.1]; exact o35.2.1
  have g64 := Nat.le_trans zz63 f40
  have n65 := Nat.ne_of_lt (Nat.lt_of_lt_of_le (Nat.lt_of_lt_of_le A1.lt zs33) f40)
  have o66 := Old.keep o35 K36 (allS g10 all0)
  obtain ⟨_, T67, Lc67, X67, hQ67, st67⟩ := own_cV X49 hx hZ22 ho22 e49 (rm32_2 l Z a0 hw [] b1 r2 r3 (2 : Int32) c4 ([(.int x5), (.int x6)]) x1 (0 : Int32) (25 : Int32) b36_0 (34 : Int32) k36_0 ([vI73, vI110, vI116, vI101, vI114, vI110, vI97, vI108, vI67, vI97, vI108, vI108, vI68, vI101, vI116, vI97, vI105, vI108, vI115, vI32, vI91, vI107, vI101, vI121, vI61, vI0, vI0, vI0, vI0, vI0, vI0, vI0, vI0, vI0]) (0 : Int32) T36.heap n0 o66 f51 f55 f59 f7 hc8 f61 f39 f62 f37 f42 f38 (by decide) (by decide) (by decide) (own_lenK (n := 2) rfl (by decide) : [(.int x5), (.int x6)].length = ((2 : Int32)).toNatClampNeg) (by decide) (by decide) (by decide) (by decide) g64 n65 g10) f62 (w 213 rfl) (w 214 rfl) (w 216 rfl) (w 215 rfl) (w 217 rfl) (w 194 rfl) (by decide) (W := 0) (by decide) (by decide) (by decide) (by decide) (g := (mkF m 16 #[lR r0] [(.ref r2), (.ref b1)])) rfl (by rw [hml]; rfl) (argsL := [(.ref r2)]) (rest := []) (lenOf pd__Ljava_lang_String__Ljava_lang_StringBuilder_ rfl) rfl (own_W rfl) (hb hby d29_16)
  obtain ⟨rfl, N67q, K67, f68, f69, f70, f71⟩ := hQ67
  have N67 := Fr.app N36 N67q
  have sf72 := (Safe.keep K36 (sfS (Safe.exa hZ22.alike f24 (by decide) (by decide)) sf0) R23.1 sf44)
  have R73 := CHr.trans R43 (CHr.keep K67 (sfS sf72 (sfS (Safe.exa hZ22.alike f62 (by decide) (by decide)) sf0)) R43.1)
  have f74 : Arv Z T67.heap b36_0 k36_0 .byte (34 : Int32) [vI73, vI110, vI116, vI101, vI114, vI110, vI97, vI108, vI67, vI97, vI108, vI108, vI68, vI101, vI116, vI97, vI105, vI108, vI115, vI32, vI91, vI107, vI101, vI121, vI61, (.int x5), (.int x6), vI0, vI0, vI0, vI0, vI0, vI0, vI0] vI0 := own_cpx (by decide : (((25 : Int32) <<< ((0 : Int32) &&& 31))).toNatClampNeg = 25) (by decide : (((25 : Int32) <<< ((0 : Int32) &&& 31))).toNatClampNeg + ((2 : Int32)).toNatClampNeg = 27) f68
  have zs76 := K36.1
  have zs77 := Nat.le_trans zs76 K67.1
  obtain ⟨a75, T75, h75, kk75, b75, k75, X75, e75, E75, hS75, hk75, hZ75, ho75, EE75, C75, F75, V75, l75, m75, CR75, -, ne75, st75⟩ := ldcCH (s := s) (vm0 := T22.vm) X67 hx hZ22 ho22 (w 272 rfl) hstr rfl hS22 (Nat.le_trans hk22 zs77) hEL (by simp [consts_1]) R73.1 (vs := [vI44, vI32, vI97, vI117, vI116, vI104, vI111, vI114, vI105, vI116, vI105, vI101, vI115, vI61]) (z := (14 : Int32)) ⟨by decide, by decide⟩ (by decide) rfl (g := (mkF m 19 #[lR r0] [(.ref b1)])) rfl (hb hby d29_19) (n := 56) (by decide) (by decide) (by decide) (by decide)
  have R78 := CHr.trans R73 CR75
  have f79 := ((f62.keep K67).ext E75)
  have nl80 := ne75 _ (Safe.exa hZ75.alike f79 (by decide) (by decide))
  have zs81 := E22.1
  have zs82 := Nat.le_trans zs81 K36.1
  have zs83 := Nat.le_trans zs82 K67.1
  have sf84 := (CHr.safe CR75 (Nat.lt_of_lt_of_le f17.lt zs83) (Safe.keep K67 (sfS sf72 (sfS (Safe.exa hZ22.alike f62 (by decide) (by decide)) sf0)) R43.1 (Safe.keep K36 (sfS (Safe.exa hZ22.alike f24 (by decide) (by decide)) sf0) R23.1 sf26)))
  have nl85 := ne75 _ sf84
  have zs86 := K67.1
  have sf87 := (CHr.safe CR75 (Nat.lt_of_lt_of_le f41.lt zs86) (Safe.keep K67 (sfS sf72 (sfS (Safe.exa hZ22.alike f62 (by decide) (by decide)) sf0)) R43.1 sf72))
  have nl88 := ne75 _ sf87
  have f89 := (f69.ext E75)
  have f90 := (f70.ext E75)
  have f91 := (f74.ext E75)
  have f92 := (f71.ext E75)
  have zs93 := Nat.le_trans zs33 K36.1
  have zs94 := Nat.le_trans zs93 K67.1
  have zs95 := Nat.le_trans zs94 E75.1
  have o96 := Old.keep o66 K67 (allS g64 (allS g10 all0))
  have o97 := Old.ext o96 E75
  obtain ⟨_, T98, Lc98, X98, hQ98, st98⟩ := own_cV X75 hx hZ75 ho75 e75 (rm32_3 l Z a0 hw [] b1 a75 b75 k75 x1 b36_0 k36_0 x5 x6 h75 n0 o97 EE75 F75 V75 f7 hc8 C75 f89 f79 f90 f91 f92 g10 (Nat.lt_of_lt_of_le A1.lt zs95) (Ne.symm nl80.1) (Ne.symm nl80.2)) f79 (w 213 rfl) (w 214 rfl) (w 216 rfl) (w 215 rfl) (w 217 rfl) (w 194 rfl) (by decide) (W := 0) (by decide) (by decide) (by decide) (by decide) (g := (mkF m 21 #[lR r0] [(.ref a75), (.ref b1)])) rfl (by rw [hml]; rfl) (argsL := [(.ref a75)]) (rest := []) (lenOf pd__Ljava_lang_String__Ljava_lang_StringBuilder_ rfl) rfl (own_W rfl) (hb hby d29_21)
  obtain ⟨b98_0, k98_0, rfl, N98q, K98, f99, f100, f101, f102, f103, f104⟩ := hQ98
  have N98 := Fr.app N67 N98q
  have R105 := CHr.trans R78 (CHr.keep K98 (sfS (Safe.exa hZ75.alike f79 (by decide) (by decide)) sf0) R78.1)
  have sf106 : Safe Z consts_1 T75.vm h75 b98_0 := Safe.new f102
  have zs108 := E1.1
  have zs109 := Nat.le_trans zs108 K12.1
  have zs110 := Nat.le_trans zs109 E22.1
  have n111 := Nat.ne_of_lt (Nat.lt_of_lt_of_le (Nat.lt_of_lt_of_le l46 zs110) f40)
  have f112 := (((((((f107.ext E1).keep K12 (ninS n47 nin0)).ext E22).keep K36 (ninS n47 nin0)).keep K67 (ninS n111 (ninS n47 nin0))).ext E75).keep K98 (ninS n47 nin0))
  obtain ⟨T113, X113, e113, st113⟩ := getF X98 hx hZ75 ho75 (host := "") (Or.inl (w 185 rfl)) Via.refl rfl f112 (g := (mkF m 25 #[lR r0] [(.ref r0), (.ref b1)])) rfl rfl (hb hby d29_25)
  have f115 := (((((((f114.ext E1).keep K12).ext E22).keep K36).keep K67).ext E75).keep K98)
  have n118 := Nat.ne_of_lt (Nat.lt_of_lt_of_le l117 (Nat.le_of_eq g1.symm))
  have n119 := Nat.ne_of_lt (Nat.lt_of_lt_of_le (Nat.lt_of_lt_of_le l117 zs110) f40)
  have f120 := (((((((f116.ext E1).keep K12 (ninS n118 nin0)).ext E22).keep K36 (ninS n118 nin0)).keep K67 (ninS n119 (ninS n118 nin0))).ext E75).keep K98 (ninS n118 nin0))
  have f125 := (((((((f124.ext E1).keep K12 (ninS n118 nin0)).ext E22).keep K36 (ninS n118 nin0)).keep K67 (ninS n119 (ninS n118 nin0))).ext E75).keep K98 (ninS n118 nin0))
  have zs126 := Nat.le_trans zs110 K36.1
  have zs127 := Nat.le_trans zs126 K67.1
  have zs128 := Nat.le_trans zs127 E75.1
  have zs129 := Nat.le_trans zs128 K98.1
  have f132 := (((((((f131.ext E1).keep K12).ext E22).keep K36).keep K67).ext E75).keep K98)
  have n135 := Nat.ne_of_lt (Nat.lt_of_lt_of_le l134 (Nat.le_of_eq g1.symm))
  have n136 := Nat.ne_of_lt (Nat.lt_of_lt_of_le (Nat.lt_of_lt_of_le l134 zs110) f40)
  have f137 := (((((((f133.ext E1).keep K12 (ninS n135 nin0)).ext E22).keep K36 (ninS n135 nin0)).keep K67 (ninS n136 (ninS n135 nin0))).ext E75).keep K98 (ninS n135 nin0))
  have n140 := Nat.ne_of_lt (Nat.lt_of_lt_of_le l139 (Nat.le_of_eq g1.symm))
  have n141 := Nat.ne_of_lt (Nat.lt_of_lt_of_le (Nat.lt_of_lt_of_le l139 zs110) f40)
  have f142 := (((((((f138.ext E1).keep K12 (ninS n140 nin0)).ext E22).keep K36 (ninS n140 nin0)).keep K67 (ninS n141 (ninS n140 nin0))).ext E75).keep K98 (ninS n140 nin0))
  have f144 := (((((((f143.ext E1).keep K12 (ninS n135 nin0)).ext E22).keep K36 (ninS n135 nin0)).keep K67 (ninS n136 (ninS n135 nin0))).ext E75).keep K98 (ninS n135 nin0))
  have f147 := (((((((f146.ext E1).keep K12).ext E22).keep K36).keep K67).ext E75).keep K98)
  have n150 := Nat.ne_of_lt (Nat.lt_of_lt_of_le l149 (Nat.le_of_eq g1.symm))
  have n151 := Nat.ne_of_lt (Nat.lt_of_lt_of_le (Nat.lt_of_lt_of_le l149 zs110) f40)
  have f152 := (((((((f148.ext E1).keep K12 (ninS n150 nin0)).ext E22).keep K36 (ninS n150 nin0)).keep K67 (ninS n151 (ninS n150 nin0))).ext E75).keep K98 (ninS n150 nin0))
  have n155 := Nat.ne_of_lt (Nat.lt_of_lt_of_le l154 (Nat.le_of_eq g1.symm))
  have n156 := Nat.ne_of_lt (Nat.lt_of_lt_of_le (Nat.lt_of_lt_of_le l154 zs110) f40)
  have f157 := (((((((f153.ext E1).keep K12 (ninS n155 nin0)).ext E22).keep K36 (ninS n155 nin0)).keep K67 (ninS n156 (ninS n155 nin0))).ext E75).keep K98 (ninS n155 nin0))
  have f159 := (((((((f158.ext E1).keep K12 (ninS n150 nin0)).ext E22).keep K36 (ninS n150 nin0)).keep K67 (ninS n151 (ninS n150 nin0))).ext E75).keep K98 (ninS n150 nin0))
  have f160 := (f79.keep K98)
  have zz161 : n0 ≤ h75.size := by rw [← o97.1]; exact o97.2.1
  have g162 := Nat.le_trans zz161 f102
  have n163 := Nat.ne_of_lt (Nat.lt_of_lt_of_le (Nat.lt_of_lt_of_le A1.lt zs95) f102)
  have o164 := Old.keep o97 K98 (allS g10 all0)
  obtain ⟨_, T165, Lc165, X165, hQ165, st165⟩ := own_cV X113 hx hZ75 ho75 e113 (rm43_5 l Z a0 hw [] b1 r7 r8 r9 x1 r10 r11 c12 x13 x14 r15 c16 x17 x18 b98_0 k98_0 x5 x6 T98.heap n0 o164 f115 f120 f121 f122 g123 f7 hc8 f125 (Nat.lt_of_lt_of_le l117 zs129) n130 f132 f137 (Nat.lt_of_lt_of_le l134 zs129) f142 (Nat.lt_of_lt_of_le l139 zs129) f144 n145 f147 f152 (Nat.lt_of_lt_of_le l149 zs129) f157 (Nat.lt_of_lt_of_le l154 zs129) f159 f160 f101 f99 f104 f100 g162 n163 g10) f160 (w 273 rfl) (w 274 rfl) (w 276 rfl) (w 275 rfl) (w 277 rfl) (w 194 rfl) (by decide) (W := 0) (by decide) (by decide) (by decide) (by decide) (g := (mkF m 28 #[lR r0] [(.ref r7), (.ref b1)])) rfl (by rw [hml]; rfl) (argsL := [(.ref r7)]) (rest := []) (lenOf pd__Ljava_lang_Object__Ljava_lang_StringBuilder_ rfl) rfl (own_W rfl) (hb hby d29_28)
  obtain ⟨rfl, N165q, K165, f166, f167, f168, f169⟩ := hQ165
  have N165 := Fr.app N98 N165q
  have sf170 := (Safe.keep K98 (sfS (Safe.exa hZ75.alike f79 (by decide) (by decide)) sf0) R78.1 sf106)
  have R171 := CHr.trans R105 (CHr.keep K165 (sfS sf170 (sfS (Safe.exa hZ75.alike f160 (by decide) (by decide)) sf0)) R105.1)
  have zs173 := K98.1
  have zs174 := Nat.le_trans zs173 K165.1
  obtain ⟨a172, T172, h172, kk172, b172, k172, X172, e172, E172, hS172, hk172, hZ172, ho172, EE172, C172, F172, V172, l172, m172, CR172, -, ne172, st172⟩ := ldcCH (s := s) (vm0 := T75.vm) X165 hx hZ75 ho75 (w 401 rfl) hstr rfl hS75 (Nat.le_trans hk75 zs174) hEL (by simp [consts_1]) R171.1 (vs := [vI93]) (z := (1 : Int32)) ⟨by decide, by decide⟩ (by decide) rfl (g := (mkF m 31 #[lR r0] [(.ref b1)])) rfl (hb hby d29_31) (n := 4) (by decide) (by decide) (by decide) (by decide)
  have R175 := CHr.trans R171 CR172
  have f176 := ((f160.keep K165).ext E172)
  have nl177 := ne172 _ (Safe.exa hZ172.alike f176 (by decide) (by decide))
  have zs178 := Nat.le_trans zs83 E75.1
  have zs179 := Nat.le_trans zs178 K98.1
  have zs180 := Nat.le_trans zs179 K165.1
  have sf181 := (CHr.safe CR172 (Nat.lt_of_lt_of_le f17.lt zs180) (Safe.keep K165 (sfS sf170 (sfS (Safe.exa hZ75.alike f160 (by decide) (by decide)) sf0)) R105.1 (Safe.keep K98 (sfS (Safe.exa hZ75.alike f79 (by decide) (by decide)) sf0) R78.1 sf84)))
  have nl182 := ne172 _ sf181
  have zs183 := Nat.le_trans zs86 E75.1
  have zs184 := Nat.le_trans zs183 K98.1
  have zs185 := Nat.le_trans zs184 K165.1
  have sf186 := (CHr.safe CR172 (Nat.lt_of_lt_of_le f41.lt zs185) (Safe.keep K165 (sfS sf170 (sfS (Safe.exa hZ75.alike f160 (by decide) (by decide)) sf0)) R105.1 (Safe.keep K98 (sfS (Safe.exa hZ75.alike f79 (by decide) (by decide)) sf0) R78.1 sf87)))
  have nl187 := ne172 _ sf186
  have zs188 := K165.1
  have sf189 := (CHr.safe CR172 (Nat.lt_of_lt_of_le f103.lt zs188) (Safe.keep K165 (sfS sf170 (sfS (Safe.exa hZ75.alike f160 (by decide) (by decide)) sf0)) R105.1 sf170))
  have nl190 := ne172 _ sf189
  have f191 := ((f115.keep K165).ext E172)
  have nl192 := ne172 _ (Safe.exa hZ172.alike f191 (by decide) (by decide))
  have f193 := (f167.ext E172)
  have f194 := (f168.ext E172)
  have f195 := (f166.ext E172)
  have f196 := (f169.ext E172)
  have o197 := Old.keep o164 K165 (allS g162 (allS g10 all0))
  have o198 := Old.ext o197 E172
  obtain ⟨_, T199, Lc199, X199, hQ199, st199⟩ := own_cV X172 hx hZ172 ho172 e172 (rm32_2 l Z a0 hw [] b1 a172 b172 (1 : Int32) k172 ([vI93]) x1 (0 : Int32) (49 : Int32) b98_0 (70 : Int32) k98_0 ([vI73, vI110, vI116, vI101, vI114, vI110, vI97, vI108, vI67, vI97, vI108, vI108, vI68, vI101, vI116, vI97, vI105, vI108, vI115, vI32, vI91, vI107, vI101, vI121, vI61, (.int x5), (.int x6), vI44, vI32, vI97, vI117, vI116, vI104, vI111, vI114, vI105, vI116, vI105, vI101, vI115, vI61, vI91, (.int x13), (.int x14), vI44, vI32, (.int x17), (.int x18), vI93, vI0, vI0, vI0, vI0, vI0, vI0, vI0, vI0, vI0, vI0, vI0, vI0, vI0, vI0, vI0, vI0, vI0, vI0, vI0, vI0, vI0]) (0 : Int32) h172 n0 o198 EE172 F172 V172 f7 hc8 C172 f193 f176 f194 f195 f196 (by decide) (by decide) (by decide) (by decide) (own_lenK (n := 70) rfl (by decide) : [vI73, vI110, vI116, vI101, vI114, vI110, vI97, vI108, vI67, vI97, vI108, vI108, vI68, vI101, vI116, vI97, vI105, vI108, vI115, vI32, vI91, vI107, vI101, vI121, vI61, (.int x5), (.int x6), vI44, vI32, vI97, vI117, vI116, vI104, vI111, vI114, vI105, vI116, vI105, vI101, vI115, vI61, vI91, (.int x13), (.int x14), vI44, vI32, (.int x17), (.int x18), vI93, vI0, vI0, vI0, vI0, vI0, vI0, vI0, vI0, vI0, vI0, vI0, vI0, vI0, vI0, vI0, vI0, vI0, vI0, vI0, vI0, vI0].length = ((70 : Int32)).toNatClampNeg) (by decide) (by decide) (by decide) g162 n163 g10) f176 (w 213 rfl) (w 214 rfl) (w 216 rfl) (w 215 rfl) (w 217 rfl) (w 194 rfl) (by decide) (W := 0) (by decide) (by decide) (by decide) (by decide) (g := (mkF m 33 #[lR r0] [(.ref a172), (.ref b1)])) rfl (by rw [hml]; rfl) (argsL := [(.ref a172)]) (rest := []) (lenOf pd__Ljava_lang_String__Ljava_lang_StringBuilder_ rfl) rfl (own_W rfl) (hb hby d29_33)
  obtain ⟨rfl, N199q, K199, f200, f201, f202, f203⟩ := hQ199
  have N199 := Fr.app N165 N199q
  have R204 := CHr.trans R175 (CHr.keep K199 (sfS sf189 (sfS (Safe.exa hZ172.alike f176 (by decide) (by decide)) sf0)) R175.1)
  have f205 : Arv Z T199.heap b98_0 k98_0 .byte (70 : Int32) [vI73, vI110, vI116, vI101, vI114, vI110, vI97, vI108, vI67, vI97, vI108, vI108, vI68, vI101, vI116, vI97, vI105, vI108, vI115, vI32, vI91, vI107, vI101, vI121, vI61, (.int x5), (.int x6), vI44, vI32, vI97, vI117, vI116, vI104, vI111, vI114, vI105, vI116, vI105, vI101, vI115, vI61, vI91, (.int x13), (.int x14), vI44, vI32, (.int x17), (.int x18), vI93, vI93, vI0, vI0, vI0, vI0, vI0, vI0, vI0, vI0, vI0, vI0, vI0, vI0, vI0, vI0, vI0, vI0, vI0, vI0, vI0, vI0] vI0 := own_cpx (by decide : (((49 : Int32) <<< ((0 : Int32) &&& 31))).toNatClampNeg = 49) (by decide : (((49 : Int32) <<< ((0 : Int32) &&& 31))).toNatClampNeg + ((1 : Int32)).toNatClampNeg = 50) f200
  have f206 := (f176.keep K199)
  have zs207 := Nat.le_trans zs188 E172.1
  have zs208 := Nat.le_trans zs207 K199.1
  have o209 := Old.keep o198 K199 (allS g162 (allS g10 all0))
  obtain ⟨_, T210, Lc210, X210, hQ210, st210⟩ := own_cV X199 hx hZ172 ho172 rfl (rm57_1 l Z a0 hw [] b1 b98_0 (50 : Int32) x1 (0 : Int32) (70 : Int32) k98_0 ([vI73, vI110, vI116, vI101, vI114, vI110, vI97, vI108, vI67, vI97, vI108, vI108, vI68, vI101, vI116, vI97, vI105, vI108, vI115, vI32, vI91, vI107, vI101, vI121, vI61, (.int x5), (.int x6), vI44, vI32, vI97, vI117, vI116, vI104, vI111, vI114, vI105, vI116, vI105, vI101, vI115, vI61, vI91, (.int x13), (.int x14), vI44, vI32, (.int x17), (.int x18), vI93, vI93, vI0, vI0, vI0, vI0, vI0, vI0, vI0, vI0, vI0, vI0, vI0, vI0, vI0, vI0, vI0, vI0, vI0, vI0, vI0, vI0]) T199.heap n0 o209 f206 f202 f201 f7 hc8 f203 (by decide) f205 (Nat.lt_of_lt_of_le f103.lt zs208) (by decide) (by decide) (by decide) (by decide) (by decide) (by decide)) f206 (w 402 rfl) (w 367 rfl) (w 369 rfl) (w 368 rfl) (w 370 rfl) (w 194 rfl) (by decide) (W := 0) (by decide) (by decide) (by decide) (by decide) (g := (mkF m 36 #[lR r0] [(.ref b1)])) rfl (by rw [hml]; rfl) (argsL := []) (rest := []) (lenOf pd___Ljava_lang_String_ rfl) rfl (own_W rfl) (hb hby d29_36)
  obtain ⟨b210_0, b210_1, k210_0, rfl, N210q, K210, f211, f212, f213, f214, f215, f216, f217, f218⟩ := hQ210
  have N210 := Fr.app N199 N210q
  have R219 := CHr.trans R204 (CHr.keep K210 sf0 R204.1)
  have sf220 : Safe Z consts_1 T172.vm T199.heap b210_0 := Safe.new f211
  have sf221 : Safe Z consts_1 T172.vm T199.heap b210_1 := Safe.new f215
  have f222 : Arv Z T210.heap b210_1 k210_0 .byte (50 : Int32) [vI73, vI110, vI116, vI101, vI114, vI110, vI97, vI108, vI67, vI97, vI108, vI108, vI68, vI101, vI116, vI97, vI105, vI108, vI115, vI32, vI91, vI107, vI101, vI121, vI61, (.int x5), (.int x6), vI44, vI32, vI97, vI117, vI116, vI104, vI111, vI114, vI105, vI116, vI105, vI101, vI115, vI61, vI91, (.int x13), (.int x14), vI44, vI32, (.int x17), (.int x18), vI93, vI93] vI0 := own_trunc (ws := [vI73, vI110, vI116, vI101, vI114, vI110, vI97, vI108, vI67, vI97, vI108, vI108, vI68, vI101, vI116, vI97, vI105, vI108, vI115, vI32, vI91, vI107, vI101, vI121, vI61, (.int x5), (.int x6), vI44, vI32, vI97, vI117, vI116, vI104, vI111, vI114, vI105, vI116, vI105, vI101, vI115, vI61, vI91, (.int x13), (.int x14), vI44, vI32, (.int x17), (.int x18), vI93, vI93]) (rest := [vI0, vI0, vI0, vI0, vI0, vI0, vI0, vI0, vI0, vI0, vI0, vI0, vI0, vI0, vI0, vI0, vI0, vI0, vI0, vI0]) (own_lenK (n := 50) rfl (by decide)) f216
  have zs223 := Nat.le_trans zs129 K165.1
  have zs224 := Nat.le_trans zs223 E172.1
  have zs225 := Nat.le_trans zs224 K199.1
  have kp226 : Keep h0 h1 [] := (Keep.refl h0 []).ext E1
  have kp227 : Keep h0 T12.heap [] := kp226.trans K12 (allS (Or.inr (Nat.le_of_eq g1.symm)) all0)
  have kp228 : Keep h0 h22 [] := kp227.ext E22
  have kp229 : Keep h0 T36.heap [] := kp228.trans K36 (allS (Or.inr (Nat.le_of_eq g1.symm)) all0)
  have kp230 : Keep h0 T67.heap [] := kp229.trans K67 (allS (Or.inr (Nat.le_trans zs110 f40)) (allS (Or.inr (Nat.le_of_eq g1.symm)) all0))
  have kp231 : Keep h0 h75 [] := kp230.ext E75
  have kp232 : Keep h0 T98.heap [] := kp231.trans K98 (allS (Or.inr (Nat.le_of_eq g1.symm)) all0)
  have kp233 : Keep h0 T165.heap [] := kp232.trans K165 (allS (Or.inr (Nat.le_trans zs128 f102)) (allS (Or.inr (Nat.le_of_eq g1.symm)) all0))
  have kp234 : Keep h0 h172 [] := kp233.ext E172
  have kp235 : Keep h0 T199.heap [] := kp234.trans K199 (allS (Or.inr (Nat.le_trans zs128 f102)) (allS (Or.inr (Nat.le_of_eq g1.symm)) all0))
  have kp236 : Keep h0 T210.heap [] := kp235.trans K210 all0
  have zs237 := K199.1
  have zs238 := Nat.le_trans zs237 K210.1
  refine ⟨some (.ref b210_0), _, _, _, _, _, _, _, nofun, X210, by decide, by decide, hS172, ((Nat.le_trans hk172 zs238)), hZ172, rfl, R219, ?_, fun fs hr => ?_⟩
  · exact ⟨b210_0, b210_1, k210_0, rfl, N210, kp236, (Nat.le_trans zs225 f211), f212, f213, f214, (Nat.le_trans zs225 f215), f222, f217, f218⟩
  · show SG p e below s₁ (mkF m 0 #[lR r0] []) _
    refine st1 _ ?_
    refine qd X1 hx hby d29_3 ?_
    refine st12.trans ?_
    refine st22 _ ?_
    refine st36 _ ?_
    refine qaN X36 hx hby d29_12 ?_
    refine st49 _ ?_
    refine st67 _ ?_
    refine st75 _ ?_
    refine st98 _ ?_
    refine qaN X98 hx hby d29_24 ?_
    refine st113 _ ?_
    refine st165 _ ?_
    refine st172 _ ?_
    refine st199 _ ?_
    refine st210 _ ?_
    exact retOut X210 hx (i := .areturn) hret rfl (Or.inr (Or.inr (Or.inr (Or.inr ⟨rfl, rfl, rfl⟩)))) (hb hby d29_39) hr
def Q0_3 (Z : State)  (h0 : Heap) (n0 : Nat) (v : Option Value) (h : Heap) (L : List Loc) : Prop := v = some vI1 ∧ Fr n0 L
theorem rm0_3 (l : Launch) (Z : State) (a0 : Array Value) (hw : own_HW a0 Z) (ws : List Jvm.Cond) (x0 x1 : Int32) (x2 x3 : Int32) (x4 x5 : Int32) (x6 x7 : Int32) (x8 x9 x10 : Int32) (r11 : Addr) (c12 : ClassId) (r13 r14 : Addr) (h0 : Heap) (n0 : Nat) (O0 : Old Z n0 h0) (hq2 : ((x0 &&& (255 : Int32)).toUInt32.toUInt16.toUInt32.toInt32) = x4) (hq3 : ((((x0.toUInt32 >>> ((8 : Int32) &&& 31).toUInt32).toInt32) &&& (255 : Int32)).toUInt32.toUInt16.toUInt32.toInt32) = x5) (hq4 : ((x1 &&& (255 : Int32)).toUInt32.toUInt16.toUInt32.toInt32) = x6) (hq5 : ((((x1.toUInt32 >>> ((8 : Int32) &&& 31).toUInt32).toInt32) &&& (255 : Int32)).toUInt32.toUInt16.toUInt32.toInt32) = x7) (hq6 : ((x2 &&& (255 : Int32)).toUInt32.toUInt16.toUInt32.toInt32) = x8) (hq7 : ((((x2.toUInt32 >>> ((8 : Int32) &&& 31).toUInt32).toInt32) &&& (255 : Int32)).toUInt32.toUInt16.toUInt32.toInt32) = x9) (hc8 : ((x3 &&& (2147483647 : Int32)) % (3 : Int32)) = (2 : Int32)) (f33 : Sta Z Z.heap cs8 cs9 "Z" (.int x10)) (hc38 : ¬ (x10 = (0 : Int32))) (hc41 : ¬ ((255 : Int32) < (nar .char x4))) (hc42 : ¬ ((255 : Int32) < (nar .char x5))) (hc84 : ¬ ((255 : Int32) < (nar .char x6))) (hc85 : ¬ ((255 : Int32) < (nar .char x7))) (hc127 : ¬ ((255 : Int32) < (nar .char x8))) (hc128 : ¬ ((255 : Int32) < (nar .char x9))) (f148 : Sta Z Z.heap cs2 cs6 cs4 (.ref r11)) (f156 : Arv Z Z.heap r11 c12 (.object cs5) (0 : Int32) [] .null) (f211 : own_Mir Z cs4 r13) (f285 : Sta Z Z.heap cs12 "EMPTY" cs46 (.ref r14)) (f286 : Exa Z Z.heap r14 cs5) :
    own_MH l x code maxLocals ret ws room_1 Z h0 #[(.int x0), (.int x1), (.int x2), (.int x3)] (Q0_3 Z  h0 n0) := by
  have hEL : EW Z a0 consts_1 := own_EW hw
  refine own_openH hEL (plainFor_of_name pn_com_example_innerkey_innerkey_InternalCallDetailsToStringPinLaw) (L0 := #[lI x0, lI x1, lI x2, lI x3, lU, lU, lU, lU, lU, lU, lU, lU, lU, lU, lU, lU, lU]) (fun _ => by first | (simp [entryFrame, mkF, argsToLocals, Value.category, maxLocals]; done) | rfl) ?_
  intro p e s m below meth c s₁ hx hby hml hret hnn hZ hown X0 e0 R0
  have N0 := Fr.nil n0; have w := @ww Z a0 hw
  have hS1 := (State.WarmedH.refl s).since 0
  obtain ⟨T9, h9, X9, e9, E9, A9, D9, -, st9⟩ := newO X0 hx hZ hown (w 1 rfl) (w 2 rfl) (w 3 rfl) e0 (g := (mkF m 65 #[lI x0, lI x1, lI x2, lI x3, lI x4, lI x5, lI x6, lI x7, lI x8, lI x9, lV vI2, lU, lU, lU, lU, lU, lU] [])) rfl (hb hby at_65) (by decide) (by decide)
  obtain ⟨b9, g9⟩ : ∃ z, z = h0.size := ⟨_, rfl⟩
  have sf10 : Safe Z consts_1 s.vm h0 b9 := Safe.new (Nat.le_of_eq g9.symm)
  rw [← g9] at A9 D9 st9
  have R11 := CHr.trans R0 (CHr.ext E9 R0.1)
  have f12 : Fld Z h9 b9 cs8 "coder" "B" vI0 := D9 (Or.inr (w 28 rfl)) (ty := .byte) (by decide)
  have f13 : Fld Z h9 b9 cs8 "value" "[B" .null := D9 (Or.inr (w 30 rfl)) (ty := (.array .byte)) (by decide)
  obtain ⟨T14, h14, k14, X14, e14, E14, A14, B14, st14⟩ := newPE X9 hx hZ (w 4 rfl) e9 (g := (mkF m 70 #[lI x0, lI x1, lI x2, lI x3, lI x4, lI x5, lI x6, lI x7, lI x8, lI x9, lV vI2, lU, lU, lU, lU, lU, lU] [vI2, (.ref b9), (.ref b9)])) rfl (hb hby at_70) rfl (by decide) (cap := 2) (by decide) (by decide) (by decide) (by decide) (ad := "[C") rfl
  obtain ⟨b14, g14⟩ : ∃ z, z = h9.size := ⟨_, rfl⟩
  have sf15 : Safe Z consts_1 s.vm h9 b14 := Safe.new (Nat.le_of_eq g14.symm)
  rw [← g14] at A14 B14 st14
  have R16 := CHr.trans R11 (CHr.ext E14 R11.1)
  have V14 : Arv Z h14 b14 k14 .char (2 : Int32) [vI0, vI0] vI0 := (Arv.new A14 (by decide)).pad (pad_rep [] vI0 2)
  obtain ⟨clq17, Arq17, qq17, Sq17, Nq17, Hq17, Gq17⟩ := id V14
  have o19 := Old.ext O0 E9
  have zz18 : n0 ≤ h9.size := by rw [← o19.1]; exact o19.2.1
  have g20 := Nat.le_trans zz18 (Nat.le_of_eq g14.symm)
  obtain ⟨T21, h21, X21, e21, W21, st21⟩ := stC X14 hx hZ e14 Arq17 (j := (0 : Int32)) (inb_of Sq17 ⟨(by decide : ¬ ((0 : Int32) < (0 : Int32))), (by decide : (0 : Int32) < (2 : Int32))⟩) (g := (mkF m 76 #[lI x0, lI x1, lI x2, lI x3, lI x4, lI x5, lI x6, lI x7, lI x8, lI x9, lV vI2, lU, lU, lU, lU, lU, lU] [(.int x4), vI0, (.ref b14), (.ref b14), (.ref b9), (.ref b9)])) rfl rfl (hb hby at_76)
  have sf22 : Safe Z consts_1 s.vm h14 b14 := (Safe.exa hZ.alike B14 (by decide) (by decide))
  have R23 := CHr.trans R16 (CHr.wr W21 sf22 R16.1)
  have V21 : Arv Z h21 b14 k14 .char (2 : Int32) [(.int (nar .char x4)), vI0] vI0 := Arv.set Arq17 qq17 Sq17 Nq17 Hq17 Gq17 (fits_nar_char _) W21 0 rfl (Nat.le_of_ble_eq_true rfl)
  have N21 := Fr.snoc X21 N0 g20
  obtain ⟨clq24, Arq24, qq24, Sq24, Nq24, Hq24, Gq24⟩ := id V21
  obtain ⟨T25, h25, X25, e25, W25, st25⟩ := stC X21 hx hZ e21 Arq24 (j := (1 : Int32)) (inb_of Sq24 ⟨(by decide : ¬ ((1 : Int32) < (0 : Int32))), (by decide : (1 : Int32) < (2 : Int32))⟩) (g := (mkF m 81 #[lI x0, lI x1, lI x2, lI x3, lI x4, lI x5, lI x6, lI x7, lI x8, lI x9, lV vI2, lU, lU, lU, lU, lU, lU] [(.int x5), vI1, (.ref b14), (.ref b14), (.ref b9), (.ref b9)])) rfl rfl (hb hby at_81)
  have f26 := (B14.wr W21)
  have sf27 : Safe Z consts_1 s.vm h21 b14 := (Safe.exa hZ.alike f26 (by decide) (by decide))
  have R28 := CHr.trans R23 (CHr.wr W25 sf27 R23.1)
  have V25 : Arv Z h25 b14 k14 .char (2 : Int32) [(.int (nar .char x4)), (.int (nar .char x5))] vI0 := Arv.set Arq24 qq24 Sq24 Nq24 Hq24 Gq24 (fits_nar_char _) W25 1 rfl (Nat.le_of_ble_eq_true rfl)
  have N25 := Fr.snoc X25 N21 g20
  have f29 := (((A9.ext E14).wr W21).wr W25)
  have n30 := Nat.ne_of_lt (Nat.lt_of_lt_of_le A9.lt (Nat.le_of_eq g14.symm))
  have f31 := (((f13.ext E14).other W21 (Or.inl n30)).other W25 (Or.inl n30))
  have f32 := (((f12.ext E14).other W21 (Or.inl n30)).other W25 (Or.inl n30))
  have o34 := Old.ext o19 E14
  have o35 := Old.wr o34 W21 g20
  have o36 := Old.wr o35 W25 g20
  have f37 := f33.ext o36.2
  have zz39 : n0 ≤ h0.size := by rw [← O0.1]; exact O0.2.1
  have g40 := Nat.le_trans zz39 (Nat.le_of_eq g9.symm)
  obtain ⟨_, T43, Lc43, X43, hQ43, st43⟩ := own_fin (X25.specialBack hx (y := mN4) rfl hown (mvT hZ (w 5 rfl)) (mvT hZ (w 6 rfl)) (mvT hZ (w 7 rfl)) (by decide) (own_newStr hZ hw (w 2 rfl) (cs := [(nar .char x4), (nar .char x5)]) (n := 2) g40 f29 f31 f32 V25 f37 hc38 rfl rfl (by decide) (by decide) (own_acS hc41 (own_acS hc42 own_ac0)) (own_bsS rfl (own_bsS rfl own_bs0)) (by decide) (by decide : 1 + 65 ≤ _)) (g := (mkF m 82 #[lI x0, lI x1, lI x2, lI x3, lI x4, lI x5, lI x6, lI x7, lI x8, lI x9, lV vI2, lU, lU, lU, lU, lU, lU] [(.ref b14), (.ref b9), (.ref b9)])) rfl (by rw [hml]; rfl) (Steps.refl _) (a := b9) (argsL := [(.ref b14)]) (rest := [(.ref b9)]) (lenOf pd___C_V rfl) rfl (own_W rfl) (hb hby at_82) (fun _ _ => ⟨rfl, e25, (by decide : 2 + 1 ≤ _), (by decide : 6 + 2 ≤ _)⟩))
  obtain ⟨b43_0, k43_0, rfl, N43q, K43, f44, f45, f46, f47, f48, f49⟩ := hQ43
  have N43 := Fr.app N25 N43q
  have sf50 := (Safe.wr W25 sf27 R23.1 (Safe.wr W21 sf22 R16.1 (Safe.ext E14 R11.1 (Safe.ext E9 R0.1 sf10))))
  have R51 := CHr.trans R28 (CHr.keep K43 (sfS sf50 sf0) R28.1)
  have sf52 : Safe Z consts_1 s.vm h25 b43_0 := Safe.new f46
  obtain ⟨T53, h53, X53, e53, E53, A53, D53, -, st53⟩ := newO X43 hx hZ hown (w 1 rfl) (w 2 rfl) (w 3 rfl) rfl (g := (mkF m 87 #[lI x0, lI x1, lI x2, lI x3, lI x4, lI x5, lI x6, lI x7, lI x8, lI x9, lV vI2, lR b9, lU, lU, lU, lU, lU] [])) rfl (hb hby at_87) (by decide) (by decide)
  obtain ⟨b53, g53⟩ : ∃ z, z = T43.heap.size := ⟨_, rfl⟩
  have sf54 : Safe Z consts_1 s.vm T43.heap b53 := Safe.new (Nat.le_of_eq g53.symm)
  rw [← g53] at A53 D53 st53
  have R55 := CHr.trans R51 (CHr.ext E53 R51.1)
  have f56 : Fld Z h53 b53 cs8 "coder" "B" vI0 := D53 (Or.inr (w 28 rfl)) (ty := .byte) (by decide)
  have f57 : Fld Z h53 b53 cs8 "value" "[B" .null := D53 (Or.inr (w 30 rfl)) (ty := (.array .byte)) (by decide)
  obtain ⟨T58, h58, k58, X58, e58, E58, A58, B58, st58⟩ := newPE X53 hx hZ (w 4 rfl) e53 (g := (mkF m 92 #[lI x0, lI x1, lI x2, lI x3, lI x4, lI x5, lI x6, lI x7, lI x8, lI x9, lV vI2, lR b9, lU, lU, lU, lU, lU] [vI2, (.ref b53), (.ref b53)])) rfl (hb hby at_92) rfl (by decide) (cap := 2) (by decide) (by decide) (by decide) (by decide) (ad := "[C") rfl
  obtain ⟨b58, g58⟩ : ∃ z, z = h53.size := ⟨_, rfl⟩
  have sf59 : Safe Z consts_1 s.vm h53 b58 := Safe.new (Nat.le_of_eq g58.symm)
  rw [← g58] at A58 B58 st58
  have R60 := CHr.trans R55 (CHr.ext E58 R55.1)
  have V58 : Arv Z h58 b58 k58 .char (2 : Int32) [vI0, vI0] vI0 := (Arv.new A58 (by decide)).pad (pad_rep [] vI0 2)
  obtain ⟨clq61, Arq61, qq61, Sq61, Nq61, Hq61, Gq61⟩ := id V58
  have o63 := Old.keep o36 K43 (allS g40 all0)
  have o64 := Old.ext o63 E53
  have zz62 : n0 ≤ h53.size := by rw [← o64.1]; exact o64.2.1
  have g65 := Nat.le_trans zz62 (Nat.le_of_eq g58.symm)
  obtain ⟨T66, h66, X66, e66, W66, st66⟩ := stC X58 hx hZ e58 Arq61 (j := (0 : Int32)) (inb_of Sq61 ⟨(by decide : ¬ ((0 : Int32) < (0 : Int32))), (by decide : (0 : Int32) < (2 : Int32))⟩) (g := (mkF m 98 #[lI x0, lI x1, lI x2, lI x3, lI x4, lI x5, lI x6, lI x7, lI x8, lI x9, lV vI2, lR b9, lU, lU, lU, lU, lU] [(.int x6), vI0, (.ref b58), (.ref b58), (.ref b53), (.ref b53)])) rfl rfl (hb hby at_98)
  have sf67 : Safe Z consts_1 s.vm h58 b58 := (Safe.exa hZ.alike B58 (by decide) (by decide))
  have R68 := CHr.trans R60 (CHr.wr W66 sf67 R60.1)
  have V66 : Arv Z h66 b58 k58 .char (2 : Int32) [(.int (nar .char x6)), vI0] vI0 := Arv.set Arq61 qq61 Sq61 Nq61 Hq61 Gq61 (fits_nar_char _) W66 0 rfl (Nat.le_of_ble_eq_true rfl)
  have N66 := Fr.snoc X66 N43 g65
  obtain ⟨clq69, Arq69, qq69, Sq69, Nq69, Hq69, Gq69⟩ := id V66
  obtain ⟨T70, h70, X70, e70, W70, st70⟩ := stC X66 hx hZ e66 Arq69 (j := (1 : Int32)) (inb_of Sq69 ⟨(by decide : ¬ ((1 : Int32) < (0 : Int32))), (by decide : (1 : Int32) < (2 : Int32))⟩) (g := (mkF m 103 #[lI x0, lI x1, lI x2, lI x3, lI x4, lI x5, lI x6, lI x7, lI x8, lI x9, lV vI2, lR b9, lU, lU, lU, lU, lU] [(.int x7), vI1, (.ref b58), (.ref b58), (.ref b53), (.ref b53)])) rfl rfl (hb hby at_103)
  have f71 := (B58.wr W66)
  have sf72 : Safe Z consts_1 s.vm h66 b58 := (Safe.exa hZ.alike f71 (by decide) (by decide))
  have R73 := CHr.trans R68 (CHr.wr W70 sf72 R68.1)
  have V70 : Arv Z h70 b58 k58 .char (2 : Int32) [(.int (nar .char x6)), (.int (nar .char x7))] vI0 := Arv.set Arq69 qq69 Sq69 Nq69 Hq69 Gq69 (fits_nar_char _) W70 1 rfl (Nat.le_of_ble_eq_true rfl)
  have N70 := Fr.snoc X70 N66 g65
  have f74 := (((A53.ext E58).wr W66).wr W70)
  have n75 := Nat.ne_of_lt (Nat.lt_of_lt_of_le A53.lt (Nat.le_of_eq g58.symm))
  have f76 := (((f57.ext E58).other W66 (Or.inl n75)).other W70 (Or.inl n75))
  have f77 := (((f56.ext E58).other W66 (Or.inl n75)).other W70 (Or.inl n75))
  have o78 := Old.ext o64 E58
  have o79 := Old.wr o78 W66 g65
  have o80 := Old.wr o79 W70 g65
  have f81 := f33.ext o80.2
  have zz82 : n0 ≤ T43.heap.size := by rw [← o63.1]; exact o63.2.1
  have g83 := Nat.le_trans zz82 (Nat.le_of_eq g53.symm)
  obtain ⟨_, T86, Lc86, X86, hQ86, st86⟩ := own_fin (X70.specialBack hx (y := mN4) rfl hown (mvT hZ (w 5 rfl)) (mvT hZ (w 6 rfl)) (mvT hZ (w 7 rfl)) (by decide) (own_newStr hZ hw (w 2 rfl) (cs := [(nar .char x6), (nar .char x7)]) (n := 2) g83 f74 f76 f77 V70 f81 hc38 rfl rfl (by decide) (by decide) (own_acS hc84 (own_acS hc85 own_ac0)) (own_bsS rfl (own_bsS rfl own_bs0)) (by decide) (by decide : 1 + 65 ≤ _)) (g := (mkF m 104 #[lI x0, lI x1, lI x2, lI x3, lI x4, lI x5, lI x6, lI x7, lI x8, lI x9, lV vI2, lR b9, lU, lU, lU, lU, lU] [(.ref b58), (.ref b53), (.ref b53)])) rfl (by rw [hml]; rfl) (Steps.refl _) (a := b53) (argsL := [(.ref b58)]) (rest := [(.ref b53)]) (lenOf pd___C_V rfl) rfl (own_W rfl) (hb hby at_104) (fun _ _ => ⟨rfl, e70, (by decide : 5 + 1 ≤ _), (by decide : 14 + 2 ≤ _)⟩))
  obtain ⟨b86_0, k86_0, rfl, N86q, K86, f87, f88, f89, f90, f91, f92⟩ := hQ86
  have N86 := Fr.app N70 N86q
  have sf93 := (Safe.wr W70 sf72 R68.1 (Safe.wr W66 sf67 R60.1 (Safe.ext E58 R55.1 (Safe.ext E53 R51.1 sf54))))
  have R94 := CHr.trans R73 (CHr.keep K86 (sfS sf93 sf0) R73.1)
  have sf95 : Safe Z consts_1 s.vm h70 b86_0 := Safe.new f89
  obtain ⟨T96, h96, X96, e96, E96, A96, D96, -, st96⟩ := newO X86 hx hZ hown (w 1 rfl) (w 2 rfl) (w 3 rfl) rfl (g := (mkF m 109 #[lI x0, lI x1, lI x2, lI x3, lI x4, lI x5, lI x6, lI x7, lI x8, lI x9, lV vI2, lR b9, lR b53, lU, lU, lU, lU] [])) rfl (hb hby at_109) (by decide) (by decide)
  obtain ⟨b96, g96⟩ : ∃ z, z = T86.heap.size := ⟨_, rfl⟩
  have sf97 : Safe Z consts_1 s.vm T86.heap b96 := Safe.new (Nat.le_of_eq g96.symm)
  rw [← g96] at A96 D96 st96
  have R98 := CHr.trans R94 (CHr.ext E96 R94.1)
  have f99 : Fld Z h96 b96 cs8 "coder" "B" vI0 := D96 (Or.inr (w 28 rfl)) (ty := .byte) (by decide)
  have f100 : Fld Z h96 b96 cs8 "value" "[B" .null := D96 (Or.inr (w 30 rfl)) (ty := (.array .byte)) (by decide)
  obtain ⟨T101, h101, k101, X101, e101, E101, A101, B101, st101⟩ := newPE X96 hx hZ (w 4 rfl) e96 (g := (mkF m 114 #[lI x0, lI x1, lI x2, lI x3, lI x4, lI x5, lI x6, lI x7, lI x8, lI x9, lV vI2, lR b9, lR b53, lU, lU, lU, lU] [vI2, (.ref b96), (.ref b96)])) rfl (hb hby at_114) rfl (by decide) (cap := 2) (by decide) (by decide) (by decide) (by decide) (ad := "[C") rfl
  obtain ⟨b101, g101⟩ : ∃ z, z = h96.size := ⟨_, rfl⟩
  have sf102 : Safe Z consts_1 s.vm h96 b101 := Safe.new (Nat.le_of_eq g101.symm)
  rw [← g101] at A101 B101 st101
  have R103 := CHr.trans R98 (CHr.ext E101 R98.1)
  have V101 : Arv Z h101 b101 k101 .char (2 : Int32) [vI0, vI0] vI0 := (Arv.new A101 (by decide)).pad (pad_rep [] vI0 2)
  obtain ⟨clq104, Arq104, qq104, Sq104, Nq104, Hq104, Gq104⟩ := id V101
  have o106 := Old.keep o80 K86 (allS g83 all0)
  have o107 := Old.ext o106 E96
  have zz105 : n0 ≤ h96.size := by rw [← o107.1]; exact o107.2.1
  have g108 := Nat.le_trans zz105 (Nat.le_of_eq g101.symm)
  obtain ⟨T109, h109, X109, e109, W109, st109⟩ := stC X101 hx hZ e101 Arq104 (j := (0 : Int32)) (inb_of Sq104 ⟨(by decide : ¬ ((0 : Int32) < (0 : Int32))), (by decide : (0 : Int32) < (2 : Int32))⟩) (g := (mkF m 120 #[lI x0, lI x1, lI x2, lI x3, lI x4, lI x5, lI x6, lI x7, lI x8, lI x9, lV vI2, lR b9, lR b53, lU, lU, lU, lU] [(.int x8), vI0, (.ref b101), (.ref b101), (.ref b96), (.ref b96)])) rfl rfl (hb hby at_120)
  have sf110 : Safe Z consts_1 s.vm h101 b101 := (Safe.exa hZ.alike B101 (by decide) (by decide))
  have R111 := CHr.trans R103 (CHr.wr W109 sf110 R103.1)
  have V109 : Arv Z h109 b101 k101 .char (2 : Int32) [(.int (nar .char x8)), vI0] vI0 := Arv.set Arq104 qq104 Sq104 Nq104 Hq104 Gq104 (fits_nar_char _) W109 0 rfl (Nat.le_of_ble_eq_true rfl)
  have N109 := Fr.snoc X109 N86 g108
  obtain ⟨clq112, Arq112, qq112, Sq112, Nq112, Hq112, Gq112⟩ := id V109
  obtain ⟨T113, h113, X113, e113, W113, st113⟩ := stC X109 hx hZ e109 Arq112 (j := (1 : Int32)) (inb_of Sq112 ⟨(by decide : ¬ ((1 : Int32) < (0 : Int32))), (by decide : (1 : Int32) < (2 : Int32))⟩) (g := (mkF m 125 #[lI x0, lI x1, lI x2, lI x3, lI x4, lI x5, lI x6, lI x7, lI x8, lI x9, lV vI2, lR b9, lR b53, lU, lU, lU, lU] [(.int x9), vI1, (.ref b101), (.ref b101), (.ref b96), (.ref b96)])) rfl rfl (hb hby at_125)
  have f114 := (B101.wr W109)
  have sf115 : Safe Z consts_1 s.vm h109 b101 := (Safe.exa hZ.alike f114 (by decide) (by decide))
  have R116 := CHr.trans R111 (CHr.wr W113 sf115 R111.1)
  have V113 : Arv Z h113 b101 k101 .char (2 : Int32) [(.int (nar .char x8)), (.int (nar .char x9))] vI0 := Arv.set Arq112 qq112 Sq112 Nq112 Hq112 Gq112 (fits_nar_char _) W113 1 rfl (Nat.le_of_ble_eq_true rfl)
  have N113 := Fr.snoc X113 N109 g108
  have f117 := (((A96.ext E101).wr W109).wr W113)
  have n118 := Nat.ne_of_lt (Nat.lt_of_lt_of_le A96.lt (Nat.le_of_eq g101.symm))
  have f119 := (((f100.ext E101).other W109 (Or.inl n118)).other W113 (Or.inl n118))
  have f120 := (((f99.ext E101).other W109 (Or.inl n118)).other W113 (Or.inl n118))
  have o121 := Old.ext o107 E101
  have o122 := Old.wr o121 W109 g108
  have o123 := Old.wr o122 W113 g108
  have f124 := f33.ext o123.2
  have zz125 : n0 ≤ T86.heap.size := by rw [← o106.1]; exact o106.2.1
  have g126 := Nat.le_trans zz125 (Nat.le_of_eq g96.symm)
  obtain ⟨_, T129, Lc129, X129, hQ129, st129⟩ := own_fin (X113.specialBack hx (y := mN4) rfl hown (mvT hZ (w 5 rfl)) (mvT hZ (w 6 rfl)) (mvT hZ (w 7 rfl)) (by decide) (own_newStr hZ hw (w 2 rfl) (cs := [(nar .char x8), (nar .char x9)]) (n := 2) g126 f117 f119 f120 V113 f124 hc38 rfl rfl (by decide) (by decide) (own_acS hc127 (own_acS hc128 own_ac0)) (own_bsS rfl (own_bsS rfl own_bs0)) (by decide) (by decide : 1 + 65 ≤ _)) (g := (mkF m 126 #[lI x0, lI x1, lI x2, lI x3, lI x4, lI x5, lI x6, lI x7, lI x8, lI x9, lV vI2, lR b9, lR b53, lU, lU, lU, lU] [(.ref b101), (.ref b96), (.ref b96)])) rfl (by rw [hml]; rfl) (Steps.refl _) (a := b96) (argsL := [(.ref b101)]) (rest := [(.ref b96)]) (lenOf pd___C_V rfl) rfl (own_W rfl) (hb hby at_126) (fun _ _ => ⟨rfl, e113, (by decide : 8 + 1 ≤ _), (by decide : 22 + 2 ≤ _)⟩))
  obtain ⟨b129_0, k129_0, rfl, N129q, K129, f130, f131, f132, f133, f134, f135⟩ := hQ129
  have N129 := Fr.app N113 N129q
  have sf136 := (Safe.wr W113 sf115 R111.1 (Safe.wr W109 sf110 R103.1 (Safe.ext E101 R98.1 (Safe.ext E96 R94.1 sf97))))
  have R137 := CHr.trans R116 (CHr.keep K129 (sfS sf136 sf0) R116.1)
  have sf138 : Safe Z consts_1 s.vm h113 b129_0 := Safe.new f132
  obtain ⟨T139, h139, X139, e139, E139, A139, D139, -, st139⟩ := newO X129 hx hZ hown (w 31 rfl) (w 32 rfl) (w 33 rfl) rfl (g := (mkF m 131 #[lI x0, lI x1, lI x2, lI x3, lI x4, lI x5, lI x6, lI x7, lI x8, lI x9, lV vI2, lR b9, lR b53, lR b96, lU, lU, lU] [])) rfl (hb hby at_131) (by decide) (by decide)
  obtain ⟨b139, g139⟩ : ∃ z, z = T129.heap.size := ⟨_, rfl⟩
  have sf140 : Safe Z consts_1 s.vm T129.heap b139 := Safe.new (Nat.le_of_eq g139.symm)
  rw [← g139] at A139 D139 st139
  have R141 := CHr.trans R137 (CHr.ext E139 R137.1)
  have f142 : Fld Z h139 b139 cs1 "modCount" "I" vI0 := D139 (Or.inl (w 51 rfl)) (ty := .int) (by decide)
  have f143 : Fld Z h139 b139 cs2 cs3 cs4 .null := D139 (Or.inl (w 54 rfl)) (ty := (.array (.object cs5))) (by decide)
  have f144 : Fld Z h139 b139 cs2 "size" "I" vI0 := D139 (Or.inl (w 63 rfl)) (ty := .int) (by decide)
  have o146 := Old.keep o123 K129 (allS g126 all0)
  have zz145 : n0 ≤ T129.heap.size := by rw [← o146.1]; exact o146.2.1
  have g147 := Nat.le_trans zz145 (Nat.le_of_eq g139.symm)
  have o149 := Old.ext o146 E139
  obtain ⟨_, T150, Lc150, X150, hQ150, st150⟩ := own_fin (X139.specialBack hx (y := mN2) rfl hown (mvT hZ (w 34 rfl)) (mvT hZ (w 35 rfl)) (mvT hZ (w 36 rfl)) (by decide) (backOf (W := 1) (rm7_1 l Z a0 hw [] b139 r11 h139 n0 o149 A139 f142 g147 f143 f144 f148) hZ (w 36 rfl) (w 33 rfl) (by decide) (by decide)) (g := (mkF m 135 #[lI x0, lI x1, lI x2, lI x3, lI x4, lI x5, lI x6, lI x7, lI x8, lI x9, lV vI2, lR b9, lR b53, lR b96, lU, lU, lU] [(.ref b139), (.ref b139)])) rfl (by rw [hml]; rfl) (Steps.refl _) (a := b139) (argsL := []) (rest := [(.ref b139)]) (lenOf pd___V rfl) rfl (own_W rfl) (hb hby at_135) (fun _ _ => ⟨rfl, e139, (by decide : 10 + 0 ≤ _), (by decide : 27 + 0 ≤ _)⟩))
  obtain ⟨rfl, N150q, K150, f151, f152, f153⟩ := hQ150
  have N150 := Fr.app N129 N150q
  have R154 := CHr.trans R141 (CHr.keep K150 (sfS (Safe.exa hZ.alike A139 (by decide) (by decide)) sf0) R141.1)
  have f155 := (A139.keep K150)
  have zs157 := K150.1
  have f158 := ((((((((f74.keep K86).ext E96).ext E101).wr W109).wr W113).keep K129).ext E139).keep K150)
  have o159 := Old.keep o149 K150 (allS g147 all0)
  obtain ⟨_, T160, Lc160, X160, hQ160, st160⟩ := own_cV X150 hx hZ hown rfl (rm10_1 l Z a0 hw [] b139 b53 r11 c12 T150.heap n0 o159 f151 f155 g147 f152 f153 f156 f148 (Nat.lt_of_lt_of_le A139.lt zs157) f158) f155 (w 55 rfl) (w 56 rfl) (w 58 rfl) (w 57 rfl) (w 59 rfl) (w 33 rfl) (by decide) (W := 0) (by decide) (by decide) (by decide) (by decide) (g := (mkF m 150 #[lI x0, lI x1, lI x2, lI x3, lI x4, lI x5, lI x6, lI x7, lI x8, lI x9, lV vI2, lR b9, lR b53, lR b96, lR b139, lU, lU] [(.ref b53), (.ref b139)])) rfl (by rw [hml]; rfl) (argsL := [(.ref b53)]) (rest := []) (lenOf pd__Ljava_lang_Object__Z rfl) rfl (own_W rfl) (hb hby at_150)
  obtain ⟨b160_0, k160_0, rfl, N160q, K160, f161, f162, f163, f164, f165, f166, f167⟩ := hQ160
  have N160 := Fr.app N150 N160q
  have R168 := CHr.trans R154 (CHr.keep K160 (sfS (Safe.exa hZ.alike f155 (by decide) (by decide)) sf0) R154.1)
  have sf169 : Safe Z consts_1 s.vm T150.heap b160_0 := Safe.new f164
  have f170 := (f155.keep K160)
  have n171 := Nat.ne_of_lt (Nat.lt_of_lt_of_le (Nat.lt_of_lt_of_le A139.lt zs157) f164)
  have f172 := ((((f117.keep K129).ext E139).keep K150).keep K160)
  have zz173 : n0 ≤ T150.heap.size := by rw [← o159.1]; exact o159.2.1
  have g174 := Nat.le_trans zz173 f164
  have o175 := Old.keep o159 K160 (allS g147 all0)
  obtain ⟨_, T176, Lc176, X176, hQ176, st176⟩ := own_cV X160 hx hZ hown rfl (rm10_2 l Z a0 hw [] b139 b96 b160_0 k160_0 b53 T160.heap n0 o175 f163 f170 g147 f161 f162 f165 (Ne.symm n171) f167 f172 g174) f170 (w 55 rfl) (w 56 rfl) (w 58 rfl) (w 57 rfl) (w 59 rfl) (w 33 rfl) (by decide) (W := 0) (by decide) (by decide) (by decide) (by decide) (g := (mkF m 164 #[lI x0, lI x1, lI x2, lI x3, lI x4, lI x5, lI x6, lI x7, lI x8, lI x9, lV vI2, lR b9, lR b53, lR b96, lR b139, lU, lU] [(.ref b96), (.ref b139)])) rfl (by rw [hml]; rfl) (argsL := [(.ref b96)]) (rest := []) (lenOf pd__Ljava_lang_Object__Z rfl) rfl (own_W rfl) (hb hby at_164)
  obtain ⟨rfl, N176q, K176, f177, f178, f179, f180⟩ := hQ176
  have N176 := Fr.app N160 N176q
  have R181 := CHr.trans R168 (CHr.keep K176 (sfS (Safe.exa hZ.alike f170 (by decide) (by decide)) (sfS (Safe.exa hZ.alike f166 (by decide) (by decide)) sf0)) R168.1)
  have o182 := Old.keep o175 K176 (allS g147 (allS g174 all0))
  obtain ⟨_, T183, Lc183, X183, hQ183, st183⟩ := own_cS X176 hx hZ hown rfl (rm15_3 l Z a0 hw [] x4 x5 x6 x7 x8 x9 x10 T176.heap n0 o182 f33 hc38 hc41 hc42 hc84 hc85 hc127 hc128) (w 86 rfl) (w 87 rfl) (w 88 rfl) (w 89 rfl) (by decide) (W := 0) (by decide) (by decide) (by decide) (by decide) (g := (mkF m 182 #[lI x0, lI x1, lI x2, lI x3, lI x4, lI x5, lI x6, lI x7, lI x8, lI x9, lV vI2, lR b9, lR b53, lR b96, lR b139, lU, lU] [(.int x9), (.int x8), (.int x7), (.int x6), (.int x5), (.int x4), vI2])) rfl (by rw [hml]; rfl) (argsL := [vI2, (.int x4), (.int x5), (.int x6), (.int x7), (.int x8), (.int x9)]) (rest := []) (lenOf pd__ICCCCCC_Ljava_lang_String_ rfl) rfl (own_W rfl) (hb hby at_182)
  obtain ⟨b183_0, b183_1, k183_0, rfl, N183q, K183, f184, f185, f186, f187, f188, f189, f190, f191⟩ := hQ183
  have N183 := Fr.app N176 N183q
  have R192 := CHr.trans R181 (CHr.keep K183 sf0 R181.1)
  have sf193 : Safe Z consts_1 s.vm T176.heap b183_0 := Safe.new f184
  have sf194 : Safe Z consts_1 s.vm T176.heap b183_1 := Safe.new f188
  obtain ⟨T195, h195, X195, e195, E195, A195, D195, -, st195⟩ := newO X183 hx hZ hown (w 90 rfl) (w 91 rfl) (w 92 rfl) rfl (g := (mkF m 187 #[lI x0, lI x1, lI x2, lI x3, lI x4, lI x5, lI x6, lI x7, lI x8, lI x9, lV vI2, lR b9, lR b53, lR b96, lR b139, lR b183_0, lU] [])) rfl (hb hby at_187) (by decide) (by decide)
  obtain ⟨b195, g195⟩ : ∃ z, z = T183.heap.size := ⟨_, rfl⟩
  have sf196 : Safe Z consts_1 s.vm T183.heap b195 := Safe.new (Nat.le_of_eq g195.symm)
  rw [← g195] at A195 D195 st195
  have R197 := CHr.trans R192 (CHr.ext E195 R192.1)
  have f198 : Fld Z h195 b195 cs17 "key" cs18 .null := D195 (Or.inr (w 98 rfl)) (ty := (.object cs8)) (by decide)
  have f199 : Fld Z h195 b195 cs17 cs19 cs20 .null := D195 (Or.inr (w 186 rfl)) (ty := (.object cs11)) (by decide)
  have o201 := Old.keep o182 K183 all0
  have zz200 : n0 ≤ T183.heap.size := by rw [← o201.1]; exact o201.2.1
  have g202 := Nat.le_trans zz200 (Nat.le_of_eq g195.symm)
  have f203 := (((f170.keep K176).keep K183).ext E195)
  have f204 := ((f177.keep K183 nin0).ext E195)
  have zs205 := Nat.le_trans zs157 K160.1
  have zs206 := Nat.le_trans zs205 K176.1
  have zs207 := Nat.le_trans zs206 K183.1
  have n208 := Nat.ne_of_lt (Nat.lt_of_lt_of_le (Nat.lt_of_lt_of_le A139.lt zs207) (Nat.le_of_eq g195.symm))
  have f209 := ((f179.keep K183 nin0).ext E195)
  have f210 := (((f166.keep K176).keep K183).ext E195)
  have f212 := ((f180.keep K183 nin0).ext E195)
  have zs213 := K176.1
  have zs214 := Nat.le_trans zs213 K183.1
  have n215 := Nat.ne_of_lt (Nat.lt_of_lt_of_le (Nat.lt_of_lt_of_le f165.lt zs214) (Nat.le_of_eq g195.symm))
  have f216 := (((f172.keep K176).keep K183).ext E195)
  have f217 := ((((f158.keep K160).keep K176).keep K183).ext E195)
  have o218 := Old.ext o201 E195
  obtain ⟨_, T219, Lc219, X219, hQ219, st219⟩ := own_fin (X195.specialBack hx (y := mN10) rfl hown (mvT hZ (w 93 rfl)) (mvT hZ (w 94 rfl)) (mvT hZ (w 95 rfl)) (by decide) (backOf (W := 1) (rm16_3 l Z a0 hw [] b195 b9 b139 b160_0 r13 k160_0 b53 b96 h195 n0 o218 A195 f198 g202 f203 f204 n208 f209 f210 f211 f212 n215 f216 f217 f199 A195.lt) hZ (w 95 rfl) (w 92 rfl) (by decide) (by decide)) (g := (mkF m 195 #[lI x0, lI x1, lI x2, lI x3, lI x4, lI x5, lI x6, lI x7, lI x8, lI x9, lV vI2, lR b9, lR b53, lR b96, lR b139, lR b183_0, lU] [(.ref b139), (.ref b9), (.ref b195), (.ref b195)])) rfl (by rw [hml]; rfl) (Steps.refl _) (a := b195) (argsL := [(.ref b9), (.ref b139)]) (rest := [(.ref b195)]) (lenOf pd__Ljava_lang_String_Ljava_util_List__V rfl) rfl (own_W rfl) (hb hby at_195) (fun _ _ => ⟨rfl, e195, (by decide : 15 + 2 ≤ _), (by decide : 143 + 4 ≤ _)⟩))
  obtain ⟨b219_0, rfl, N219q, K219, f220, f221, f222, f223, f224, f225⟩ := hQ219
  have N219 := Fr.app N183 N219q
  have R226 := CHr.trans R197 (CHr.keep K219 (sfS (Safe.exa hZ.alike A195 (by decide) (by decide)) sf0) R197.1)
  have sf227 : Safe Z consts_1 s.vm h195 b219_0 := Safe.new f222
  have zs228 := K219.1
  have f229 := ((((((((((((((((((f29.keep K43).ext E53).ext E58).wr W66).wr W70).keep K86).ext E96).ext E101).wr W109).wr W113).keep K129).ext E139).keep K150).keep K160).keep K176).keep K183).ext E195).keep K219)
  have zs230 := E14.1
  have zs231 := Nat.le_trans zs230 (Nat.le_of_eq W21.size.symm)
  have zs232 := Nat.le_trans zs231 (Nat.le_of_eq W25.size.symm)
  have zs233 := Nat.le_trans zs232 K43.1
  have zs234 := Nat.le_trans zs233 E53.1
  have n235 := Nat.ne_of_lt (Nat.lt_of_lt_of_le (Nat.lt_of_lt_of_le A9.lt zs234) (Nat.le_of_eq g58.symm))
  have n236 := Nat.ne_of_lt (Nat.lt_of_lt_of_le (Nat.lt_of_lt_of_le A9.lt zs233) (Nat.le_of_eq g53.symm))
  have zs237 := Nat.le_trans zs234 E58.1
  have zs238 := Nat.le_trans zs237 (Nat.le_of_eq W66.size.symm)
  have zs239 := Nat.le_trans zs238 (Nat.le_of_eq W70.size.symm)
  have zs240 := Nat.le_trans zs239 K86.1
  have zs241 := Nat.le_trans zs240 E96.1
  have n242 := Nat.ne_of_lt (Nat.lt_of_lt_of_le (Nat.lt_of_lt_of_le A9.lt zs241) (Nat.le_of_eq g101.symm))
  have n243 := Nat.ne_of_lt (Nat.lt_of_lt_of_le (Nat.lt_of_lt_of_le A9.lt zs240) (Nat.le_of_eq g96.symm))
  have zs244 := Nat.le_trans zs241 E101.1
  have zs245 := Nat.le_trans zs244 (Nat.le_of_eq W109.size.symm)
  have zs246 := Nat.le_trans zs245 (Nat.le_of_eq W113.size.symm)
  have zs247 := Nat.le_trans zs246 K129.1
  have n248 := Nat.ne_of_lt (Nat.lt_of_lt_of_le (Nat.lt_of_lt_of_le A9.lt zs247) (Nat.le_of_eq g139.symm))
  have zs249 := Nat.le_trans zs247 E139.1
  have zs250 := Nat.le_trans zs249 K150.1
  have n251 := Nat.ne_of_lt (Nat.lt_of_lt_of_le (Nat.lt_of_lt_of_le A9.lt zs250) f164)
  have zs252 := Nat.le_trans zs250 K160.1
  have zs253 := Nat.le_trans zs252 K176.1
  have zs254 := Nat.le_trans zs253 K183.1
  have n255 := Nat.ne_of_lt (Nat.lt_of_lt_of_le (Nat.lt_of_lt_of_le A9.lt zs254) (Nat.le_of_eq g195.symm))
  have f256 := (((((((((((((((((f45.ext E53).ext E58).other W66 (Or.inl n235)).other W70 (Or.inl n235)).keep K86 (ninS n236 nin0)).ext E96).ext E101).other W109 (Or.inl n242)).other W113 (Or.inl n242)).keep K129 (ninS n243 nin0)).ext E139).keep K150 (ninS n248 nin0)).keep K160 (ninS n248 nin0)).keep K176 (ninS n248 (ninS n251 nin0))).keep K183 nin0).ext E195).keep K219 (ninS n255 nin0))
  have zs257 := Nat.le_trans zs254 E195.1
  have zs258 := Nat.le_trans zs257 K219.1
  have zs259 := E53.1
  have n260 := Nat.ne_of_lt (Nat.lt_of_lt_of_le (Nat.lt_of_lt_of_le f47.lt zs259) (Nat.le_of_eq g58.symm))
  have n261 := Nat.ne_of_lt (Nat.lt_of_lt_of_le f47.lt (Nat.le_of_eq g53.symm))
  have zs262 := Nat.le_trans zs259 E58.1
  have zs263 := Nat.le_trans zs262 (Nat.le_of_eq W66.size.symm)
  have zs264 := Nat.le_trans zs263 (Nat.le_of_eq W70.size.symm)
  have zs265 := Nat.le_trans zs264 K86.1
  have zs266 := Nat.le_trans zs265 E96.1
  have n267 := Nat.ne_of_lt (Nat.lt_of_lt_of_le (Nat.lt_of_lt_of_le f47.lt zs266) (Nat.le_of_eq g101.symm))
  have n268 := Nat.ne_of_lt (Nat.lt_of_lt_of_le (Nat.lt_of_lt_of_le f47.lt zs265) (Nat.le_of_eq g96.symm))
  have zs269 := Nat.le_trans zs266 E101.1
  have zs270 := Nat.le_trans zs269 (Nat.le_of_eq W109.size.symm)
  have zs271 := Nat.le_trans zs270 (Nat.le_of_eq W113.size.symm)
  have zs272 := Nat.le_trans zs271 K129.1
  have n273 := Nat.ne_of_lt (Nat.lt_of_lt_of_le (Nat.lt_of_lt_of_le f47.lt zs272) (Nat.le_of_eq g139.symm))
  have zs274 := Nat.le_trans zs272 E139.1
  have zs275 := Nat.le_trans zs274 K150.1
  have n276 := Nat.ne_of_lt (Nat.lt_of_lt_of_le (Nat.lt_of_lt_of_le f47.lt zs275) f164)
  have zs277 := Nat.le_trans zs275 K160.1
  have zs278 := Nat.le_trans zs277 K176.1
  have zs279 := Nat.le_trans zs278 K183.1
  have n280 := Nat.ne_of_lt (Nat.lt_of_lt_of_le (Nat.lt_of_lt_of_le f47.lt zs279) (Nat.le_of_eq g195.symm))
  have f281 := (((((((((((((((((f47.ext E53).ext E58).other W66 n260).other W70 n260).keep K86 (ninS n261 nin0)).ext E96).ext E101).other W109 n267).other W113 n267).keep K129 (ninS n268 nin0)).ext E139).keep K150 (ninS n273 nin0)).keep K160 (ninS n273 nin0)).keep K176 (ninS n273 (ninS n276 nin0))).keep K183 nin0).ext E195).keep K219 (ninS n280 nin0))
  have zs282 := Nat.le_trans zs279 E195.1
  have zs283 := Nat.le_trans zs282 K219.1
  have f284 := (((((((((((((((((f44.ext E53).ext E58).other W66 (Or.inl n235)).other W70 (Or.inl n235)).keep K86 (ninS n236 nin0)).ext E96).ext E101).other W109 (Or.inl n242)).other W113 (Or.inl n242)).keep K129 (ninS n243 nin0)).ext E139).keep K150 (ninS n248 nin0)).keep K160 (ninS n248 nin0)).keep K176 (ninS n248 (ninS n251 nin0))).keep K183 nin0).ext E195).keep K219 (ninS n255 nin0))
  have zs287 := E58.1
  have zs288 := Nat.le_trans zs287 (Nat.le_of_eq W66.size.symm)
  have zs289 := Nat.le_trans zs288 (Nat.le_of_eq W70.size.symm)
  have zs290 := Nat.le_trans zs289 K86.1
  have zs291 := Nat.le_trans zs290 E96.1
  have zs292 := Nat.le_trans zs291 E101.1
  have zs293 := Nat.le_trans zs292 (Nat.le_of_eq W109.size.symm)
  have zs294 := Nat.le_trans zs293 (Nat.le_of_eq W113.size.symm)
  have zs295 := Nat.le_trans zs294 K129.1
  have zs296 := Nat.le_trans zs295 E139.1
  have zs297 := Nat.le_trans zs296 K150.1
  have zs298 := Nat.le_trans zs297 K160.1
  have zs299 := Nat.le_trans zs298 K176.1
  have zs300 := Nat.le_trans zs299 K183.1
  have zs301 := Nat.le_trans zs300 E195.1
  have n302 := Nat.ne_of_lt (Nat.lt_of_lt_of_le (Nat.lt_of_lt_of_le A53.lt zs301) f222)
  have f303 := (f217.keep K219)
  have n304 := Nat.ne_of_lt (Nat.lt_of_lt_of_le (Nat.lt_of_lt_of_le A53.lt zs291) (Nat.le_of_eq g101.symm))
  have n305 := Nat.ne_of_lt (Nat.lt_of_lt_of_le (Nat.lt_of_lt_of_le A53.lt zs290) (Nat.le_of_eq g96.symm))
  have n306 := Nat.ne_of_lt (Nat.lt_of_lt_of_le (Nat.lt_of_lt_of_le A53.lt zs295) (Nat.le_of_eq g139.symm))
  have n307 := Nat.ne_of_lt (Nat.lt_of_lt_of_le (Nat.lt_of_lt_of_le A53.lt zs297) f164)
  have n308 := Nat.ne_of_lt (Nat.lt_of_lt_of_le (Nat.lt_of_lt_of_le A53.lt zs300) (Nat.le_of_eq g195.symm))
  have f309 := ((((((((((((f88.ext E96).ext E101).other W109 (Or.inl n304)).other W113 (Or.inl n304)).keep K129 (ninS n305 nin0)).ext E139).keep K150 (ninS n306 nin0)).keep K160 (ninS n306 nin0)).keep K176 (ninS n306 (ninS n307 nin0))).keep K183 nin0).ext E195).keep K219 (ninS n308 nin0))
  have zs310 := Nat.le_trans zs301 K219.1
  have zs311 := E96.1
  have n312 := Nat.ne_of_lt (Nat.lt_of_lt_of_le (Nat.lt_of_lt_of_le f90.lt zs311) (Nat.le_of_eq g101.symm))
  have n313 := Nat.ne_of_lt (Nat.lt_of_lt_of_le f90.lt (Nat.le_of_eq g96.symm))
  have zs314 := Nat.le_trans zs311 E101.1
  have zs315 := Nat.le_trans zs314 (Nat.le_of_eq W109.size.symm)
  have zs316 := Nat.le_trans zs315 (Nat.le_of_eq W113.size.symm)
  have zs317 := Nat.le_trans zs316 K129.1
  have n318 := Nat.ne_of_lt (Nat.lt_of_lt_of_le (Nat.lt_of_lt_of_le f90.lt zs317) (Nat.le_of_eq g139.symm))
  have zs319 := Nat.le_trans zs317 E139.1
  have zs320 := Nat.le_trans zs319 K150.1
  have n321 := Nat.ne_of_lt (Nat.lt_of_lt_of_le (Nat.lt_of_lt_of_le f90.lt zs320) f164)
  have zs322 := Nat.le_trans zs320 K160.1
  have zs323 := Nat.le_trans zs322 K176.1
  have zs324 := Nat.le_trans zs323 K183.1
  have n325 := Nat.ne_of_lt (Nat.lt_of_lt_of_le (Nat.lt_of_lt_of_le f90.lt zs324) (Nat.le_of_eq g195.symm))
  have f326 := ((((((((((((f90.ext E96).ext E101).other W109 n312).other W113 n312).keep K129 (ninS n313 nin0)).ext E139).keep K150 (ninS n318 nin0)).keep K160 (ninS n318 nin0)).keep K176 (ninS n318 (ninS n321 nin0))).keep K183 nin0).ext E195).keep K219 (ninS n325 nin0))
  have zs327 := Nat.le_trans zs324 E195.1
  have zs328 := Nat.le_trans zs327 K219.1
  have f329 := ((((((((((((f87.ext E96).ext E101).other W109 (Or.inl n304)).other W113 (Or.inl n304)).keep K129 (ninS n305 nin0)).ext E139).keep K150 (ninS n306 nin0)).keep K160 (ninS n306 nin0)).keep K176 (ninS n306 (ninS n307 nin0))).keep K183 nin0).ext E195).keep K219 (ninS n308 nin0))
  have zs330 := E101.1
  have zs331 := Nat.le_trans zs330 (Nat.le_of_eq W109.size.symm)
  have zs332 := Nat.le_trans zs331 (Nat.le_of_eq W113.size.symm)
  have zs333 := Nat.le_trans zs332 K129.1
  have zs334 := Nat.le_trans zs333 E139.1
  have zs335 := Nat.le_trans zs334 K150.1
  have zs336 := Nat.le_trans zs335 K160.1
  have zs337 := Nat.le_trans zs336 K176.1
  have zs338 := Nat.le_trans zs337 K183.1
  have zs339 := Nat.le_trans zs338 E195.1
  have n340 := Nat.ne_of_lt (Nat.lt_of_lt_of_le (Nat.lt_of_lt_of_le A96.lt zs339) f222)
  have f341 := (f216.keep K219)
  have n342 := Nat.ne_of_lt (Nat.lt_of_lt_of_le (Nat.lt_of_lt_of_le A96.lt zs333) (Nat.le_of_eq g139.symm))
  have n343 := Nat.ne_of_lt (Nat.lt_of_lt_of_le (Nat.lt_of_lt_of_le A96.lt zs335) f164)
  have n344 := Nat.ne_of_lt (Nat.lt_of_lt_of_le (Nat.lt_of_lt_of_le A96.lt zs338) (Nat.le_of_eq g195.symm))
  have f345 := (((((((f131.ext E139).keep K150 (ninS n342 nin0)).keep K160 (ninS n342 nin0)).keep K176 (ninS n342 (ninS n343 nin0))).keep K183 nin0).ext E195).keep K219 (ninS n344 nin0))
  have zs346 := Nat.le_trans zs339 K219.1
  have n347 := Nat.ne_of_lt (Nat.lt_of_lt_of_le f133.lt (Nat.le_of_eq g139.symm))
  have zs348 := E139.1
  have zs349 := Nat.le_trans zs348 K150.1
  have n350 := Nat.ne_of_lt (Nat.lt_of_lt_of_le (Nat.lt_of_lt_of_le f133.lt zs349) f164)
  have zs351 := Nat.le_trans zs349 K160.1
  have zs352 := Nat.le_trans zs351 K176.1
  have zs353 := Nat.le_trans zs352 K183.1
  have n354 := Nat.ne_of_lt (Nat.lt_of_lt_of_le (Nat.lt_of_lt_of_le f133.lt zs353) (Nat.le_of_eq g195.symm))
  have f355 := (((((((f133.ext E139).keep K150 (ninS n347 nin0)).keep K160 (ninS n347 nin0)).keep K176 (ninS n347 (ninS n350 nin0))).keep K183 nin0).ext E195).keep K219 (ninS n354 nin0))
  have zs356 := Nat.le_trans zs353 E195.1
  have zs357 := Nat.le_trans zs356 K219.1
  have f358 := (((((((f130.ext E139).keep K150 (ninS n342 nin0)).keep K160 (ninS n342 nin0)).keep K176 (ninS n342 (ninS n343 nin0))).keep K183 nin0).ext E195).keep K219 (ninS n344 nin0))
  have o359 := Old.keep o218 K219 (allS g202 all0)
  have f361 := (A195.keep K219)
  obtain ⟨cqq362, kqq362, qq362a, qq362b, qq362c⟩ := isOf hZ rfl f361
  obtain ⟨_, _, ⟨T360, L360, k360, n360⟩, -, X360, hs360, hg360, ⟨Lc360, hQ360, l360, y360, z360, cr360⟩, st360⟩ := X219.virtualBackS hx (y := mN47) (z := mN47) hown (mvT hZ (w 187 rfl)) (mvT hZ (w 188 rfl)) (notFace_of_selects (args := #[]) (mvT hZ (w 190 rfl))) (mvT hZ (w 190 rfl)) (mvT hZ (w 189 rfl)) (by decide) (backOfSH (s := s) (vm0 := s.vm) (W := 1) (rm29_3 l Z a0 hw [] b195 x10 b9 b43_0 k43_0 ((nar .char x4).toInt8.toInt32) ((nar .char x5).toInt8.toInt32) b219_0 b96 r14 b53 b86_0 k86_0 ((nar .char x6).toInt8.toInt32) ((nar .char x7).toInt8.toInt32) b129_0 k129_0 ((nar .char x8).toInt8.toInt32) ((nar .char x9).toInt8.toInt32) T219.heap n0 o359 f33 hc38 f220 (Nat.lt_of_lt_of_le A195.lt zs228) f229 f256 (Nat.lt_of_lt_of_le A9.lt zs258) f281 (Nat.lt_of_lt_of_le f47.lt zs283) f284 f221 f223 f225 f223.lt f285 f286 g126 f224 n302 f303 f309 (Nat.lt_of_lt_of_le A53.lt zs310) f326 (Nat.lt_of_lt_of_le f90.lt zs328) f329 n340 f341 f345 (Nat.lt_of_lt_of_le A96.lt zs346) f355 (Nat.lt_of_lt_of_le f133.lt zs357) f358) hZ (w 191 rfl) (w 92 rfl) (by decide) (by decide) hEL R226.1) qq362a qq362c (g := (mkF m 204 #[lI x0, lI x1, lI x2, lI x3, lI x4, lI x5, lI x6, lI x7, lI x8, lI x9, lV vI2, lR b9, lR b53, lR b96, lR b139, lR b183_0, lR b195] [(.ref b195), (.ref b183_0)])) rfl (by rw [hml]; rfl) (Steps.refl _) (argsL := []) (rest := [(.ref b183_0)]) (lenOf pd___Ljava_lang_String_ rfl) rfl (own_W rfl) (hb hby at_204) (fun _ _ => ⟨rfl, rfl, (by decide : 17 + 17 ≤ _), (by decide : 147 + 456 ≤ _)⟩)
  dsimp only [Pt.U, Pt.locs, Pt.cells, Pt.slots] at X360 l360 y360 z360 st360 hQ360 hs360 hg360 cr360
  subst l360 y360 z360
  obtain ⟨X360, hS360, hZ360, ho360⟩ := rebS (s := s) (vm0 := s.vm) hS1 ((Nat.zero_le _)) X360 hs360 hg360 hZ hown
  obtain ⟨b360_0, b360_1, k360_0, rfl, N360q, K360, f363, f364, f365, f366, f367, f368, f369, f370⟩ := hQ360
  have N360 := Fr.app N219 N360q
  have R371 := CHr.trans R226 cr360
  have n372 := Nat.ne_of_lt (Nat.lt_of_lt_of_le f185.lt (Nat.le_of_eq g195.symm))
  have f373 := (((f186.ext E195).keep K219 (ninS n372 nin0)).keep K360 nin0)
  have f374 := (((f187.ext E195).keep K219 (ninS n372 nin0)).keep K360 nin0)
  have n375 := Nat.ne_of_lt (Nat.lt_of_lt_of_le f189.lt (Nat.le_of_eq g195.symm))
  have f376 := (((f189.ext E195).keep K219 (ninS n375 nin0)).keep K360 nin0)
  have f377 := (((f185.ext E195).keep K219).keep K360)
  have o378 := Old.keep o359 K360 all0
  have f379 := f33.ext o378.2
  obtain ⟨cqq381, kqq381, qq381a, qq381b, qq381c⟩ := isOf hZ360 rfl f377
  obtain ⟨_, T380, Lc380, X380, hQ380, st380⟩ := own_fin (X360.virtualBack hx (y := mN48) (z := mN48) ho360 (mvT hZ360 (w 403 rfl)) (mvT hZ360 (w 404 rfl)) (notFace_of_selects (args := #[]) (mvT hZ360 (w 406 rfl))) (mvT hZ360 (w 406 rfl)) (mvT hZ360 (w 405 rfl)) (by decide) (own_strEq hZ360 hw (w 2 rfl) (bs := [(73 : Int32), (110 : Int32), (116 : Int32), (101 : Int32), (114 : Int32), (110 : Int32), (97 : Int32), (108 : Int32), (67 : Int32), (97 : Int32), (108 : Int32), (108 : Int32), (68 : Int32), (101 : Int32), (116 : Int32), (97 : Int32), (105 : Int32), (108 : Int32), (115 : Int32), (32 : Int32), (91 : Int32), (107 : Int32), (101 : Int32), (121 : Int32), (61 : Int32), ((nar .char x4).toInt8.toInt32), ((nar .char x5).toInt8.toInt32), (44 : Int32), (32 : Int32), (97 : Int32), (117 : Int32), (116 : Int32), (104 : Int32), (111 : Int32), (114 : Int32), (105 : Int32), (116 : Int32), (105 : Int32), (101 : Int32), (115 : Int32), (61 : Int32), (91 : Int32), ((nar .char x6).toInt8.toInt32), ((nar .char x7).toInt8.toInt32), (44 : Int32), (32 : Int32), ((nar .char x8).toInt8.toInt32), ((nar .char x9).toInt8.toInt32), (93 : Int32), (93 : Int32)]) f377 f374 f373 f376 (own_ofLen (n := 50) (by decide) rfl) (Nat.le_of_ble_eq_true rfl) (ds := [(73 : Int32), (110 : Int32), (116 : Int32), (101 : Int32), (114 : Int32), (110 : Int32), (97 : Int32), (108 : Int32), (67 : Int32), (97 : Int32), (108 : Int32), (108 : Int32), (68 : Int32), (101 : Int32), (116 : Int32), (97 : Int32), (105 : Int32), (108 : Int32), (115 : Int32), (32 : Int32), (91 : Int32), (107 : Int32), (101 : Int32), (121 : Int32), (61 : Int32), ((nar .char x4).toInt8.toInt32), ((nar .char x5).toInt8.toInt32), (44 : Int32), (32 : Int32), (97 : Int32), (117 : Int32), (116 : Int32), (104 : Int32), (111 : Int32), (114 : Int32), (105 : Int32), (116 : Int32), (105 : Int32), (101 : Int32), (115 : Int32), (61 : Int32), (91 : Int32), ((nar .char x6).toInt8.toInt32), ((nar .char x7).toInt8.toInt32), (44 : Int32), (32 : Int32), ((nar .char x8).toInt8.toInt32), ((nar .char x9).toInt8.toInt32), (93 : Int32), (93 : Int32)]) f364 f366 f365 f368 (own_ofLen (n := 50) (by decide) rfl) (Nat.le_of_ble_eq_true rfl) f379 hc38 (r := 1) (n0 := n0) (Or.inl ⟨rfl, rfl⟩) (by decide) (by decide : 0 + 28 ≤ _)) qq381a qq381c (g := (mkF m 207 #[lI x0, lI x1, lI x2, lI x3, lI x4, lI x5, lI x6, lI x7, lI x8, lI x9, lV vI2, lR b9, lR b53, lR b96, lR b139, lR b183_0, lR b195] [(.ref b360_0), (.ref b183_0)])) rfl (by rw [hml]; rfl) (Steps.refl _) (argsL := [(.ref b360_0)]) (rest := []) (lenOf pd__Ljava_lang_Object__Z rfl) rfl (own_W rfl) (hb hby at_207) (fun _ _ => ⟨rfl, rfl, (by decide : 34 + 0 ≤ _), (by decide : 603 + 0 ≤ _)⟩))
  obtain ⟨rfl, N380q, E380⟩ := hQ380
  have N380 := Fr.app N360 N380q
  refine ⟨some vI1, _, _, _, _, _, _, _, nofun, X380, by decide, by decide, hS360, (by rw [E380]; exact (Nat.le_refl _)), hZ360, E380, R371, ?_, fun fs hr => ?_⟩
  · rw [E380]; exact ⟨rfl, N380⟩
  · show SG p e below s₁ (mkF m 0 #[lI x0, lI x1, lI x2, lI x3, lU, lU, lU, lU, lU, lU, lU, lU, lU, lU, lU, lU, lU] []) _
    refine qiN X0 hx hby at_0 ?_
    refine XS.sipush X0.here hx rfl (hb hby at_1) ?_
    refine XS.iand X0.here hx rfl (hb hby at_4) rfl ?_
    refine XS.i2c X0.here hx rfl (hb hby at_5) rfl ?_
    show SG p e below s₁ (mkF m 6 #[lI x0, lI x1, lI x2, lI x3, lU, lU, lU, lU, lU, lU, lU, lU, lU, lU, lU, lU, lU] [(.int ((x0 &&& (255 : Int32)).toUInt32.toUInt16.toUInt32.toInt32))]) _
    rw [hq2]
    refine XS.istore X0.here hx rfl (hb hby at_6) rfl (l' := #[lI x0, lI x1, lI x2, lI x3, lI x4, lU, lU, lU, lU, lU, lU, lU, lU, lU, lU, lU, lU]) rfl ?_
    refine qiN X0 hx hby at_8 ?_
    refine qb X0 hx hby at_9 ?_
    refine XS.iushr X0.here hx rfl (hb hby at_11) rfl ?_
    refine XS.sipush X0.here hx rfl (hb hby at_12) ?_
    refine XS.iand X0.here hx rfl (hb hby at_15) rfl ?_
    refine XS.i2c X0.here hx rfl (hb hby at_16) rfl ?_
    show SG p e below s₁ (mkF m 17 #[lI x0, lI x1, lI x2, lI x3, lI x4, lU, lU, lU, lU, lU, lU, lU, lU, lU, lU, lU, lU] [(.int ((((x0.toUInt32 >>> ((8 : Int32) &&& 31).toUInt32).toInt32) &&& (255 : Int32)).toUInt32.toUInt16.toUInt32.toInt32))]) _
    rw [hq3]
    refine XS.istore X0.here hx rfl (hb hby at_17) rfl (l' := #[lI x0, lI x1, lI x2, lI x3, lI x4, lI x5, lU, lU, lU, lU, lU, lU, lU, lU, lU, lU, lU]) rfl ?_
    refine qiN X0 hx hby at_19 ?_
    refine XS.sipush X0.here hx rfl (hb hby at_20) ?_
    refine XS.iand X0.here hx rfl (hb hby at_23) rfl ?_
    refine XS.i2c X0.here hx rfl (hb hby at_24) rfl ?_
    show SG p e below s₁ (mkF m 25 #[lI x0, lI x1, lI x2, lI x3, lI x4, lI x5, lU, lU, lU, lU, lU, lU, lU, lU, lU, lU, lU] [(.int ((x1 &&& (255 : Int32)).toUInt32.toUInt16.toUInt32.toInt32))]) _
    rw [hq4]
    refine XS.istore X0.here hx rfl (hb hby at_25) rfl (l' := #[lI x0, lI x1, lI x2, lI x3, lI x4, lI x5, lI x6, lU, lU, lU, lU, lU, lU, lU, lU, lU, lU]) rfl ?_
    refine qiN X0 hx hby at_27 ?_
    refine qb X0 hx hby at_28 ?_
    refine XS.iushr X0.here hx rfl (hb hby at_30) rfl ?_
    refine XS.sipush X0.here hx rfl (hb hby at_31) ?_
    refine XS.iand X0.here hx rfl (hb hby at_34) rfl ?_
    refine XS.i2c X0.here hx rfl (hb hby at_35) rfl ?_
    show SG p e below s₁ (mkF m 36 #[lI x0, lI x1, lI x2, lI x3, lI x4, lI x5, lI x6, lU, lU, lU, lU, lU, lU, lU, lU, lU, lU] [(.int ((((x1.toUInt32 >>> ((8 : Int32) &&& 31).toUInt32).toInt32) &&& (255 : Int32)).toUInt32.toUInt16.toUInt32.toInt32))]) _
    rw [hq5]
    refine XS.istore X0.here hx rfl (hb hby at_36) rfl (l' := #[lI x0, lI x1, lI x2, lI x3, lI x4, lI x5, lI x6, lI x7, lU, lU, lU, lU, lU, lU, lU, lU, lU]) rfl ?_
    refine qiN X0 hx hby at_38 ?_
    show SG p e below s₁ (mkF m 39 #[lI x0, lI x1, lI x2, lI x3, lI x4, lI x5, lI x6, lI x7, lU, lU, lU, lU, lU, lU, lU, lU, lU] [(.int x2)]) _
    refine XS.sipush X0.here hx rfl (hb hby at_39) ?_
    refine XS.iand X0.here hx rfl (hb hby at_42) rfl ?_
    refine XS.i2c X0.here hx rfl (hb hby at_43) rfl ?_
    show SG p e below s₁ (mkF m 44 #[lI x0, lI x1, lI x2, lI x3, lI x4, lI x5, lI x6, lI x7, lU, lU, lU, lU, lU, lU, lU, lU, lU] [(.int ((x2 &&& (255 : Int32)).toUInt32.toUInt16.toUInt32.toInt32))]) _
    rw [hq6]
    refine XS.istore X0.here hx rfl (hb hby at_44) rfl (l' := #[lI x0, lI x1, lI x2, lI x3, lI x4, lI x5, lI x6, lI x7, lI x8, lU, lU, lU, lU, lU, lU, lU, lU]) rfl ?_
    refine qiN X0 hx hby at_46 ?_
    refine qb X0 hx hby at_47 ?_
    refine XS.iushr X0.here hx rfl (hb hby at_49) rfl ?_
    refine XS.sipush X0.here hx rfl (hb hby at_50) ?_
    refine XS.iand X0.here hx rfl (hb hby at_53) rfl ?_
    refine XS.i2c X0.here hx rfl (hb hby at_54) rfl ?_
    show SG p e below s₁ (mkF m 55 #[lI x0, lI x1, lI x2, lI x3, lI x4, lI x5, lI x6, lI x7, lI x8, lU, lU, lU, lU, lU, lU, lU, lU] [(.int ((((x2.toUInt32 >>> ((8 : Int32) &&& 31).toUInt32).toInt32) &&& (255 : Int32)).toUInt32.toUInt16.toUInt32.toInt32))]) _
    rw [hq7]
    refine XS.istore X0.here hx rfl (hb hby at_55) rfl (l' := #[lI x0, lI x1, lI x2, lI x3, lI x4, lI x5, lI x6, lI x7, lI x8, lI x9, lU, lU, lU, lU, lU, lU, lU]) rfl ?_
    refine qiN X0 hx hby at_57 ?_
    refine X0.ldcInt hx hown (mvT hZ (w 0 rfl)) (g := (mkF m 58 #[lI x0, lI x1, lI x2, lI x3, lI x4, lI x5, lI x6, lI x7, lI x8, lI x9, lU, lU, lU, lU, lU, lU, lU] [(.int x3)])) rfl (hb hby at_58) _ ?_
    refine XS.iand X0.here hx rfl (hb hby at_60) rfl ?_
    refine qc X0 hx hby at_61 ?_
    refine iremM (g := (mkF m 62 #[lI x0, lI x1, lI x2, lI x3, lI x4, lI x5, lI x6, lI x7, lI x8, lI x9, lU, lU, lU, lU, lU, lU, lU] [vI3, (.int (x3 &&& (2147483647 : Int32)))])) X0 hx rfl (hb hby at_62) rfl (by decide : ¬ ((3 : Int32) = (0 : Int32))) ?_
    show SG p e below s₁ (mkF m 63 #[lI x0, lI x1, lI x2, lI x3, lI x4, lI x5, lI x6, lI x7, lI x8, lI x9, lU, lU, lU, lU, lU, lU, lU] [(.int ((x3 &&& (2147483647 : Int32)) % (3 : Int32)))]) _
    rw [hc8]
    refine XS.istore X0.here hx rfl (hb hby at_63) rfl (l' := #[lI x0, lI x1, lI x2, lI x3, lI x4, lI x5, lI x6, lI x7, lI x8, lI x9, lV vI2, lU, lU, lU, lU, lU, lU]) rfl ?_
    refine st9 _ ?_
    refine qd X9 hx hby at_68 ?_
    refine qc X9 hx hby at_69 ?_
    refine st14 _ ?_
    refine qd X14 hx hby at_72 ?_
    refine qc X14 hx hby at_73 ?_
    refine qi X14 hx hby at_74 ?_
    refine st21 _ ?_
    show SG p e below T21 (mkF m 77 #[lI x0, lI x1, lI x2, lI x3, lI x4, lI x5, lI x6, lI x7, lI x8, lI x9, lV vI2, lU, lU, lU, lU, lU, lU] [(.ref b14), (.ref b9), (.ref b9)]) _
    refine qd X21 hx hby at_77 ?_
    refine qc X21 hx hby at_78 ?_
    refine qi X21 hx hby at_79 ?_
    refine st25 _ ?_
    refine st43.trans ?_
    refine XS.astore X43.here hx rfl (hb hby at_85) rfl rfl (l' := #[lI x0, lI x1, lI x2, lI x3, lI x4, lI x5, lI x6, lI x7, lI x8, lI x9, lV vI2, lR b9, lU, lU, lU, lU, lU]) rfl ?_
    refine st53 _ ?_
    refine qd X53 hx hby at_90 ?_
    refine qc X53 hx hby at_91 ?_
    refine st58 _ ?_
    refine qd X58 hx hby at_94 ?_
    refine qc X58 hx hby at_95 ?_
    refine qi X58 hx hby at_96 ?_
    refine st66 _ ?_
    refine qd X66 hx hby at_99 ?_
    refine qc X66 hx hby at_100 ?_
    refine qi X66 hx hby at_101 ?_
    refine st70 _ ?_
    refine st86.trans ?_
    refine XS.astore X86.here hx rfl (hb hby at_107) rfl rfl (l' := #[lI x0, lI x1, lI x2, lI x3, lI x4, lI x5, lI x6, lI x7, lI x8, lI x9, lV vI2, lR b9, lR b53, lU, lU, lU, lU]) rfl ?_
    refine st96 _ ?_
    refine qd X96 hx hby at_112 ?_
    refine qc X96 hx hby at_113 ?_
    refine st101 _ ?_
    refine qd X101 hx hby at_116 ?_
    show SG p e below T101 (mkF m 117 #[lI x0, lI x1, lI x2, lI x3, lI x4, lI x5, lI x6, lI x7, lI x8, lI x9, lV vI2, lR b9, lR b53, lU, lU, lU, lU] [(.ref b101), (.ref b101), (.ref b96), (.ref b96)]) _
    refine qc X101 hx hby at_117 ?_
    refine qi X101 hx hby at_118 ?_
    refine st109 _ ?_
    refine qd X109 hx hby at_121 ?_
    refine qc X109 hx hby at_122 ?_
    refine qi X109 hx hby at_123 ?_
    refine st113 _ ?_
    refine st129.trans ?_
    refine XS.astore X129.here hx rfl (hb hby at_129) rfl rfl (l' := #[lI x0, lI x1, lI x2, lI x3, lI x4, lI x5, lI x6, lI x7, lI x8, lI x9, lV vI2, lR b9, lR b53, lR b96, lU, lU, lU]) rfl ?_
    refine st139 _ ?_
    refine qd X139 hx hby at_134 ?_
    refine st150.trans ?_
    refine XS.astore X150.here hx rfl (hb hby at_138) rfl rfl (l' := #[lI x0, lI x1, lI x2, lI x3, lI x4, lI x5, lI x6, lI x7, lI x8, lI x9, lV vI2, lR b9, lR b53, lR b96, lR b139, lU, lU]) rfl ?_
    refine qi X150 hx hby at_140 ?_
    refine qc X150 hx hby at_142 ?_
    refine XS.icmpNo X150.here hx rfl (hb hby at_143) rfl (flt (by decide : ¬ ((2 : Int32) < (1 : Int32)))).1 ?_
    refine qa X150 hx hby at_146 ?_
    refine qa X150 hx hby at_148 ?_
    refine st160 _ ?_
    refine XS.pop X160.here hx rfl (hb hby at_153) rfl rfl ?_
    refine qi X160 hx hby at_154 ?_
    refine qc X160 hx hby at_156 ?_
    refine XS.icmpNo X160.here hx rfl (hb hby at_157) rfl (flt (by decide : ¬ ((2 : Int32) < (2 : Int32)))).1 ?_
    refine qa X160 hx hby at_160 ?_
    refine qa X160 hx hby at_162 ?_
    show SG p e below T160 (mkF m 164 #[lI x0, lI x1, lI x2, lI x3, lI x4, lI x5, lI x6, lI x7, lI x8, lI x9, lV vI2, lR b9, lR b53, lR b96, lR b139, lU, lU] [(.ref b96), (.ref b139)]) _
    refine st176 _ ?_
    refine XS.pop X176.here hx rfl (hb hby at_167) rfl rfl ?_
    refine qi X176 hx hby at_168 ?_
    refine qi X176 hx hby at_170 ?_
    refine qi X176 hx hby at_172 ?_
    refine qi X176 hx hby at_174 ?_
    refine qi X176 hx hby at_176 ?_
    refine qi X176 hx hby at_178 ?_
    refine qi X176 hx hby at_180 ?_
    refine st183 _ ?_
    refine XS.astore X183.here hx rfl (hb hby at_185) rfl rfl (l' := #[lI x0, lI x1, lI x2, lI x3, lI x4, lI x5, lI x6, lI x7, lI x8, lI x9, lV vI2, lR b9, lR b53, lR b96, lR b139, lR b183_0, lU]) rfl ?_
    refine st195 _ ?_
    refine qd X195 hx hby at_190 ?_
    refine qa X195 hx hby at_191 ?_
    refine qa X195 hx hby at_193 ?_
    refine st219.trans ?_
    refine XS.astore X219.here hx rfl (hb hby at_198) rfl rfl (l' := #[lI x0, lI x1, lI x2, lI x3, lI x4, lI x5, lI x6, lI x7, lI x8, lI x9, lV vI2, lR b9, lR b53, lR b96, lR b139, lR b183_0, lR b195]) rfl ?_
    refine qa X219 hx hby at_200 ?_
    refine qa X219 hx hby at_202 ?_
    refine st360.trans ?_
    refine st380.trans ?_
    exact retN X380 hx (t := .boolean) hret (by simp) (hb hby at_210) hr
theorem comes_1 {Post : Tables → Env → Array Value → State → Outcome → State → Prop} (hpost : ∀ tb e args s v u, (limb_1_1.after args s (.returned v) u = true ∧ limb_1_2.after args s (.returned v) u = true ∧ True) → ReturnedEndW s (.returned v) u (Jvm.fieldLocs frame_1_writes args s ++ Jvm.arrayLocs frame_1_arrays args s ++ Jvm.staticLocs frame_1_statics s) 72 4928 → Post tb e args s (.returned v) u) :
    ArmFor flags0 classFile x code maxLocals ret World_1 tables_1 room_1 Calls_1 rest_1 Pre_1 Post := by
  intro l hfl _ _ p e ha hc hk s m args below hf hA hF happ hP
  obtain ⟨hcalls, hrest, hpre⟩ := hP
  obtain ⟨-, -, -, hnamed, -, -, -, hat⟩ := (Spec.applies_iff hf).mp happ
  obtain ⟨hg, hn⟩ := and_e (Cond.before_iff.mp (show (Jvm.Cond.and given_1 narrow_1).before args s = true from hpre))
  obtain ⟨g0, hg⟩ := and_e hg
  obtain ⟨ga0, hg⟩ := and_e hg
  obtain ⟨ga1, hg⟩ := and_e hg
  obtain ⟨ga2, hg⟩ := and_e hg
  obtain ⟨w0, w1, w2, w3, rfl⟩ : ∃ w0 w1 w2 w3 : Value, args = #[w0, w1, w2, w3] := by
    have hs : args.size = 4 := by simpa [Cond.value, given_1] using g0
    obtain ⟨L⟩ := args
    match L, hs with
    | [w0, w1, w2, w3], _ => exact ⟨w0, w1, w2, w3, rfl⟩
  have hw := fun d (hd : d ∈ tables_1) => atoms_spec (ws := Jvm.Cond.code x code maxLocals ret :: tables_1) hat d (List.mem_cons_of_mem _ hd)
  have hfit : Fit s := fun {y c} hc i hi => by
    obtain ⟨ha, rfl⟩ := Array.getElem?_eq_some_iff.mp hc
    have q := List.all_eq_true.mp ((Array.all_eq_true_iff_forall_mem.mp hF) _ (Array.getElem_mem ha)) i (List.mem_range.mpr hi)
    simpa [Array.getElem?_eq_getElem hi] using q
  obtain ⟨hsets, hown0⟩ := atoms_of _ (rest_1_c_eq ▸ (show rest_1_c.before _ s = true from hrest))
  have hr0 := Cond.before_iff.mp hown0
  obtain ⟨i0, ei0⟩ := is_v ga0
  obtain rfl : w0 = (.int i0) := Option.some.inj ei0
  obtain ⟨i1, ei1⟩ := is_v ga1
  obtain rfl : w1 = (.int i1) := Option.some.inj ei1
  obtain ⟨i2, ei2⟩ := is_v ga2
  obtain rfl : w2 = (.int i2) := Option.some.inj ei2
  obtain ⟨i3, ei3⟩ := is_v hg
  obtain rfl : w3 = (.int i3) := Option.some.inj ei3
  have hs := fun (n : Nat) (d : Jvm.Cond) (q : jdkStatics_1[n]? = some d) => Cond.before_iff.mp (hsets d (List.mem_of_getElem? q))
  obtain ⟨iCS, eCS⟩ := is_v (hs 1 _ rfl)
  have SCS := Sta.start eCS (Or.inl (hsets _ (List.mem_of_getElem? (i := 0) rfl)))
  have nCS : ¬ (iCS = (0 : Int32)) := gotF (Cond.eq_ints eCS (Term.int_eval (0))) (not_v (hs 2 _ rfl))
  obtain ⟨vFM, eFM, hFM⟩ := isR_v (hs 8 _ rfl)
  have SFM := Sta.start eFM (Or.inl (hsets _ (List.mem_of_getElem? (i := 7) rfl)))
  obtain ⟨rDCE, eDCE⟩ := exa_v (hs 16 _ rfl)
  have SDCE := Sta.start eDCE (Or.inr ⟨(ww hw 33 rfl), (hsets _ (List.mem_of_getElem? (i := 11) rfl))⟩)
  have EDCE := Exa.start eDCE (hs 16 _ rfl)
  obtain ⟨clDCE, ADCE⟩ := Arr.start eDCE (hs 15 _ rfl)
  have hlDCE := own_len (hs 17 _ rfl) eDCE ADCE
  have VDCE : Arv s s.heap rDCE clDCE.cls (.object "java/lang/Object") (0 : Int32) [] .null := Arv.start hfit ADCE hlDCE.1 hlDCE.2 (by decide) rfl trivial
  obtain ⟨rELIST, eELIST⟩ := exa_v (hs 26 _ rfl)
  have SELIST := Sta.start eELIST (Or.inl (hsets _ (List.mem_of_getElem? (i := 25) rfl)))
  have EELIST := Exa.start eELIST (hs 26 _ rfl)
  obtain ⟨rELE, eELE⟩ := exa_v (hs 31 _ rfl)
  have FELE := Fld.start ((fld_at eELIST).symm.trans eELE)
  have EELE := Exa.start eELE (hs 31 _ rfl)
  obtain ⟨clELE, AELE⟩ := Arr.start eELE (hs 30 _ rfl)
  have hlELE := own_len (hs 32 _ rfl) eELE AELE
  have VELE : Arv s s.heap rELE clELE.cls (.object "java/lang/Object") (0 : Int32) [] .null := Arv.start hfit AELE hlELE.1 hlELE.2 (by decide) rfl trivial
  have FELISTn := Fld.start ((fld_at eELIST).symm.trans (eqv_i (y := 0) rfl (hs 33 _ rfl)))
  obtain ⟨rEMPTY, eEMPTY⟩ := exa_v (hs 20 _ rfl)
  have SEMPTY := Sta.start eEMPTY (Or.inl (hsets _ (List.mem_of_getElem? (i := 19) rfl)))
  have EEMPTY := Exa.start eEMPTY (hs 20 _ rfl)
  have SAD := Sta.start (eqv_i (y := 1) rfl (hs 23 _ rfl)) (Or.inl (hsets _ (List.mem_of_getElem? (i := 22) rfl)))
  have hcw : Jvm.Lit.compactW.before _ s = true := (hsets _ (List.mem_of_getElem? (i := 2) rfl))
  obtain ⟨cMir, kMir, rMir, mm1, mm2, mm3, -⟩ := hcalls.1
  suffices hM : MetFree l x (head1 (Jvm.Cond.code x code maxLocals ret :: tables_1) room_1) (fun a U => a = #[(.int i0), (.int i1), (.int i2), (.int i3)] ∧ s.Warmed39 U.vm ∧ U.heap = s.heap ∧ CHv s consts_1 U.vm s.heap) (fun _ _ _ _ _ => True) (fun _ U o U' => ∃ v L, o = .returned v ∧ (v = some vI1 ∧ Fr s.heap.size L) ∧ CHr s consts_1 U.vm U.heap U'.vm U'.heap ∧ ReturnedEndW U o U' L room_1.cells room_1.slots) by
    obtain ⟨n, o, h1, h2, h3, _, L, rfl, ⟨rfl, N⟩, -, hq⟩ := hM p e ha hc hk s m _ below hf ((Spec.applies_iff_loose hf).mp happ).1 ⟨rfl, State.Warmed39.refl s, rfl, CHv.start (own_EW hw) (fun p hp => hcalls.2.1 p hp) hcw (ww hw 20 rfl) (ww hw 2 rfl)⟩ trivial
    refine ⟨n, _, h1, h2, h3, hpost _ _ _ _ _ _ ⟨Cond.after_iff.mpr rfl, Cond.after_iff.mpr (eq_i res_at (Term.int_eval (1)) rfl), trivial⟩ ⟨hq.1, hq.2.1, hq.2.2.1, (hq.2.2.2.sift fun y hy => Or.inr (N y hy)).mono (by decide) (by decide)⟩⟩
  obtain ⟨cA, hA, aA⟩ := own_chy i0
  obtain ⟨cB, hB, aB⟩ := own_chy ((i0.toUInt32 >>> ((8 : Int32) &&& 31).toUInt32).toInt32)
  obtain ⟨cC, hC, aC⟩ := own_chy i1
  obtain ⟨cD, hD, aD⟩ := own_chy ((i1.toUInt32 >>> ((8 : Int32) &&& 31).toUInt32).toInt32)
  obtain ⟨cE, hE, aE⟩ := own_chy i2
  obtain ⟨cF, hF, aF⟩ := own_chy ((i2.toUInt32 >>> ((8 : Int32) &&& 31).toUInt32).toInt32)
  rcases own_mod3 i3 with ck | ck | ck
  · exact rm0_1 l s _ hw tables_1 i0 i1 i2 i3 cA cB cC cD cE cF iCS rDCE rELIST rELE clELE.cls _ _ (Old.start s) hA hB hC hD hE hF ck SCS nCS aA aB aC aD aE aF SDCE SELIST EELIST FELE VELE
  · exact rm0_2 l s _ hw tables_1 i0 i1 i2 i3 cA cB cC cD cE cF iCS rDCE clDCE.cls rMir rEMPTY _ _ (Old.start s) hA hB hC hD hE hF ck SCS nCS aA aB aC aD aE aF SDCE VDCE ⟨cMir, kMir, mm1, mm2, mm3⟩ SEMPTY
  · exact rm0_3 l s _ hw tables_1 i0 i1 i2 i3 cA cB cC cD cE cF iCS rDCE clDCE.cls rMir rEMPTY _ _ (Old.start s) hA hB hC hD hE hF ck SCS nCS aA aB aC aD aE aF SDCE VDCE ⟨cMir, kMir, mm1, mm2, mm3⟩ SEMPTY EEMPTY
theorem main_1_1 : Claimed_1_1 := comes_1 fun _ _ _ _ _ _ h hF => ⟨h.1, hF⟩
theorem main_1_2 : Claimed_1_2 := comes_1 fun _ _ _ _ _ _ h hF => ⟨h.2.1, hF⟩
end Jvm.Pilot.@@N@@
namespace Jvm.Pilot.@@N@@
open Jvm Jvm.ClassFile Sem Op Lib Jvm.Free Jvm.Stand Jvm.Pilot.@@N@@.Jvm.D
set_option maxRecDepth 65536
/-! MADE BY PROGRAM (witnessworld.py) out of the Statement's table words and the real class files: 45 classes; the members and pool entries that the words name. The judged class is class 1, her method 1. -/
namespace start1
open Jvm.ClassFile
def u (s : String) : CpInfo := .utf8 (stringToUtf16 s)
/-- a pool by its gaps: so many unusable entries, then the entry; so many at the end -/
def gap : Nat → List CpInfo → List CpInfo
  | 0, r => r
  | n + 1, r => .unusable :: gap n r
def poolList (es : List (Nat × CpInfo)) (last : Nat) : List CpInfo := es.foldr (fun e r => gap e.1 (e.2 :: r)) (gap last [])
def pool (es : List (Nat × CpInfo)) (last : Nat) : Array CpInfo := ⟨poolList es last⟩
def fileOf (pool : Array CpInfo) (this : Nat) (attrs : Array Attribute := #[]) (ms : Array MethodInfo := #[]) (fl : Nat := 33) (sup : Nat := 0) (ifs : Array Nat := #[]) (fds : Array FieldInfo := #[]) : ClassFile where
  minorVersion := 0
  majorVersion := 65
  constantPool := pool
  accessFlags := fl
  thisClass := this
  superClass := sup
  interfaces := ifs
  fields := fds
  methods := ms
  attributes := attrs
def plain (name : String) (sup : Option ClassId) : Class where
  name := name
  kind := .ordinary
  loader := none
  accessFlags := 33
  super := sup
  interfaces := #[]
  cf := none
  fields := #[]
  methods := #[]
  instanceTypes := #[]
  staticTypes := #[]
  resolved := #[]
  callSites := []
  init := .initialized
  statics := none
  mirror := none

def pN (a b : Nat) : Nat × CpInfo := (0, .nameAndType a b)
def pF (a b : Nat) : Nat × CpInfo := (0, .fieldref a b)
def pM (a b : Nat) : Nat × CpInfo := (0, .methodref a b)
def pK (a : Nat) : Nat × CpInfo := (0, .class_ a)
def pU (s : String) : Nat × CpInfo := (0, u s)
def pool0 : Array CpInfo := pool [(5, u "<init>"), pU "()V", (1, .class_ 10), (1, u "java/lang/Object"), pU "getClass", pU "()Ljava/lang/Class;", (5, u "()Ljava/lang/String;"), (18, u "toString")] 86

def k0c0 : Code := ⟨0, 1, object_method_1_code, #[], #[]⟩
def k0m0 : Method := ⟨"<init>", "()V", ⟨[], none⟩, 1, some k0c0⟩
def k0m1 : Method := ⟨"getClass", "()Ljava/lang/Class;", ⟨[], some (.object "java/lang/Class")⟩, 273, none⟩
def k0c2 : Code := { maxStack := 2, maxLocals := 1, code := ⟨#[0xbb, 0x00, 0x01, 0x59, 0xb7, 0x00, 0x03, 0x2a, 0xb6, 0x00, 0x07, 0xb6, 0x00, 0x0d, 0xb6, 0x00, 0x13, 0x12, 0x17, 0xb6, 0x00, 0x13, 0x2a, 0xb6, 0x00, 0x19, 0xb8, 0x00, 0x1d, 0xb6, 0x00, 0x13, 0xb6, 0x00, 0x23, 0xb0]⟩, exceptionTable := #[], attributes := #[] }
def k0m2 : Method := ⟨"toString", "()Ljava/lang/String;", ⟨[], some (.object "java/lang/String")⟩, 1, some k0c2⟩
/-- java/lang/Object -/
def k0 : Class := { plain "java/lang/Object" none with
  cf := some (fileOf pool0 8 #[] #[⟨1, 5, 6, #[]⟩, ⟨273, 11, 12, #[]⟩, ⟨1, 37, 18, #[]⟩] 33 0 #[] #[])
  methods := #[k0m0, k0m1, k0m2]
  resolved := Array.replicate 124 none }

def pool1 : Array CpInfo := pool [(2, .class_ 4), pN 5 6, pU "java/lang/Object", pU "<init>", pU "()V", (0, .integer 2147483647), pK 9, pU "java/lang/String", pM 8 11, pN 5 12, pU "([C)V", pK 14, pU "java/util/ArrayList", pM 13 3, pM 13 17, pN 18 19, pU "add", pU "(Ljava/lang/Object;)Z", pM 21 22, pK 23, pN 24 25, pU "com/example/innerkey/innerkey/InternalCallDetailsToStringPinLaw", pU "expected", pU "(ICCCCCC)Ljava/lang/String;", pK 27, pU "com/example/innerkey/innerkey/InternalCallDetails", pM 26 29, pN 5 30, pU "(Ljava/lang/String;Ljava/util/List;)V", pM 26 32, pN 33 34, pU "toString", pU "()Ljava/lang/String;", pM 8 36, pN 37 19, pU "equals", (2, u "law"), pU "(IIII)Z"] 3

def k1m0 : Method := ⟨"<init>", "()V", ⟨[], none⟩, 2, none⟩
def k1c1 : Code := ⟨7, 17, code, #[], #[]⟩
def k1m1 : Method := ⟨"law", "(IIII)Z", ⟨[.int, .int, .int, .int], some .boolean⟩, 9, some k1c1⟩
def k1c2 : Code := ⟨6, 7, method_3_code, #[], #[]⟩
def k1m2 : Method := ⟨"expected", "(ICCCCCC)Ljava/lang/String;", ⟨[.int, .char, .char, .char, .char, .char, .char], some (.object "java/lang/String")⟩, 10, some k1c2⟩
/-- com/example/innerkey/innerkey/InternalCallDetailsToStringPinLaw -/
def k1 : Class := { plain "com/example/innerkey/innerkey/InternalCallDetailsToStringPinLaw" (some 0) with
  accessFlags := 49
  cf := some (fileOf pool1 21 #[] #[⟨2, 5, 6, #[]⟩, ⟨9, 40, 41, #[]⟩, ⟨10, 24, 25, #[]⟩] 49 2 #[] #[])
  methods := #[k1m0, k1m1, k1m2]
  resolved := Array.replicate 45 none }

def pool2 : Array CpInfo := pool [(1, .class_ 2), pU "java/io/Serializable", pK 4, pU "java/lang/Object"] 2

/-- java/io/Serializable -/
def k2 : Class := { plain "java/io/Serializable" (some 0) with
  accessFlags := 1537
  cf := some (fileOf pool2 1 #[] #[] 1537 3 #[] #[])
  resolved := Array.replicate 7 none }

def pool3 : Array CpInfo := pool [(1, .class_ 2), pU "java/lang/Comparable", pK 4, pU "java/lang/Object"] 7

/-- java/lang/Comparable -/
def k3 : Class := { plain "java/lang/Comparable" (some 0) with
  accessFlags := 1537
  cf := some (fileOf pool3 1 #[] #[] 1537 3 #[] #[])
  resolved := Array.replicate 12 none }

def pool4 : Array CpInfo := pool [(2, .class_ 4), (1, u "java/lang/CharSequence"), (42, .class_ 48), pU "java/lang/CharSequence$1CodePointIterator", (10, .class_ 60), pU "java/lang/CharSequence$1CharIterator", (5, .class_ 67), pU "java/lang/Object"] 63

/-- java/lang/CharSequence -/
def k4 : Class := { plain "java/lang/CharSequence" (some 0) with
  accessFlags := 1537
  cf := some (fileOf pool4 2 #[.nestMembers #[47, 59]] #[] 1537 66 #[] #[])
  resolved := Array.replicate 131 none }

def pool5 : Array CpInfo := pool [(1, .class_ 2), pU "java/lang/constant/Constable", pK 4, pU "java/lang/Object"] 6

/-- java/lang/constant/Constable -/
def k5 : Class := { plain "java/lang/constant/Constable" (some 0) with
  accessFlags := 1537
  cf := some (fileOf pool5 1 #[] #[] 1537 3 #[] #[])
  resolved := Array.replicate 11 none }

def pool6 : Array CpInfo := pool [(1, .class_ 2), pU "java/lang/constant/ConstantDesc", pK 4, pU "java/lang/Object"] 32

/-- java/lang/constant/ConstantDesc -/
def k6 : Class := { plain "java/lang/constant/ConstantDesc" (some 0) with
  accessFlags := 1537
  cf := some (fileOf pool6 1 #[] #[] 1537 3 #[] #[])
  resolved := Array.replicate 37 none }

def pool7 : Array CpInfo := pool [(1, .methodref 2 3), pK 4, pN 5 6, pU "java/lang/Object", pU "<init>", pU "()V", (2, .fieldref 10 11), pK 12, pN 13 14, pU "java/lang/String", pU "value", pU "[B", pF 10 16, pN 17 18, pU "coder", pU "B", (2, u "hash"), pU "I", (2, u "hashIsZero"), pU "Z", pM 10 28, pN 5 29, pU "([CIILjava/lang/Void;)V", (8, .fieldref 10 39), pN 40 26, pU "COMPACT_STRINGS", (1, .class_ 44), (1, u "java/lang/StringUTF16"), pU "compress", (1, .methodref 42 48), pN 49 50, pU "coderFromArrayLen", pU "([BI)B", (3, .methodref 55 56), pK 57, pN 58 59, pU "java/util/Arrays", pU "copyOfRange", pU "([BII)[B", (47, .class_ 109), (1, u "java/lang/StringLatin1"), (32, u "()Z"), (34, .methodref 42 178), pN 45 179, pU "([CII)[B", (13, .class_ 195), (1, u "java/lang/System"), (16, .methodref 193 213), pN 214 215, pU "arraycopy", pU "(Ljava/lang/Object;ILjava/lang/Object;II)V", (118, u "()I"), pM 10 336, pN 17 337, pU "()B", (2, u "()[B"), (121, .nameAndType 463 464), pU "toString", pU "()Ljava/lang/String;", (24, .methodref 10 490), pN 5 491, pU "(Ljava/lang/AbstractStringBuilder;Ljava/lang/Void;)V", (1, .nameAndType 494 142), pU "isLatin1", (11, .nameAndType 507 334), pU "length", (24, u "getBytes"), (8, .methodref 107 542), pN 543 544, pU "equals", pU "([B[B)Z", (4, .methodref 550 506), pK 551, pU "java/lang/AbstractStringBuilder", pM 550 553, pN 554 340, pU "getValue", (18, u "(Ljava/lang/Object;)Z"), (1, .class_ 576), pU "java/lang/CharSequence", (22, u "CASE_INSENSITIVE_ORDER"), pU "Ljava/util/Comparator;", (181, u "valueOf"), (25, u "(Ljava/lang/Object;)Ljava/lang/String;"), (12, u "([BIB)V"), (185, .methodref 2 462), (2, u "([C)V"), (36, .methodref 550 493), (53, u "serialPersistentFields"), pU "[Ljava/io/ObjectStreamField;", pK 1104, pU "java/lang/String$CaseInsensitiveComparator", (1, .class_ 1107), pU "java/io/Serializable", pK 1109, pU "java/lang/Comparable", pK 1111, pU "java/lang/constant/Constable", pK 1113, pU "java/lang/constant/ConstantDesc", (2, u "serialVersionUID"), pU "J", (3, u "REPL"), pU "C", (2, u "LATIN1"), (1, u "UTF16"), (105, u "(Ljava/lang/StringBuilder;)V")] 217

def k7m0 : Method := ⟨"<init>", "()V", ⟨[], none⟩, 1, none⟩
def k7c1 : Code := ⟨5, 2, jdk_42_method_3_code, #[], #[]⟩
def k7m1 : Method := ⟨"<init>", "([C)V", ⟨[(.array .char)], none⟩, 1, some k7c1⟩
def k7c2 : Code := ⟨3, 2, jdk_42_method_53_code, #[], #[]⟩
def k7m2 : Method := ⟨"<init>", "(Ljava/lang/StringBuilder;)V", ⟨[(.object "java/lang/StringBuilder")], none⟩, 1, some k7c2⟩
def k7c3 : Code := ⟨2, 1, jdk_42_method_54_code, #[], #[]⟩
def k7m3 : Method := ⟨"length", "()I", ⟨[], some .int⟩, 1, some k7c3⟩
def k7c4 : Code := ⟨2, 3, jdk_42_method_66_code, #[], #[]⟩
def k7m4 : Method := ⟨"equals", "(Ljava/lang/Object;)Z", ⟨[(.object "java/lang/Object")], some .boolean⟩, 1, some k7c4⟩
def k7c5 : Code := ⟨1, 1, jdk_42_method_126_code, #[], #[]⟩
def k7m5 : Method := ⟨"toString", "()Ljava/lang/String;", ⟨[], some (.object "java/lang/String")⟩, 1, some k7c5⟩
def k7c6 : Code := ⟨1, 1, jdk_42_method_133_code, #[], #[]⟩
def k7m6 : Method := ⟨"valueOf", "(Ljava/lang/Object;)Ljava/lang/String;", ⟨[(.object "java/lang/Object")], some (.object "java/lang/String")⟩, 9, some k7c6⟩
def k7c7 : Code := ⟨5, 4, jdk_42_method_147_code, #[], #[]⟩
def k7m7 : Method := ⟨"getBytes", "([BIB)V", ⟨[(.array .byte), .int, .byte], none⟩, 0, some k7c7⟩
def k7c8 : Code := ⟨4, 6, jdk_42_method_149_code, #[], #[]⟩
def k7m8 : Method := ⟨"<init>", "([CIILjava/lang/Void;)V", ⟨[(.array .char), .int, .int, (.object "java/lang/Void")], none⟩, 2, some k7c8⟩
def k7c9 : Code := ⟨5, 5, jdk_42_method_150_code, #[], #[]⟩
def k7m9 : Method := ⟨"<init>", "(Ljava/lang/AbstractStringBuilder;Ljava/lang/Void;)V", ⟨[(.object "java/lang/AbstractStringBuilder"), (.object "java/lang/Void")], none⟩, 0, some k7c9⟩
def k7c10 : Code := ⟨1, 1, jdk_42_method_152_code, #[], #[]⟩
def k7m10 : Method := ⟨"coder", "()B", ⟨[], some .byte⟩, 0, some k7c10⟩
/-- java/lang/String -/
def k7 : Class := { plain "java/lang/String" (some 0) with
  accessFlags := 49
  interfaces := #[2, 3, 4, 5, 6]
  cf := some (fileOf pool7 10 #[.nestMembers #[1103]] #[⟨1, 5, 6, #[]⟩, ⟨1, 5, 1010, #[]⟩, ⟨1, 5, 1233, #[]⟩, ⟨1, 507, 334, #[]⟩, ⟨1, 543, 573, #[]⟩, ⟨1, 463, 464, #[]⟩, ⟨9, 782, 808, #[]⟩, ⟨0, 532, 821, #[]⟩, ⟨2, 5, 29, #[]⟩, ⟨0, 5, 491, #[]⟩, ⟨0, 17, 337, #[]⟩] 49 2 #[1106, 1108, 575, 1110, 1112] #[⟨18, 13, 14, #[]⟩, ⟨18, 17, 18, #[]⟩, ⟨2, 21, 22, #[]⟩, ⟨2, 25, 26, #[]⟩, ⟨26, 1116, 1117, #[]⟩, ⟨24, 40, 26, #[]⟩, ⟨26, 1101, 1102, #[]⟩, ⟨26, 1121, 1122, #[]⟩, ⟨25, 599, 600, #[]⟩, ⟨24, 1125, 18, #[]⟩, ⟨24, 1127, 18, #[]⟩])
  fields := #[⟨"value", (.array .byte), 18, 0, 0⟩, ⟨"coder", .byte, 18, 1, 0⟩, ⟨"hash", .int, 2, 2, 0⟩, ⟨"hashIsZero", .boolean, 2, 3, 0⟩, ⟨"serialVersionUID", .long, 26, 0, 0⟩, ⟨"COMPACT_STRINGS", .boolean, 24, 1, 0⟩, ⟨"serialPersistentFields", (.array (.object "java/io/ObjectStreamField")), 26, 2, 0⟩, ⟨"REPL", .char, 26, 3, 0⟩, ⟨"CASE_INSENSITIVE_ORDER", (.object "java/util/Comparator"), 25, 4, 0⟩, ⟨"LATIN1", .byte, 24, 5, 0⟩, ⟨"UTF16", .byte, 24, 6, 0⟩]
  methods := #[k7m0, k7m1, k7m2, k7m3, k7m4, k7m5, k7m6, k7m7, k7m8, k7m9, k7m10]
  instanceTypes := #[(.array .byte), .byte, .int, .boolean]
  staticTypes := #[.long, .boolean, (.array (.object "java/io/ObjectStreamField")), .char, (.object "java/util/Comparator"), .byte, .byte]
  resolved := Array.replicate 1451 none
  statics := some 0 }

def pool8 : Array CpInfo := pool [(6, .class_ 8), (1, u "java/lang/Object"), pU "<init>", pU "()V", (1, .class_ 14), (1, u "java/lang/StringUTF16"), (31, u "$assertionsDisabled"), pU "Z", (13, u "HI_BYTE_SHIFT"), pU "I", (2, u "LO_BYTE_SHIFT"), (49, .methodref 12 116), pN 117 118, pU "compress", pU "([CI[BII)I", (3, u "([CII)[B"), (138, u "coderFromArrayLen"), pU "([BI)B", (106, .class_ 371), (1, u "java/lang/StringUTF16$LinesSpliterator"), (58, u "MAX_LENGTH"), (196, .class_ 628), pU "java/lang/StringUTF16$CodePointsSpliterator", pK 630, pU "java/lang/StringUTF16$CharsSpliterator"] 4

def k8m0 : Method := ⟨"<init>", "()V", ⟨[], none⟩, 0, none⟩
def k8c1 : Code := ⟨2, 2, jdk_52_method_15_code, #[], #[]⟩
def k8m1 : Method := ⟨"coderFromArrayLen", "([BI)B", ⟨[(.array .byte), .int], some .byte⟩, 8, some k8c1⟩
def k8c2 : Code := ⟨5, 6, jdk_52_method_16_code, #[], #[]⟩
def k8m2 : Method := ⟨"compress", "([CII)[B", ⟨[(.array .char), .int, .int], some (.array .byte)⟩, 9, some k8c2⟩
def k8c3 : Code := ⟨3, 7, jdk_52_method_21_code, #[], #[]⟩
def k8m3 : Method := ⟨"compress", "([CI[BII)I", ⟨[(.array .char), .int, (.array .byte), .int, .int], some .int⟩, 9, some k8c3⟩
/-- java/lang/StringUTF16 -/
def k8 : Class := { plain "java/lang/StringUTF16" (some 0) with
  accessFlags := 48
  cf := some (fileOf pool8 12 #[.nestMembers #[627, 629, 369]] #[⟨0, 9, 10, #[]⟩, ⟨8, 261, 262, #[]⟩, ⟨9, 117, 122, #[]⟩, ⟨9, 117, 118, #[]⟩] 48 6 #[] #[⟨26, 61, 62, #[]⟩, ⟨26, 65, 62, #[]⟩, ⟨24, 430, 62, #[]⟩, ⟨4120, 46, 47, #[]⟩])
  fields := #[⟨"HI_BYTE_SHIFT", .int, 26, 0, 0⟩, ⟨"LO_BYTE_SHIFT", .int, 26, 1, 0⟩, ⟨"MAX_LENGTH", .int, 24, 2, 0⟩, ⟨"$assertionsDisabled", .boolean, 4120, 3, 0⟩]
  methods := #[k8m0, k8m1, k8m2, k8m3]
  staticTypes := #[.int, .int, .int, .boolean]
  resolved := Array.replicate 635 none }

def pool9 : Array CpInfo := pool [(8, .class_ 10), (1, u "java/lang/Iterable"), (24, .class_ 36), pU "java/lang/Object"] 25

/-- java/lang/Iterable -/
def k9 : Class := { plain "java/lang/Iterable" (some 0) with
  accessFlags := 1537
  cf := some (fileOf pool9 8 #[] #[] 1537 35 #[] #[])
  resolved := Array.replicate 62 none }

def pool10 : Array CpInfo := pool [(10, .class_ 12), (1, u "java/util/Collection"), pU "toArray", (16, u "()Z"), (29, .class_ 61), pU "java/lang/Object", pK 63, pU "java/lang/Iterable", (2, u "isEmpty"), (3, u "()[Ljava/lang/Object;")] 44

def k10m0 : Method := ⟨"isEmpty", "()Z", ⟨[], some .boolean⟩, 1025, none⟩
def k10m1 : Method := ⟨"toArray", "()[Ljava/lang/Object;", ⟨[], some (.array (.object "java/lang/Object"))⟩, 1025, none⟩
/-- java/util/Collection -/
def k10 : Class := { plain "java/util/Collection" (some 0) with
  accessFlags := 1537
  interfaces := #[9]
  cf := some (fileOf pool10 10 #[] #[⟨1025, 66, 30, #[]⟩, ⟨1025, 13, 70, #[]⟩] 1537 60 #[62] #[])
  methods := #[k10m0, k10m1]
  resolved := Array.replicate 115 none }

def pool11 : Array CpInfo := pool [(1, .methodref 2 3), pK 4, pN 5 6, pU "java/lang/Object", pU "<init>", pU "()V", (1, .class_ 10), (1, u "java/util/AbstractCollection"), pU "size", pU "()I", pM 8 14, pN 15 16, pU "iterator", pU "()Ljava/util/Iterator;", (0, .interfaceMethodref 18 19), pK 20, pN 21 22, pU "java/util/Iterator", pU "hasNext", pU "()Z", (0, .interfaceMethodref 18 24), pN 25 26, pU "next", pU "()Ljava/lang/Object;", (50, .class_ 78), pU "java/util/Collection", (13, .string 93), pU "[]", pK 95, pU "java/lang/StringBuilder", pM 94 3, pM 94 98, pN 99 100, pU "append", pU "(C)Ljava/lang/StringBuilder;", (2, .methodref 94 104), pN 99 105, pU "(Ljava/lang/Object;)Ljava/lang/StringBuilder;", pM 94 107, pN 108 109, pU "toString", pU "()Ljava/lang/String;"] 50

def k11c0 : Code := ⟨1, 1, jdk_22_method_1_code, #[], #[]⟩
def k11m0 : Method := ⟨"<init>", "()V", ⟨[], none⟩, 4, some k11c0⟩
def k11m1 : Method := ⟨"iterator", "()Ljava/util/Iterator;", ⟨[], some (.object "java/util/Iterator")⟩, 1025, none⟩
def k11m2 : Method := ⟨"size", "()I", ⟨[], some .int⟩, 1025, none⟩
def k11c3 : Code := ⟨3, 4, jdk_22_method_16_code, #[], #[]⟩
def k11m3 : Method := ⟨"toString", "()Ljava/lang/String;", ⟨[], some (.object "java/lang/String")⟩, 1, some k11c3⟩
/-- java/util/AbstractCollection -/
def k11 : Class := { plain "java/util/AbstractCollection" (some 0) with
  accessFlags := 1057
  interfaces := #[10]
  cf := some (fileOf pool11 8 #[] #[⟨4, 5, 6, #[]⟩, ⟨1025, 15, 16, #[]⟩, ⟨1025, 11, 12, #[]⟩, ⟨1, 108, 109, #[]⟩] 1057 2 #[77] #[])
  methods := #[k11m0, k11m1, k11m2, k11m3]
  resolved := Array.replicate 160 none }

def pool12 : Array CpInfo := pool [(8, .class_ 10), (1, u "java/util/SequencedCollection"), (15, .class_ 27), pU "java/lang/Object", pK 29, pU "java/util/Collection"] 27

/-- java/util/SequencedCollection -/
def k12 : Class := { plain "java/util/SequencedCollection" (some 0) with
  accessFlags := 1537
  interfaces := #[10]
  cf := some (fileOf pool12 8 #[] #[] 1537 26 #[28] #[])
  resolved := Array.replicate 57 none }

def pool13 : Array CpInfo := pool [(8, .class_ 10), (1, u "java/util/List"), (20, u "(Ljava/lang/Object;)V"), (16, u "<init>"), (26, u "get"), pU "(I)Ljava/lang/Object;", (11, u "of"), (1, .fieldref 91 92), pK 93, pN 94 95, pU "java/util/ImmutableCollections", pU "EMPTY_LIST", pU "Ljava/util/ImmutableCollections$ListN;", pK 97, pU "java/util/ImmutableCollections$List12", pM 96 99, pN 48 31, pM 96 101, pN 48 102, pU "(Ljava/lang/Object;Ljava/lang/Object;)V", pK 104, pU "java/lang/Object", (3, u "([Ljava/lang/Object;)Ljava/util/List;"), (3, .methodref 91 113), pN 114 115, pU "listCopy", pU "(Ljava/util/Collection;)Ljava/util/List;", (3, u "()Ljava/util/List;"), pK 121, pU "java/util/SequencedCollection", (112, u "copyOf")] 16

def k13m0 : Method := ⟨"get", "(I)Ljava/lang/Object;", ⟨[.int], some (.object "java/lang/Object")⟩, 1025, none⟩
def k13c1 : Code := ⟨1, 0, jdk_40_method_36_code, #[], #[]⟩
def k13m1 : Method := ⟨"of", "()Ljava/util/List;", ⟨[], some (.object "java/util/List")⟩, 9, some k13c1⟩
def k13c2 : Code := ⟨5, 2, jdk_40_method_47_code, #[], #[]⟩
def k13m2 : Method := ⟨"of", "([Ljava/lang/Object;)Ljava/util/List;", ⟨[(.array (.object "java/lang/Object"))], some (.object "java/util/List")⟩, 137, some k13c2⟩
def k13c3 : Code := ⟨1, 1, jdk_40_method_48_code, #[], #[]⟩
def k13m3 : Method := ⟨"copyOf", "(Ljava/util/Collection;)Ljava/util/List;", ⟨[(.object "java/util/Collection")], some (.object "java/util/List")⟩, 9, some k13c3⟩
/-- java/util/List -/
def k13 : Class := { plain "java/util/List" (some 0) with
  accessFlags := 1537
  interfaces := #[12]
  cf := some (fileOf pool13 8 #[] #[⟨1025, 75, 76, #[]⟩, ⟨9, 88, 119, #[]⟩, ⟨137, 88, 108, #[]⟩, ⟨9, 234, 115, #[]⟩] 1537 103 #[120] #[])
  methods := #[k13m0, k13m1, k13m2, k13m3]
  resolved := Array.replicate 251 none }

def pool14 : Array CpInfo := pool [(1, .methodref 2 3), pK 4, pN 5 6, pU "java/util/AbstractCollection", pU "<init>", pU "()V", pF 8 9, pK 10, pN 11 12, pU "java/util/AbstractList", pU "modCount", pU "I", (64, .class_ 78), pU "java/util/AbstractList$Itr", (3, .class_ 83), pU "java/util/AbstractList$ListItr", (9, .class_ 94), pU "java/util/AbstractList$RandomAccessSubList", (3, .class_ 99), pU "java/util/AbstractList$SubList", (33, .class_ 134), pU "java/util/List", (73, .class_ 209), pU "java/util/AbstractList$SubList$1", pK 211, pU "java/util/AbstractList$RandomAccessSpliterator"] 6

def k14c0 : Code := ⟨2, 1, jdk_39_method_1_code, #[], #[]⟩
def k14m0 : Method := ⟨"<init>", "()V", ⟨[], none⟩, 4, some k14c0⟩
/-- java/util/AbstractList -/
def k14 : Class := { plain "java/util/AbstractList" (some 11) with
  accessFlags := 1057
  interfaces := #[13]
  cf := some (fileOf pool14 8 #[.nestMembers #[93, 98, 208, 210, 82, 77]] #[⟨4, 5, 6, #[]⟩] 1057 2 #[133] #[⟨132, 11, 12, #[]⟩])
  fields := #[⟨"modCount", .int, 132, 0, 0⟩]
  methods := #[k14m0]
  instanceTypes := #[.int]
  resolved := Array.replicate 218 none }

def pool15 : Array CpInfo := pool [(1, .class_ 2), pU "java/util/RandomAccess", pK 4, pU "java/lang/Object"] 2

/-- java/util/RandomAccess -/
def k15 : Class := { plain "java/util/RandomAccess" (some 0) with
  accessFlags := 1537
  cf := some (fileOf pool15 1 #[] #[] 1537 3 #[] #[])
  resolved := Array.replicate 7 none }

def pool16 : Array CpInfo := pool [(1, .class_ 2), pU "java/lang/Cloneable", pK 4, pU "java/lang/Object"] 2

/-- java/lang/Cloneable -/
def k16 : Class := { plain "java/lang/Cloneable" (some 0) with
  accessFlags := 1537
  cf := some (fileOf pool16 1 #[] #[] 1537 3 #[] #[])
  resolved := Array.replicate 7 none }

def pool17 : Array CpInfo := pool [(1, .methodref 2 3), pK 4, pN 5 6, pU "java/util/AbstractList", pU "<init>", pU "()V", pK 8, pU "java/lang/Object", pF 10 11, pK 12, pN 13 14, pU "java/util/ArrayList", pU "elementData", pU "[Ljava/lang/Object;", (2, u "EMPTY_ELEMENTDATA"), (21, .fieldref 10 40), pN 41 14, pU "DEFAULTCAPACITY_EMPTY_ELEMENTDATA", (4, u "toArray"), pU "()[Ljava/lang/Object;", pF 10 49, pN 50 51, pU "size", pU "I", (6, .class_ 60), (1, u "java/util/Arrays"), pU "copyOf", (1, .fieldref 10 64), pN 65 51, pU "modCount", pM 58 67, pN 61 68, pU "([Ljava/lang/Object;I)[Ljava/lang/Object;", pM 10 70, pN 71 72, pU "grow", pU "(I)[Ljava/lang/Object;", (6, .methodref 80 81), pK 82, pN 83 84, pU "java/lang/Math", pU "max", pU "(II)I", (11, u "(Ljava/lang/Object;)Z"), (32, .methodref 10 130), pN 71 47, pM 10 132, pN 133 134, pU "add", pU "(Ljava/lang/Object;[Ljava/lang/Object;I)V", (13, .class_ 149), pU "java/util/List", (23, u "()Z"), (88, .class_ 263), pU "java/util/ArrayList$ListItr", (3, .class_ 268), pU "java/util/ArrayList$Itr", (7, .class_ 277), pU "java/util/ArrayList$SubList", (12, .class_ 291), pU "java/util/ArrayList$ArrayListSpliterator", (37, .class_ 330), pU "java/util/RandomAccess", pK 332, pU "java/lang/Cloneable", pK 334, pU "java/io/Serializable", pU "serialVersionUID", pU "J", (3, u "DEFAULT_CAPACITY"), (22, u "isEmpty"), (136, .class_ 501), pU "java/util/ArrayList$SubList$2", pK 503, pU "java/util/ArrayList$SubList$1"] 5

def k17c0 : Code := ⟨2, 1, jdk_38_method_2_code, #[], #[]⟩
def k17m0 : Method := ⟨"<init>", "()V", ⟨[], none⟩, 1, some k17c0⟩
def k17c1 : Code := ⟨4, 4, jdk_38_method_6_code, #[], #[]⟩
def k17m1 : Method := ⟨"grow", "(I)[Ljava/lang/Object;", ⟨[.int], some (.array (.object "java/lang/Object"))⟩, 2, some k17c1⟩
def k17c2 : Code := ⟨3, 1, jdk_38_method_7_code, #[], #[]⟩
def k17m2 : Method := ⟨"grow", "()[Ljava/lang/Object;", ⟨[], some (.array (.object "java/lang/Object"))⟩, 2, some k17c2⟩
def k17c3 : Code := ⟨1, 1, jdk_38_method_9_code, #[], #[]⟩
def k17m3 : Method := ⟨"isEmpty", "()Z", ⟨[], some .boolean⟩, 1, some k17c3⟩
def k17c4 : Code := ⟨2, 1, jdk_38_method_16_code, #[], #[]⟩
def k17m4 : Method := ⟨"toArray", "()[Ljava/lang/Object;", ⟨[], some (.array (.object "java/lang/Object"))⟩, 1, some k17c4⟩
def k17c5 : Code := ⟨3, 4, jdk_38_method_24_code, #[], #[]⟩
def k17m5 : Method := ⟨"add", "(Ljava/lang/Object;[Ljava/lang/Object;I)V", ⟨[(.object "java/lang/Object"), (.array (.object "java/lang/Object")), .int], none⟩, 2, some k17c5⟩
def k17c6 : Code := ⟨4, 2, jdk_38_method_25_code, #[], #[]⟩
def k17m6 : Method := ⟨"add", "(Ljava/lang/Object;)Z", ⟨[(.object "java/lang/Object")], some .boolean⟩, 1, some k17c6⟩
/-- java/util/ArrayList -/
def k17 : Class := { plain "java/util/ArrayList" (some 14) with
  interfaces := #[13, 15, 16, 2]
  cf := some (fileOf pool17 10 #[.nestMembers #[290, 276, 500, 502, 262, 267]] #[⟨1, 5, 6, #[]⟩, ⟨2, 71, 72, #[]⟩, ⟨2, 71, 47, #[]⟩, ⟨1, 363, 173, #[]⟩, ⟨1, 46, 47, #[]⟩, ⟨2, 133, 134, #[]⟩, ⟨1, 133, 96, #[]⟩] 33 2 #[148, 329, 331, 333] #[⟨26, 335, 336, #[]⟩, ⟨26, 340, 51, #[]⟩, ⟨26, 17, 14, #[]⟩, ⟨26, 41, 14, #[]⟩, ⟨128, 13, 14, #[]⟩, ⟨2, 50, 51, #[]⟩])
  fields := #[⟨"serialVersionUID", .long, 26, 0, 0⟩, ⟨"DEFAULT_CAPACITY", .int, 26, 1, 0⟩, ⟨"EMPTY_ELEMENTDATA", (.array (.object "java/lang/Object")), 26, 2, 0⟩, ⟨"DEFAULTCAPACITY_EMPTY_ELEMENTDATA", (.array (.object "java/lang/Object")), 26, 3, 0⟩, ⟨"elementData", (.array (.object "java/lang/Object")), 128, 1, 0⟩, ⟨"size", .int, 2, 2, 0⟩]
  methods := #[k17m0, k17m1, k17m2, k17m3, k17m4, k17m5, k17m6]
  instanceTypes := #[.int, (.array (.object "java/lang/Object")), .int]
  staticTypes := #[.long, .int, (.array (.object "java/lang/Object")), (.array (.object "java/lang/Object"))]
  resolved := Array.replicate 509 none
  statics := some 1 }

def pool18 : Array CpInfo := pool [(1, .class_ 2), pU "java/lang/Math", (1, .class_ 6), (1, u "java/lang/Object"), pU "<init>", pU "()V", (89, .class_ 100), (1, u "java/lang/Math$RandomNumberGeneratorHolder"), (71, u "negativeZeroFloatBits"), pU "J", (2, u "negativeZeroDoubleBits"), (21, u "max"), (2, u "min"), (43, u "$assertionsDisabled"), pU "Z", (88, u "(II)I"), (2, u "twoToTheDoubleScaleDown"), pU "D", (4, u "twoToTheDoubleScaleUp"), (9, u "E"), (3, u "PI"), (2, u "TAU"), (2, u "DEGREES_TO_RADIANS"), pU "RADIANS_TO_DEGREES"] 94

def k18m0 : Method := ⟨"<init>", "()V", ⟨[], none⟩, 2, none⟩
def k18c1 : Code := ⟨2, 2, jdk_29_method_65_code, #[], #[]⟩
def k18m1 : Method := ⟨"max", "(II)I", ⟨[.int, .int], some .int⟩, 9, some k18c1⟩
def k18c2 : Code := ⟨2, 2, jdk_29_method_69_code, #[], #[]⟩
def k18m2 : Method := ⟨"min", "(II)I", ⟨[.int, .int], some .int⟩, 9, some k18c2⟩
/-- java/lang/Math -/
def k18 : Class := { plain "java/lang/Math" (some 0) with
  accessFlags := 49
  cf := some (fileOf pool18 1 #[.nestMembers #[98]] #[⟨2, 7, 8, #[]⟩, ⟨9, 198, 335, #[]⟩, ⟨9, 201, 335, #[]⟩] 49 4 #[] #[⟨25, 354, 339, #[]⟩, ⟨25, 358, 339, #[]⟩, ⟨25, 361, 339, #[]⟩, ⟨26, 364, 339, #[]⟩, ⟨26, 365, 339, #[]⟩, ⟨26, 172, 173, #[]⟩, ⟨26, 176, 173, #[]⟩, ⟨8, 344, 339, #[]⟩, ⟨8, 338, 339, #[]⟩, ⟨4120, 245, 246, #[]⟩])
  fields := #[⟨"E", .double, 25, 0, 0⟩, ⟨"PI", .double, 25, 1, 0⟩, ⟨"TAU", .double, 25, 2, 0⟩, ⟨"DEGREES_TO_RADIANS", .double, 26, 3, 0⟩, ⟨"RADIANS_TO_DEGREES", .double, 26, 4, 0⟩, ⟨"negativeZeroFloatBits", .long, 26, 5, 0⟩, ⟨"negativeZeroDoubleBits", .long, 26, 6, 0⟩, ⟨"twoToTheDoubleScaleUp", .double, 8, 7, 0⟩, ⟨"twoToTheDoubleScaleDown", .double, 8, 8, 0⟩, ⟨"$assertionsDisabled", .boolean, 4120, 9, 0⟩]
  methods := #[k18m0, k18m1, k18m2]
  staticTypes := #[.double, .double, .double, .double, .double, .long, .long, .double, .double, .boolean]
  resolved := Array.replicate 460 none }

def pool19 : Array CpInfo := pool [(1, .methodref 2 3), pK 4, pN 5 6, pU "java/lang/Object", pU "<init>", pU "()V", pF 8 9, pK 10, pN 11 12, pU "com/example/innerkey/innerkey/InternalCallDetails", pU "key", pU "Ljava/lang/String;", (0, .interfaceMethodref 14 15), pK 16, pN 17 18, pU "java/util/List", pU "copyOf", pU "(Ljava/util/Collection;)Ljava/util/List;", pF 8 20, pN 21 22, pU "authorities", pU "Ljava/util/List;", pK 24, pU "java/lang/StringBuilder", pM 23 3, (0, .string 27), pU "InternalCallDetails [key=", pM 23 29, pN 30 31, pU "append", pU "(Ljava/lang/String;)Ljava/lang/StringBuilder;", (0, .string 33), pU ", authorities=", pM 23 35, pN 30 36, pU "(Ljava/lang/Object;)Ljava/lang/StringBuilder;", (0, .string 38), pU "]", pM 23 40, pN 41 42, pU "toString", pU "()Ljava/lang/String;", pK 44, pU "java/io/Serializable", pU "serialVersionUID", pU "J", (5, u "(Ljava/lang/String;Ljava/util/List;)V")] 9

def k19c0 : Code := ⟨2, 3, prog_4_method_1_code, #[], #[]⟩
def k19m0 : Method := ⟨"<init>", "(Ljava/lang/String;Ljava/util/List;)V", ⟨[(.object "java/lang/String"), (.object "java/util/List")], none⟩, 0, some k19c0⟩
def k19c1 : Code := ⟨2, 1, prog_4_method_4_code, #[], #[]⟩
def k19m1 : Method := ⟨"toString", "()Ljava/lang/String;", ⟨[], some (.object "java/lang/String")⟩, 1, some k19c1⟩
/-- com/example/innerkey/innerkey/InternalCallDetails -/
def k19 : Class := { plain "com/example/innerkey/innerkey/InternalCallDetails" (some 0) with
  accessFlags := 49
  interfaces := #[2]
  cf := some (fileOf pool19 8 #[] #[⟨0, 5, 52, #[]⟩, ⟨1, 41, 42, #[]⟩] 49 2 #[43] #[⟨26, 45, 46, #[]⟩, ⟨18, 11, 12, #[]⟩, ⟨18, 21, 22, #[]⟩])
  fields := #[⟨"serialVersionUID", .long, 26, 0, 0⟩, ⟨"key", (.object "java/lang/String"), 18, 0, 0⟩, ⟨"authorities", (.object "java/util/List"), 18, 1, 0⟩]
  methods := #[k19m0, k19m1]
  instanceTypes := #[(.object "java/lang/String"), (.object "java/util/List")]
  staticTypes := #[.long]
  resolved := Array.replicate 62 none }

def pool20 : Array CpInfo := pool [(2, .class_ 4), (1, u "java/lang/Object"), pU "<init>", pU "()V", (3, .class_ 11), pU "java/util/ImmutableCollections$List12", pK 13, pU "java/util/ImmutableCollections$ListN", (3, u "Z"), pK 19, pU "java/util/List", (0, .interfaceMethodref 21 22), pK 23, pN 24 25, pU "java/util/Collection", pU "isEmpty", pU "()Z", (0, .interfaceMethodref 18 27), pN 28 29, pU "of", pU "()Ljava/util/List;", (0, .interfaceMethodref 21 31), pN 32 33, pU "toArray", pU "()[Ljava/lang/Object;", (0, .interfaceMethodref 18 35), pN 28 36, pU "([Ljava/lang/Object;)Ljava/util/List;", (10, .class_ 49), (1, u "java/util/ImmutableCollections"), pU "$assertionsDisabled", (5, u "[Ljava/lang/Object;"), (5, u "EMPTY_LIST"), pU "Ljava/util/ImmutableCollections$ListN;", (8, u "EMPTY_LIST_NULLS"), (22, u "SALT32L"), pU "J", (2, u "REVERSE"), (6, u "archivedObjects"), (2, u "EMPTY"), pU "Ljava/lang/Object;", pK 112, pU "java/util/ImmutableCollections$SetN", (5, u "EMPTY_SET"), pU "Ljava/util/ImmutableCollections$SetN;", pK 121, pU "java/util/ImmutableCollections$MapN", (3, u "EMPTY_MAP"), pU "Ljava/util/ImmutableCollections$MapN;", (4, u "EXPAND_FACTOR"), pU "I", (9, u "listCopy"), pU "(Ljava/util/Collection;)Ljava/util/List;", (25, .class_ 170), pU "java/util/ImmutableCollections$MapN$MapNIterator", pK 172, pU "java/util/ImmutableCollections$MapN$1", pK 174, pU "java/util/ImmutableCollections$Map1", pK 176, pU "java/util/ImmutableCollections$AbstractImmutableMap", pK 178, pU "java/util/ImmutableCollections$SetN$SetNIterator", pK 180, pU "java/util/ImmutableCollections$Set12", pK 182, pU "java/util/ImmutableCollections$Set12$1", pK 184, pU "java/util/ImmutableCollections$AbstractImmutableSet", pK 186, pU "java/util/ImmutableCollections$SubList", pK 188, pU "java/util/ImmutableCollections$ListItr", pK 190, pU "java/util/ImmutableCollections$AbstractImmutableList", pK 192, pU "java/util/ImmutableCollections$AbstractImmutableCollection", pK 194, pU "java/util/ImmutableCollections$Access", pK 196, pU "java/util/ImmutableCollections$Access$1"] 16

def k20m0 : Method := ⟨"<init>", "()V", ⟨[], none⟩, 2, none⟩
def k20c1 : Code := ⟨1, 2, jdk_56_method_3_code, #[], #[]⟩
def k20m1 : Method := ⟨"listCopy", "(Ljava/util/Collection;)Ljava/util/List;", ⟨[(.object "java/util/Collection")], some (.object "java/util/List")⟩, 8, some k20c1⟩
/-- java/util/ImmutableCollections -/
def k20 : Class := { plain "java/util/ImmutableCollections" (some 0) with
  accessFlags := 32
  cf := some (fileOf pool20 47 #[.nestMembers #[120, 169, 171, 173, 175, 111, 177, 179, 181, 183, 12, 10, 185, 187, 189, 191, 193, 195]] #[⟨2, 5, 6, #[]⟩, ⟨8, 142, 143, #[]⟩] 32 2 #[] #[⟨26, 95, 96, #[]⟩, ⟨26, 99, 17, #[]⟩, ⟨10, 106, 56, #[]⟩, ⟨26, 109, 110, #[]⟩, ⟨24, 62, 63, #[]⟩, ⟨24, 72, 63, #[]⟩, ⟨24, 118, 119, #[]⟩, ⟨24, 125, 126, #[]⟩, ⟨24, 131, 132, #[]⟩, ⟨4120, 50, 17, #[]⟩])
  fields := #[⟨"SALT32L", .long, 26, 0, 0⟩, ⟨"REVERSE", .boolean, 26, 1, 0⟩, ⟨"archivedObjects", (.array (.object "java/lang/Object")), 10, 2, 0⟩, ⟨"EMPTY", (.object "java/lang/Object"), 26, 3, 0⟩, ⟨"EMPTY_LIST", (.object "java/util/ImmutableCollections$ListN"), 24, 4, 0⟩, ⟨"EMPTY_LIST_NULLS", (.object "java/util/ImmutableCollections$ListN"), 24, 5, 0⟩, ⟨"EMPTY_SET", (.object "java/util/ImmutableCollections$SetN"), 24, 6, 0⟩, ⟨"EMPTY_MAP", (.object "java/util/ImmutableCollections$MapN"), 24, 7, 0⟩, ⟨"EXPAND_FACTOR", .int, 24, 8, 0⟩, ⟨"$assertionsDisabled", .boolean, 4120, 9, 0⟩]
  methods := #[k20m0, k20m1]
  staticTypes := #[.long, .boolean, (.array (.object "java/lang/Object")), (.object "java/lang/Object"), (.object "java/util/ImmutableCollections$ListN"), (.object "java/util/ImmutableCollections$ListN"), (.object "java/util/ImmutableCollections$SetN"), (.object "java/util/ImmutableCollections$MapN"), .int, .boolean]
  resolved := Array.replicate 213 none
  statics := some 2 }

def pool21 : Array CpInfo := pool [(1, .methodref 2 3), pK 4, pN 5 6, pU "java/util/AbstractCollection", pU "<init>", pU "()V", (1, .class_ 10), (1, u "java/util/ImmutableCollections"), (2, .class_ 14), pU "java/util/ImmutableCollections$AbstractImmutableCollection"] 41

def k21c0 : Code := ⟨1, 1, jdk_47_method_1_code, #[], #[]⟩
def k21m0 : Method := ⟨"<init>", "()V", ⟨[], none⟩, 0, some k21c0⟩
/-- java/util/ImmutableCollections$AbstractImmutableCollection -/
def k21 : Class := { plain "java/util/ImmutableCollections$AbstractImmutableCollection" (some 11) with
  accessFlags := 1056
  cf := some (fileOf pool21 13 #[.nestHost 8] #[⟨0, 5, 6, #[]⟩] 1056 2 #[] #[])
  methods := #[k21m0]
  resolved := Array.replicate 56 none }

def pool22 : Array CpInfo := pool [(1, .methodref 2 3), pK 4, pN 5 6, pU "java/util/ImmutableCollections$AbstractImmutableCollection", pU "<init>", pU "()V", (1, .class_ 10), (1, u "java/util/ImmutableCollections"), (2, .methodref 14 15), pK 16, pN 17 18, pU "java/util/ImmutableCollections$AbstractImmutableList", pU "size", pU "()I", (42, .class_ 62), pU "java/util/ImmutableCollections$ListItr", pM 61 64, pN 5 65, pU "(Ljava/util/List;I)V", (11, .class_ 78), pU "java/util/List", (2, u "iterator"), pU "()Ljava/util/Iterator;", (41, .class_ 125), pU "java/util/RandomAccess"] 70

def k22c0 : Code := ⟨1, 1, jdk_46_method_1_code, #[], #[]⟩
def k22m0 : Method := ⟨"<init>", "()V", ⟨[], none⟩, 0, some k22c0⟩
def k22c1 : Code := ⟨4, 1, jdk_46_method_10_code, #[], #[]⟩
def k22m1 : Method := ⟨"iterator", "()Ljava/util/Iterator;", ⟨[], some (.object "java/util/Iterator")⟩, 1, some k22c1⟩
/-- java/util/ImmutableCollections$AbstractImmutableList -/
def k22 : Class := { plain "java/util/ImmutableCollections$AbstractImmutableList" (some 21) with
  accessFlags := 1056
  interfaces := #[13, 15]
  cf := some (fileOf pool22 14 #[.nestHost 8] #[⟨0, 5, 6, #[]⟩, ⟨1, 81, 82, #[]⟩] 1056 2 #[77, 124] #[])
  methods := #[k22m0, k22m1]
  resolved := Array.replicate 196 none }

def pool23 : Array CpInfo := pool [(1, .methodref 2 3), pK 4, pN 5 6, pU "java/util/ImmutableCollections$AbstractImmutableList", pU "<init>", pU "()V", pM 8 9, pK 10, pN 11 12, pU "java/util/Objects", pU "requireNonNull", pU "(Ljava/lang/Object;)Ljava/lang/Object;", pF 14 15, pK 16, pN 17 18, pU "java/util/ImmutableCollections$List12", pU "e0", pU "Ljava/lang/Object;", pF 20 21, pK 22, pN 23 18, pU "java/util/ImmutableCollections", pU "EMPTY", pF 14 25, pN 26 18, pU "e1", (24, u "size"), pU "()I", (17, .class_ 71), pU "java/io/Serializable", (4, u "(Ljava/lang/Object;)V"), (8, u "(Ljava/lang/Object;Ljava/lang/Object;)V"), (4, u "get"), pU "(I)Ljava/lang/Object;"] 33

def k23c0 : Code := ⟨2, 2, jdk_44_method_1_code, #[], #[]⟩
def k23m0 : Method := ⟨"<init>", "(Ljava/lang/Object;)V", ⟨[(.object "java/lang/Object")], none⟩, 0, some k23c0⟩
def k23c1 : Code := ⟨2, 3, jdk_44_method_2_code, #[], #[]⟩
def k23m1 : Method := ⟨"<init>", "(Ljava/lang/Object;Ljava/lang/Object;)V", ⟨[(.object "java/lang/Object"), (.object "java/lang/Object")], none⟩, 0, some k23c1⟩
def k23c2 : Code := ⟨2, 1, jdk_44_method_3_code, #[], #[]⟩
def k23m2 : Method := ⟨"size", "()I", ⟨[], some .int⟩, 1, some k23c2⟩
def k23c3 : Code := ⟨2, 2, jdk_44_method_5_code, #[], #[]⟩
def k23m3 : Method := ⟨"get", "(I)Ljava/lang/Object;", ⟨[.int], some (.object "java/lang/Object")⟩, 1, some k23c3⟩
/-- java/util/ImmutableCollections$List12 -/
def k23 : Class := { plain "java/util/ImmutableCollections$List12" (some 22) with
  accessFlags := 48
  interfaces := #[2]
  cf := some (fileOf pool23 14 #[.nestHost 20] #[⟨0, 5, 76, #[]⟩, ⟨0, 5, 85, #[]⟩, ⟨1, 51, 52, #[]⟩, ⟨1, 90, 91, #[]⟩] 48 2 #[70] #[⟨18, 17, 18, #[]⟩, ⟨18, 26, 18, #[]⟩])
  fields := #[⟨"e0", (.object "java/lang/Object"), 18, 0, 0⟩, ⟨"e1", (.object "java/lang/Object"), 18, 1, 0⟩]
  methods := #[k23m0, k23m1, k23m2, k23m3]
  instanceTypes := #[(.object "java/lang/Object"), (.object "java/lang/Object")]
  resolved := Array.replicate 125 none }

def pool24 : Array CpInfo := pool [(2, .class_ 4), (1, u "java/util/ImmutableCollections$AbstractImmutableList"), (2, .fieldref 8 9), pK 10, pN 11 12, pU "java/util/ImmutableCollections$ListN", pU "elements", pU "[Ljava/lang/Object;", (2, u "allowNulls"), pU "Z", (42, .class_ 60), pU "java/io/Serializable", (16, u "size"), pU "()I", (35, .class_ 115), pU "java/util/ImmutableCollections"] 3

def k24c0 : Code := ⟨1, 1, jdk_45_method_3_code, #[], #[]⟩
def k24m0 : Method := ⟨"size", "()I", ⟨[], some .int⟩, 1, some k24c0⟩
/-- java/util/ImmutableCollections$ListN -/
def k24 : Class := { plain "java/util/ImmutableCollections$ListN" (some 22) with
  accessFlags := 48
  interfaces := #[2]
  cf := some (fileOf pool24 8 #[.nestHost 114] #[⟨1, 77, 78, #[]⟩] 48 2 #[59] #[⟨18, 11, 12, #[]⟩, ⟨18, 15, 16, #[]⟩])
  fields := #[⟨"elements", (.array (.object "java/lang/Object")), 18, 0, 0⟩, ⟨"allowNulls", .boolean, 18, 1, 0⟩]
  methods := #[k24m0]
  instanceTypes := #[(.array (.object "java/lang/Object")), .boolean]
  resolved := Array.replicate 119 none }

def pool25 : Array CpInfo := pool [(2, .class_ 4), (1, u "java/lang/Object"), pU "<init>", pU "()V", (7, .class_ 16), (1, u "java/util/Arrays"), (57, .class_ 76), (1, u "java/util/Arrays$NaturalOrder"), (9, .methodref 2 87), pN 88 89, pU "getClass", pU "()Ljava/lang/Class;", (20, .class_ 111), pU "[Ljava/lang/Object;", (1, .class_ 115), (1, u "java/util/Arrays$LegacyMergeSort"), (1, u "Z"), (21, u "copyOfRange"), (10, .methodref 151 152), pK 153, pN 154 155, pU "java/lang/System", pU "arraycopy", pU "(Ljava/lang/Object;ILjava/lang/Object;II)V", (144, .methodref 14 301), pN 302 303, pU "copyOf", pU "([Ljava/lang/Object;ILjava/lang/Class;)[Ljava/lang/Object;", pM 305 306, pK 307, pN 308 309, pU "java/lang/Math", pU "min", pU "(II)I", (29, .methodref 14 340), pN 341 342, pU "copyOfRangeByte", pU "([BII)[B", pM 14 344, pN 345 346, pU "checkLength", pU "(II)V", (28, .class_ 376), pU "java/util/Arrays$ArrayList", (68, u "$assertionsDisabled"), (269, u "MIN_ARRAY_SORT_GRAN"), pU "I", (2, u "INSERTIONSORT_THRESHOLD"), (140, u "([Ljava/lang/Object;I)[Ljava/lang/Object;"), (8, u "([BI)[B"), (105, .class_ 976), pU "java/util/Arrays$ArrayItr"] 52

def k25m0 : Method := ⟨"<init>", "()V", ⟨[], none⟩, 2, none⟩
def k25c1 : Code := ⟨3, 2, jdk_65_method_119_code, #[], #[]⟩
def k25m1 : Method := ⟨"copyOf", "([Ljava/lang/Object;I)[Ljava/lang/Object;", ⟨[(.array (.object "java/lang/Object")), .int], some (.array (.object "java/lang/Object"))⟩, 9, some k25c1⟩
def k25c2 : Code := ⟨6, 4, jdk_65_method_120_code, #[], #[]⟩
def k25m2 : Method := ⟨"copyOf", "([Ljava/lang/Object;ILjava/lang/Class;)[Ljava/lang/Object;", ⟨[(.array (.object "java/lang/Object")), .int, (.object "java/lang/Class")], some (.array (.object "java/lang/Object"))⟩, 9, some k25c2⟩
def k25c3 : Code := ⟨6, 3, jdk_65_method_121_code, #[], #[]⟩
def k25m3 : Method := ⟨"copyOf", "([BI)[B", ⟨[(.array .byte), .int], some (.array .byte)⟩, 9, some k25c3⟩
def k25c4 : Code := ⟨4, 2, jdk_65_method_131_code, #[], #[]⟩
def k25m4 : Method := ⟨"checkLength", "(II)V", ⟨[.int, .int], none⟩, 10, some k25c4⟩
def k25c5 : Code := ⟨3, 3, jdk_65_method_132_code, #[], #[]⟩
def k25m5 : Method := ⟨"copyOfRange", "([BII)[B", ⟨[(.array .byte), .int, .int], some (.array .byte)⟩, 9, some k25c5⟩
def k25c6 : Code := ⟨6, 5, jdk_65_method_133_code, #[], #[]⟩
def k25m6 : Method := ⟨"copyOfRangeByte", "([BII)[B", ⟨[(.array .byte), .int, .int], some (.array .byte)⟩, 10, some k25c6⟩
/-- java/util/Arrays -/
def k25 : Class := { plain "java/util/Arrays" (some 0) with
  accessFlags := 49
  cf := some (fileOf pool25 14 #[.nestMembers #[975, 375, 113, 74]] #[⟨2, 5, 6, #[]⟩, ⟨9, 302, 860, #[]⟩, ⟨9, 302, 303, #[]⟩, ⟨9, 302, 869, #[]⟩, ⟨10, 345, 346, #[]⟩, ⟨9, 139, 342, #[]⟩, ⟨10, 341, 342, #[]⟩] 49 2 #[] #[⟨26, 715, 716, #[]⟩, ⟨26, 719, 716, #[]⟩, ⟨4120, 445, 117, #[]⟩])
  fields := #[⟨"MIN_ARRAY_SORT_GRAN", .int, 26, 0, 0⟩, ⟨"INSERTIONSORT_THRESHOLD", .int, 26, 1, 0⟩, ⟨"$assertionsDisabled", .boolean, 4120, 2, 0⟩]
  methods := #[k25m0, k25m1, k25m2, k25m3, k25m4, k25m5, k25m6]
  staticTypes := #[.int, .int, .boolean]
  resolved := Array.replicate 1029 none }

def pool26 : Array CpInfo := pool [(2, .class_ 4), (1, u "java/lang/Object"), pU "<init>", pU "()V", (1, .class_ 10), (1, u "java/lang/System"), pU "allowSecurityManager", pU "I", (16, u "cons"), pU "Ljava/io/Console;", (77, .class_ 110), (1, u "java/lang/System$CallersHolder"), (43, u "initialErrStream"), pU "Ljava/io/PrintStream;", (19, u "security"), pU "Ljava/lang/SecurityManager;", (31, .class_ 209), pU "java/lang/System$1", (7, u "props"), pU "Ljava/util/Properties;", (2, u "lineSeparator"), pU "Ljava/lang/String;", (96, .class_ 321), (1, u "java/lang/System$LoggerFinder"), (5, .class_ 328), pU "java/lang/System$Logger", (67, u "err"), (2, u "out"), (91, u "notSupportedJnuEncoding"), (15, u "in"), (17, u "initialIn"), pU "Ljava/io/InputStream;", (35, u "bootLayer"), pU "Ljava/lang/ModuleLayer;", (99, .class_ 664), pU "java/lang/System$2", (9, u "NEVER"), (2, u "MAYBE"), (49, u "arraycopy"), pU "(Ljava/lang/Object;ILjava/lang/Object;II)V", (72, .class_ 802), pU "java/lang/System$Logger$Level"] 31

def k26m0 : Method := ⟨"<init>", "()V", ⟨[], none⟩, 2, none⟩
def k26m1 : Method := ⟨"arraycopy", "(Ljava/lang/Object;ILjava/lang/Object;II)V", ⟨[(.object "java/lang/Object"), .int, (.object "java/lang/Object"), .int, .int], none⟩, 265, none⟩
/-- java/lang/System -/
def k26 : Class := { plain "java/lang/System" (some 0) with
  accessFlags := 49
  cf := some (fileOf pool26 8 #[.nestMembers #[319, 327, 801, 108, 663, 208]] #[⟨2, 5, 6, #[]⟩, ⟨265, 727, 728, #[]⟩] 49 2 #[] #[⟨25, 507, 526, #[]⟩, ⟨25, 399, 155, #[]⟩, ⟨25, 396, 155, #[]⟩, ⟨10, 525, 526, #[]⟩, ⟨26, 674, 12, #[]⟩, ⟨26, 677, 12, #[]⟩, ⟨10, 11, 12, #[]⟩, ⟨74, 175, 176, #[]⟩, ⟨10, 491, 222, #[]⟩, ⟨74, 29, 30, #[]⟩, ⟨74, 154, 155, #[]⟩, ⟨10, 217, 218, #[]⟩, ⟨10, 221, 222, #[]⟩, ⟨8, 562, 563, #[]⟩])
  fields := #[⟨"in", (.object "java/io/InputStream"), 25, 0, 0⟩, ⟨"out", (.object "java/io/PrintStream"), 25, 1, 0⟩, ⟨"err", (.object "java/io/PrintStream"), 25, 2, 0⟩, ⟨"initialIn", (.object "java/io/InputStream"), 10, 3, 0⟩, ⟨"NEVER", .int, 26, 4, 0⟩, ⟨"MAYBE", .int, 26, 5, 0⟩, ⟨"allowSecurityManager", .int, 10, 6, 0⟩, ⟨"security", (.object "java/lang/SecurityManager"), 74, 7, 0⟩, ⟨"notSupportedJnuEncoding", (.object "java/lang/String"), 10, 8, 0⟩, ⟨"cons", (.object "java/io/Console"), 74, 9, 0⟩, ⟨"initialErrStream", (.object "java/io/PrintStream"), 74, 10, 0⟩, ⟨"props", (.object "java/util/Properties"), 10, 11, 0⟩, ⟨"lineSeparator", (.object "java/lang/String"), 10, 12, 0⟩, ⟨"bootLayer", (.object "java/lang/ModuleLayer"), 8, 13, 0⟩]
  methods := #[k26m0, k26m1]
  staticTypes := #[(.object "java/io/InputStream"), (.object "java/io/PrintStream"), (.object "java/io/PrintStream"), (.object "java/io/InputStream"), .int, .int, .int, (.object "java/lang/SecurityManager"), (.object "java/lang/String"), (.object "java/io/Console"), (.object "java/io/PrintStream"), (.object "java/util/Properties"), (.object "java/lang/String"), (.object "java/lang/ModuleLayer")]
  resolved := Array.replicate 834 none }

def pool27 : Array CpInfo := pool [(2, .class_ 4), (1, u "java/lang/Object"), pU "<init>", pU "()V", (35, .class_ 44), (1, u "java/util/Objects"), pU "requireNonNull", pU "(Ljava/lang/Object;)Ljava/lang/Object;"] 137

def k27m0 : Method := ⟨"<init>", "()V", ⟨[], none⟩, 2, none⟩
def k27c1 : Code := ⟨2, 1, jdk_31_method_10_code, #[], #[]⟩
def k27m1 : Method := ⟨"requireNonNull", "(Ljava/lang/Object;)Ljava/lang/Object;", ⟨[(.object "java/lang/Object")], some (.object "java/lang/Object")⟩, 9, some k27c1⟩
/-- java/util/Objects -/
def k27 : Class := { plain "java/util/Objects" (some 0) with
  accessFlags := 49
  cf := some (fileOf pool27 42 #[] #[⟨2, 5, 6, #[]⟩, ⟨9, 45, 46, #[]⟩] 49 2 #[] #[])
  methods := #[k27m0, k27m1]
  resolved := Array.replicate 184 none }

def pool28 : Array CpInfo := pool [(1, .class_ 2), pU "java/lang/Appendable", pK 4, pU "java/lang/Object"] 9

/-- java/lang/Appendable -/
def k28 : Class := { plain "java/lang/Appendable" (some 0) with
  accessFlags := 1537
  cf := some (fileOf pool28 1 #[] #[] 1537 3 #[] #[])
  resolved := Array.replicate 14 none }

def pool29 : Array CpInfo := pool [(1, .class_ 2), pU "java/lang/String", pM 4 5, pK 6, pN 7 8, pU "java/lang/Object", pU "<init>", pU "()V", (1, .class_ 12), (1, u "java/lang/AbstractStringBuilder"), pU "EMPTYVALUE", pU "[B", pF 10 16, pN 17 14, pU "value", pF 1 19, pN 20 21, pU "COMPACT_STRINGS", pU "Z", pF 10 23, pN 24 25, pU "coder", pU "B", (6, .methodref 1 33), pN 34 35, pU "length", pU "()I", (3, .integer 2147483647), pM 1 41, pN 24 42, pU "()B", (2, u "append"), pU "(Ljava/lang/String;)Ljava/lang/AbstractStringBuilder;", (1, .class_ 49), pU "java/lang/CharSequence", (19, u "(Ljava/lang/String;)V"), (5, u "maybeLatin1"), (3, .fieldref 10 80), pN 81 82, pU "count", pU "I", pM 10 84, pN 85 86, pU "isLatin1", pU "()Z", (1, .class_ 90), (1, u "java/lang/StringLatin1"), (9, .methodref 10 101), pN 102 103, pU "ensureCapacityInternal", pU "(I)V", pM 10 105, pN 106 107, pU "newCapacity", pU "(I)I", pM 109 110, pK 111, pN 112 113, pU "java/util/Arrays", pU "copyOf", pU "([BI)[B", pM 115 116, pK 117, pN 118 119, pU "jdk/internal/util/ArraysSupport", pU "newLength", pU "(III)I", (71, .methodref 88 192), pN 193 194, pU "canEncode", pU "(C)Z", (13, .methodref 10 209), pN 210 211, pU "putStringAt", pU "(ILjava/lang/String;)V", (5, u "inflateIfNeededFor"), (2, .nameAndType 221 222), pU "getBytes", pU "([BIB)V", (69, u "(C)Ljava/lang/AbstractStringBuilder;"), (104, .methodref 10 398), pN 217 69, pM 1 220, (3, u "()[B"), (40, .class_ 445), pU "java/lang/Appendable", (106, u "getValue")] 56

def k29m0 : Method := ⟨"<init>", "()V", ⟨[], none⟩, 0, none⟩
def k29c1 : Code := ⟨2, 2, jdk_68_method_2_code, #[], #[]⟩
def k29m1 : Method := ⟨"<init>", "(I)V", ⟨[.int], none⟩, 0, some k29c1⟩
def k29c2 : Code := ⟨1, 1, jdk_68_method_6_code, #[], #[]⟩
def k29m2 : Method := ⟨"length", "()I", ⟨[], some .int⟩, 1, some k29c2⟩
def k29c3 : Code := ⟨4, 3, jdk_68_method_9_code, #[], #[]⟩
def k29m3 : Method := ⟨"ensureCapacityInternal", "(I)V", ⟨[.int], none⟩, 2, some k29c3⟩
def k29c4 : Code := ⟨5, 6, jdk_68_method_10_code, #[], #[]⟩
def k29m4 : Method := ⟨"newCapacity", "(I)I", ⟨[.int], some .int⟩, 2, some k29c4⟩
def k29c5 : Code := ⟨3, 3, jdk_68_method_22_code, #[], #[]⟩
def k29m5 : Method := ⟨"append", "(Ljava/lang/String;)Ljava/lang/AbstractStringBuilder;", ⟨[(.object "java/lang/String")], some (.object "java/lang/AbstractStringBuilder")⟩, 1, some k29c5⟩
def k29c6 : Code := ⟨5, 2, jdk_68_method_31_code, #[], #[]⟩
def k29m6 : Method := ⟨"append", "(C)Ljava/lang/AbstractStringBuilder;", ⟨[.char], some (.object "java/lang/AbstractStringBuilder")⟩, 1, some k29c6⟩
def k29c7 : Code := ⟨1, 1, jdk_68_method_64_code, #[], #[]⟩
def k29m7 : Method := ⟨"getValue", "()[B", ⟨[], some (.array .byte)⟩, 16, some k29c7⟩
def k29c8 : Code := ⟨1, 1, jdk_68_method_68_code, #[], #[]⟩
def k29m8 : Method := ⟨"isLatin1", "()Z", ⟨[], some .boolean⟩, 16, some k29c8⟩
def k29c9 : Code := ⟨2, 2, jdk_68_method_71_code, #[], #[]⟩
def k29m9 : Method := ⟨"inflateIfNeededFor", "(Ljava/lang/String;)V", ⟨[(.object "java/lang/String")], none⟩, 2, some k29c9⟩
def k29c10 : Code := ⟨4, 3, jdk_68_method_73_code, #[], #[]⟩
def k29m10 : Method := ⟨"putStringAt", "(ILjava/lang/String;)V", ⟨[.int, (.object "java/lang/String")], none⟩, 2, some k29c10⟩
/-- java/lang/AbstractStringBuilder -/
def k29 : Class := { plain "java/lang/AbstractStringBuilder" (some 0) with
  accessFlags := 1056
  interfaces := #[28, 4]
  cf := some (fileOf pool29 10 #[] #[⟨0, 7, 8, #[]⟩, ⟨0, 7, 103, #[]⟩, ⟨1, 34, 35, #[]⟩, ⟨2, 102, 103, #[]⟩, ⟨2, 106, 107, #[]⟩, ⟨1, 45, 46, #[]⟩, ⟨1, 45, 292, #[]⟩, ⟨16, 552, 403, #[]⟩, ⟨16, 85, 86, #[]⟩, ⟨2, 217, 69, #[]⟩, ⟨2, 210, 211, #[]⟩] 1056 4 #[444, 48] #[⟨0, 17, 14, #[]⟩, ⟨0, 24, 25, #[]⟩, ⟨0, 75, 21, #[]⟩, ⟨0, 81, 82, #[]⟩, ⟨26, 13, 14, #[]⟩])
  fields := #[⟨"value", (.array .byte), 0, 0, 0⟩, ⟨"coder", .byte, 0, 1, 0⟩, ⟨"maybeLatin1", .boolean, 0, 2, 0⟩, ⟨"count", .int, 0, 3, 0⟩, ⟨"EMPTYVALUE", (.array .byte), 26, 0, 0⟩]
  methods := #[k29m0, k29m1, k29m2, k29m3, k29m4, k29m5, k29m6, k29m7, k29m8, k29m9, k29m10]
  instanceTypes := #[(.array .byte), .byte, .boolean, .int]
  staticTypes := #[(.array .byte)]
  resolved := Array.replicate 609 none }

def pool30 : Array CpInfo := pool [(1, .methodref 2 3), pK 4, pN 5 6, pU "java/lang/AbstractStringBuilder", pU "<init>", pU "(I)V", (10, .methodref 18 19), pK 20, pN 21 22, pU "java/lang/String", pU "valueOf", pU "(Ljava/lang/Object;)Ljava/lang/String;", pM 24 25, pK 26, pN 27 28, pU "java/lang/StringBuilder", pU "append", pU "(Ljava/lang/String;)Ljava/lang/StringBuilder;", pM 2 30, pN 27 31, pU "(Ljava/lang/String;)Ljava/lang/AbstractStringBuilder;", (18, .methodref 2 51), pN 27 52, pU "(C)Ljava/lang/AbstractStringBuilder;", (84, .methodref 18 138), pN 5 139, pU "(Ljava/lang/StringBuilder;)V", (5, u "()V"), (10, u "()I"), (129, u "(C)Ljava/lang/StringBuilder;"), (20, u "(Ljava/lang/Object;)Ljava/lang/StringBuilder;"), (35, .methodref 2 344), pN 345 156, pU "length", (3, .class_ 350), pU "java/lang/Appendable", pK 352, pU "java/io/Serializable", pK 354, pU "java/lang/Comparable", pK 356, pU "java/lang/CharSequence", pU "serialVersionUID", pU "J", (40, u "toString"), pU "()Ljava/lang/String;"] 21

def k30c0 : Code := ⟨2, 1, jdk_67_method_1_code, #[], #[]⟩
def k30m0 : Method := ⟨"<init>", "()V", ⟨[], none⟩, 1, some k30c0⟩
def k30c1 : Code := ⟨2, 2, jdk_67_method_6_code, #[], #[]⟩
def k30m1 : Method := ⟨"append", "(Ljava/lang/Object;)Ljava/lang/StringBuilder;", ⟨[(.object "java/lang/Object")], some (.object "java/lang/StringBuilder")⟩, 1, some k30c1⟩
def k30c2 : Code := ⟨2, 2, jdk_67_method_7_code, #[], #[]⟩
def k30m2 : Method := ⟨"append", "(Ljava/lang/String;)Ljava/lang/StringBuilder;", ⟨[(.object "java/lang/String")], some (.object "java/lang/StringBuilder")⟩, 1, some k30c2⟩
def k30c3 : Code := ⟨2, 2, jdk_67_method_14_code, #[], #[]⟩
def k30m3 : Method := ⟨"append", "(C)Ljava/lang/StringBuilder;", ⟨[.char], some (.object "java/lang/StringBuilder")⟩, 1, some k30c3⟩
def k30c4 : Code := ⟨3, 1, jdk_67_method_42_code, #[], #[]⟩
def k30m4 : Method := ⟨"toString", "()Ljava/lang/String;", ⟨[], some (.object "java/lang/String")⟩, 1, some k30c4⟩
def k30c5 : Code := ⟨1, 1, jdk_67_method_93_code, #[], #[]⟩
def k30m5 : Method := ⟨"length", "()I", ⟨[], some .int⟩, 4161, some k30c5⟩
/-- java/lang/StringBuilder -/
def k30 : Class := { plain "java/lang/StringBuilder" (some 29) with
  accessFlags := 49
  interfaces := #[28, 2, 3, 4]
  cf := some (fileOf pool30 24 #[] #[⟨1, 5, 145, #[]⟩, ⟨1, 27, 307, #[]⟩, ⟨1, 27, 28, #[]⟩, ⟨1, 27, 286, #[]⟩, ⟨1, 399, 400, #[]⟩, ⟨4161, 345, 156, #[]⟩] 49 2 #[349, 351, 353, 355] #[⟨24, 357, 358, #[]⟩])
  fields := #[⟨"serialVersionUID", .long, 24, 0, 0⟩]
  methods := #[k30m0, k30m1, k30m2, k30m3, k30m4, k30m5]
  instanceTypes := #[(.array .byte), .byte, .boolean, .int]
  staticTypes := #[.long]
  resolved := Array.replicate 422 none }

def pool31 : Array CpInfo := pool [(9, u "<init>"), (6, .class_ 18), (1, u "java/lang/Object"), pU "()V", (1, .class_ 23), (1, u "jdk/internal/util/ArraysSupport"), pU "LOG2_ARRAY_LONG_INDEX_SCALE", pU "I", (2, u "U"), pU "Ljdk/internal/misc/Unsafe;", (8, u "BIG_ENDIAN"), pU "Z", (8, u "LOG2_BYTE_BIT_SIZE"), (4, u "LOG2_ARRAY_INT_INDEX_SCALE"), (54, u "JLA"), pU "Ljdk/internal/access/JavaLangAccess;", (11, u "LOG2_ARRAY_BOOLEAN_INDEX_SCALE"), (9, u "LOG2_ARRAY_BYTE_INDEX_SCALE"), (5, u "LOG2_ARRAY_CHAR_INDEX_SCALE"), (5, u "LOG2_ARRAY_SHORT_INDEX_SCALE"), (18, u "LOG2_ARRAY_FLOAT_INDEX_SCALE"), (24, u "LOG2_ARRAY_DOUBLE_INDEX_SCALE"), (6, .methodref 195 196), pK 197, pN 198 199, pU "java/lang/Math", pU "max", pU "(II)I", (0, .integer 2147483639), (76, u "T_BOOLEAN"), (2, u "T_CHAR"), (1, u "T_FLOAT"), (1, u "T_DOUBLE"), (1, u "T_BYTE"), (1, u "T_SHORT"), (1, u "T_INT"), (1, u "T_LONG"), (1, u "SOFT_MAX_ARRAY_LENGTH"), (56, u "newLength"), pU "(III)I"] 25

def k31m0 : Method := ⟨"<init>", "()V", ⟨[], none⟩, 2, none⟩
def k31c1 : Code := ⟨3, 4, jdk_48_method_27_code, #[], #[]⟩
def k31m1 : Method := ⟨"newLength", "(III)I", ⟨[.int, .int, .int], some .int⟩, 9, some k31c1⟩
/-- jdk/internal/util/ArraysSupport -/
def k31 : Class := { plain "jdk/internal/util/ArraysSupport" (some 0) with
  cf := some (fileOf pool31 21 #[] #[⟨2, 9, 19, #[]⟩, ⟨9, 351, 352, #[]⟩] 33 16 #[] #[⟨24, 28, 29, #[]⟩, ⟨26, 38, 39, #[]⟩, ⟨25, 121, 25, #[]⟩, ⟨25, 131, 25, #[]⟩, ⟨25, 137, 25, #[]⟩, ⟨25, 143, 25, #[]⟩, ⟨25, 53, 25, #[]⟩, ⟨25, 24, 25, #[]⟩, ⟨25, 162, 25, #[]⟩, ⟨25, 187, 25, #[]⟩, ⟨26, 48, 25, #[]⟩, ⟨25, 277, 25, #[]⟩, ⟨25, 280, 25, #[]⟩, ⟨25, 282, 25, #[]⟩, ⟨25, 284, 25, #[]⟩, ⟨25, 286, 25, #[]⟩, ⟨25, 288, 25, #[]⟩, ⟨25, 290, 25, #[]⟩, ⟨25, 292, 25, #[]⟩, ⟨26, 108, 109, #[]⟩, ⟨25, 294, 25, #[]⟩])
  fields := #[⟨"U", (.object "jdk/internal/misc/Unsafe"), 24, 0, 0⟩, ⟨"BIG_ENDIAN", .boolean, 26, 1, 0⟩, ⟨"LOG2_ARRAY_BOOLEAN_INDEX_SCALE", .int, 25, 2, 0⟩, ⟨"LOG2_ARRAY_BYTE_INDEX_SCALE", .int, 25, 3, 0⟩, ⟨"LOG2_ARRAY_CHAR_INDEX_SCALE", .int, 25, 4, 0⟩, ⟨"LOG2_ARRAY_SHORT_INDEX_SCALE", .int, 25, 5, 0⟩, ⟨"LOG2_ARRAY_INT_INDEX_SCALE", .int, 25, 6, 0⟩, ⟨"LOG2_ARRAY_LONG_INDEX_SCALE", .int, 25, 7, 0⟩, ⟨"LOG2_ARRAY_FLOAT_INDEX_SCALE", .int, 25, 8, 0⟩, ⟨"LOG2_ARRAY_DOUBLE_INDEX_SCALE", .int, 25, 9, 0⟩, ⟨"LOG2_BYTE_BIT_SIZE", .int, 26, 10, 0⟩, ⟨"T_BOOLEAN", .int, 25, 11, 0⟩, ⟨"T_CHAR", .int, 25, 12, 0⟩, ⟨"T_FLOAT", .int, 25, 13, 0⟩, ⟨"T_DOUBLE", .int, 25, 14, 0⟩, ⟨"T_BYTE", .int, 25, 15, 0⟩, ⟨"T_SHORT", .int, 25, 16, 0⟩, ⟨"T_INT", .int, 25, 17, 0⟩, ⟨"T_LONG", .int, 25, 18, 0⟩, ⟨"JLA", (.object "jdk/internal/access/JavaLangAccess"), 26, 19, 0⟩, ⟨"SOFT_MAX_ARRAY_LENGTH", .int, 25, 20, 0⟩]
  methods := #[k31m0, k31m1]
  staticTypes := #[(.object "jdk/internal/misc/Unsafe"), .boolean, .int, .int, .int, .int, .int, .int, .int, .int, .int, .int, .int, .int, .int, .int, .int, .int, .int, (.object "jdk/internal/access/JavaLangAccess"), .int]
  resolved := Array.replicate 378 none }

def pool32 : Array CpInfo := pool [(16, .class_ 18), (1, u "java/util/Iterator"), pU "hasNext", pU "()Z", (2, u "next"), pU "()Ljava/lang/Object;", (6, .class_ 32), pU "java/lang/Object"] 20

def k32m0 : Method := ⟨"hasNext", "()Z", ⟨[], some .boolean⟩, 1025, none⟩
def k32m1 : Method := ⟨"next", "()Ljava/lang/Object;", ⟨[], some (.object "java/lang/Object")⟩, 1025, none⟩
/-- java/util/Iterator -/
def k32 : Class := { plain "java/util/Iterator" (some 0) with
  accessFlags := 1537
  cf := some (fileOf pool32 16 #[] #[⟨1025, 19, 20, #[]⟩, ⟨1025, 23, 24, #[]⟩] 1537 31 #[] #[])
  methods := #[k32m0, k32m1]
  resolved := Array.replicate 53 none }

def pool33 : Array CpInfo := pool [(1, .class_ 2), pU "java/util/ListIterator", pK 4, pU "java/lang/Object", pK 6, pU "java/util/Iterator"] 20

/-- java/util/ListIterator -/
def k33 : Class := { plain "java/util/ListIterator" (some 0) with
  accessFlags := 1537
  interfaces := #[32]
  cf := some (fileOf pool33 1 #[] #[] 1537 3 #[5] #[])
  resolved := Array.replicate 27 none }

def pool34 : Array CpInfo := pool [(1, .methodref 2 3), pK 4, pN 5 6, pU "java/lang/Object", pU "<init>", pU "()V", pF 8 9, pK 10, pN 11 12, pU "java/util/ImmutableCollections$ListItr", pU "list", pU "Ljava/util/List;", pF 8 14, pN 15 16, pU "size", pU "I", pF 8 18, pN 19 16, pU "cursor", pF 8 21, pN 22 23, pU "isListIterator", pU "Z", (0, .interfaceMethodref 25 26), pK 27, pN 28 29, pU "java/util/List", pU "get", pU "(I)Ljava/lang/Object;", (6, .class_ 38), (1, u "java/util/ImmutableCollections"), (2, .class_ 42), pU "java/util/ListIterator", (4, u "(Ljava/util/List;I)V"), (11, u "hasNext"), pU "()Z", (1, u "next"), pU "()Ljava/lang/Object;"] 22

def k34c0 : Code := ⟨2, 3, jdk_53_method_1_code, #[], #[]⟩
def k34m0 : Method := ⟨"<init>", "(Ljava/util/List;I)V", ⟨[(.object "java/util/List"), .int], none⟩, 0, some k34c0⟩
def k34c1 : Code := ⟨2, 1, jdk_53_method_3_code, #[], #[]⟩
def k34m1 : Method := ⟨"hasNext", "()Z", ⟨[], some .boolean⟩, 1, some k34c1⟩
def k34c2 : Code := { maxStack := 3, maxLocals := 3, code := jdk_53_method_4_code, exceptionTable := #[{ startPc := 0, endPc := 24, handlerPc := 25, catchType := 30 }], attributes := #[] }
def k34m2 : Method := ⟨"next", "()Ljava/lang/Object;", ⟨[], some (.object "java/lang/Object")⟩, 1, some k34c2⟩
/-- java/util/ImmutableCollections$ListItr -/
def k34 : Class := { plain "java/util/ImmutableCollections$ListItr" (some 0) with
  accessFlags := 48
  interfaces := #[33]
  cf := some (fileOf pool34 8 #[.nestHost 36] #[⟨0, 5, 47, #[]⟩, ⟨1, 59, 60, #[]⟩, ⟨1, 62, 63, #[]⟩] 48 2 #[41] #[⟨18, 11, 12, #[]⟩, ⟨18, 15, 16, #[]⟩, ⟨18, 22, 23, #[]⟩, ⟨2, 19, 16, #[]⟩])
  fields := #[⟨"list", (.object "java/util/List"), 18, 0, 0⟩, ⟨"size", .int, 18, 1, 0⟩, ⟨"isListIterator", .boolean, 18, 2, 0⟩, ⟨"cursor", .int, 2, 3, 0⟩]
  methods := #[k34m0, k34m1, k34m2]
  instanceTypes := #[(.object "java/util/List"), .int, .boolean, .int]
  resolved := Array.replicate 86 none }

def pool35 : Array CpInfo := pool [(4, .class_ 6), (1, u "java/lang/Object"), pU "<init>", pU "()V", (5, .class_ 16), (1, u "java/lang/StringLatin1"), (73, u "canEncode"), (14, u "(C)Z"), (15, u "$assertionsDisabled"), pU "Z", (98, .class_ 223), (1, u "java/lang/StringLatin1$LinesSpliterator"), (57, u "equals"), pU "([B[B)Z", (107, .class_ 391), pU "java/lang/StringLatin1$CharsSpliterator"] 3

def k35m0 : Method := ⟨"<init>", "()V", ⟨[], none⟩, 0, none⟩
def k35c1 : Code := ⟨2, 1, jdk_43_method_3_code, #[], #[]⟩
def k35m1 : Method := ⟨"canEncode", "(C)Z", ⟨[.char], some .boolean⟩, 9, some k35c1⟩
def k35c2 : Code := ⟨3, 3, jdk_43_method_13_code, #[], #[]⟩
def k35m2 : Method := ⟨"equals", "([B[B)Z", ⟨[(.array .byte), (.array .byte)], some .boolean⟩, 9, some k35c2⟩
/-- java/lang/StringLatin1 -/
def k35 : Class := { plain "java/lang/StringLatin1" (some 0) with
  accessFlags := 48
  cf := some (fileOf pool35 14 #[.nestMembers #[390, 221]] #[⟨0, 7, 8, #[]⟩, ⟨9, 90, 105, #[]⟩, ⟨9, 281, 282, #[]⟩] 48 4 #[] #[⟨4120, 121, 122, #[]⟩])
  fields := #[⟨"$assertionsDisabled", .boolean, 4120, 0, 0⟩]
  methods := #[k35m0, k35m1, k35m2]
  staticTypes := #[.boolean]
  resolved := Array.replicate 395 none }

def pool36 : Array CpInfo := pool [(2, .class_ 4), (1, u "java/lang/Object"), pU "<init>", pU "()V", (17, .class_ 26), (1, u "jdk/internal/util/Preconditions"), (28, .class_ 56), pU "jdk/internal/util/Preconditions$4", (57, .class_ 115), pU "jdk/internal/util/Preconditions$1", (7, u "SIOOBE_FORMATTER"), pU "Ljava/util/function/BiFunction;", pK 126, pU "jdk/internal/util/Preconditions$2", (3, u "AIOOBE_FORMATTER"), pK 132, pU "jdk/internal/util/Preconditions$3", (3, u "IOOBE_FORMATTER")] 57

def k36m0 : Method := ⟨"<init>", "()V", ⟨[], none⟩, 1, none⟩
/-- jdk/internal/util/Preconditions -/
def k36 : Class := { plain "jdk/internal/util/Preconditions" (some 0) with
  cf := some (fileOf pool36 24 #[.nestMembers #[55, 131, 125, 114]] #[⟨1, 5, 6, #[]⟩] 33 2 #[] #[⟨25, 123, 124, #[]⟩, ⟨25, 130, 124, #[]⟩, ⟨25, 136, 124, #[]⟩])
  fields := #[⟨"SIOOBE_FORMATTER", (.object "java/util/function/BiFunction"), 25, 0, 0⟩, ⟨"AIOOBE_FORMATTER", (.object "java/util/function/BiFunction"), 25, 1, 0⟩, ⟨"IOOBE_FORMATTER", (.object "java/util/function/BiFunction"), 25, 2, 0⟩]
  methods := #[k36m0]
  staticTypes := #[(.object "java/util/function/BiFunction"), (.object "java/util/function/BiFunction"), (.object "java/util/function/BiFunction")]
  resolved := Array.replicate 194 none
  statics := some 3 }

def pool37 : Array CpInfo := pool [(1, u "java/lang/Class"), pK 1, pU "java/lang/Object", pK 3] 0

/-- java/lang/Class -/
def k37 : Class := { plain "java/lang/Class" (some 0) with
  accessFlags := 49
  cf := some (fileOf pool37 2 #[] #[] 49 4 #[] #[])
  resolved := Array.replicate 5 none }

/-- the primitive byte -/
def k38 : Class := { plain "byte" none with kind := .primitive 'B', accessFlags := 0x411 }
/-- [B -/
def k39 : Class := { plain "[B" (some 0) with kind := .array 38 .byte, interfaces := #[16, 2], accessFlags := 1041 }

/-- the primitive char -/
def k40 : Class := { plain "char" none with kind := .primitive 'C', accessFlags := 0x411 }
/-- [C -/
def k41 : Class := { plain "[C" (some 0) with kind := .array 40 .char, interfaces := #[16, 2], accessFlags := 1041 }

/-- the primitive int -/
def k42 : Class := { plain "int" none with kind := .primitive 'I', accessFlags := 0x411 }
/-- [I -/
def k43 : Class := { plain "[I" (some 0) with kind := .array 42 .int, interfaces := #[16, 2], accessFlags := 1041 }

/-- [Ljava/lang/Object; -/
def k44 : Class := { plain "[Ljava/lang/Object;" (some 0) with kind := .array 0 (.object "java/lang/Object"), interfaces := #[16, 2], accessFlags := 1041, mirror := some 4 }

def heap : Heap := #[{ cls := 7, slots := #[.long 0, .int 1, .null, .int 0, .null, .int 0, .int 0], vm := .statics 7 },
  { cls := 17, slots := #[.long 0, .int 0, .ref 7, .ref 8], vm := .statics 17 },
  { cls := 20, slots := #[.long 0, .int 0, .null, .ref 9, .ref 6, .null, .null, .null, .int 0, .int 1], vm := .statics 20 },
  { cls := 36, slots := #[.null, .null, .null], vm := .statics 36 },
  { cls := 37, slots := #[], vm := .mirror 44 },
  { cls := 44, slots := #[], vm := .none },
  { cls := 24, slots := #[.ref 5, .int 0], vm := .none },
  { cls := 44, slots := #[], vm := .none },
  { cls := 44, slots := #[], vm := .none },
  { cls := 0, slots := #[], vm := .none }]
def classes : Array Class := #[k0, k1, k2, k3, k4, k5, k6, k7, k8, k9, k10, k11, k12, k13, k14, k15, k16, k17, k18, k19, k20, k21, k22, k23, k24, k25, k26, k27, k28, k29, k30, k31, k32, k33, k34, k35, k36, k37, k38, k39, k40, k41, k42, k43, k44]
def interned : List (Array UInt16 × Addr) := []
def slotsUsed : Nat := 26
def theMethod : MethodId := ⟨1, 1⟩
def args0 : Array Value := #[.int 16961, .int 17475, .int 17989, .int 2]
def aboutOver (below : List Frame) : State where
  vm := { classes := classes, interned := interned.toArray }
  heap := heap
  slotsUsed := slotsUsed
  threads := #[{ frames := .invoking theMethod args0 :: below }]
def below0 : List Frame := [.native { method := ⟨0, 0⟩, args := #[] }]
def about1 : State := aboutOver below0
def p0 : Program := .bare "" "" ""
def e0 : Env := launch0.env 0 0 0
theorem w_frames : about1.frames = Frame.invoking theMethod args0 :: below0 := rfl
theorem w_args : argsFit about1.vm theMethod args0 = true := by decide +kernel
theorem w_heap : heapFits about1 = true := by decide +kernel
theorem w_runnable : about1.curStatus? = some .runnable := by decide +kernel
theorem w_alone : about1.alone = true := by decide +kernel
theorem w_named : about1.methodNamed? x = some theMethod := by decide +kernel
theorem w_hears : about1.hears theMethod below0 = true := by decide +kernel
theorem w_ripe : about1.ripe theMethod args0 below0 = true := by decide +kernel
theorem w_running : about1.status = .running := rfl
theorem w_room : about1.hasRoom e0.platform room_1 = true :=
  launch0.hasRoom_least _ room_1 (by decide +kernel) (by decide +kernel) (by decide +kernel) (by decide +kernel) (by decide +kernel) (by decide +kernel)
theorem allAtoms_all (ts : List Jvm.Cond) (a : Array Jvm.Value) (st : Jvm.State) : (allAtoms ts).before a st = ts.all (fun c => c.before a st) := by
  induction ts with
  | nil => rfl
  | cons c t ih =>
    show (Jvm.Cond.and c (allAtoms t)).before a st = _
    rw [Jvm.Cond.before_and, ih, List.all_cons]
def words1 : List Jvm.Cond := Jvm.Cond.code x code maxLocals ret :: tables_1
/-- a 'code' word, met by the world's own term for the bytes: nothing is compared byte by byte -/
theorem code_word {y : MethodName} {bytes : ByteArray} {mx : Nat} {rt : Option FieldType} {a : Array Value} {s : State} {m : MethodId} {meth : Method} {c : Code} (h1 : s.methodNamed? y = some m) (h2 : s.vm.method? m = some meth) (h3 : meth.code = some c) (h4 : c.code = bytes)
    (h5 : (c.maxLocals == mx && c.exceptionTable.isEmpty && decide (c.maxStack ≤ mostOperands) && decide (meth.sig.returnType = rt) && !meth.locks && decide (parseMethodDescriptor y.desc = some meth.sig)) = true) : (Jvm.Cond.code y bytes mx rt).before a s = true := by
  simp only [Bool.and_eq_true, beq_iff_eq, Bool.not_eq_true', decide_eq_true_eq] at h5
  obtain ⟨⟨⟨⟨⟨g1, g2⟩, g3⟩, g4⟩, g5⟩, g6⟩ := h5
  simp [Cond.before, Cond.holds, Cond.value, h1, h2, h3, h4, g1, g2, g3, g4, g5, g6]
def isCode : Jvm.Cond → Bool
  | .code _ _ _ _ => true
  | _ => false
theorem all_split {L : List Jvm.Cond} {P : Jvm.Cond → Bool} (h1 : L.all (fun c => isCode c || P c) = true) (h2 : ∀ c ∈ L.filter isCode, P c = true) : L.all P = true := by
  refine List.all_eq_true.mpr fun c hc => ?_
  have h := List.all_eq_true.mp h1 c hc
  rcases Bool.eq_false_or_eq_true (isCode c) with hi | hi
  · exact h2 c (List.mem_filter.mpr ⟨hc, hi⟩)
  · simpa [hi] using h
abbrev cW0 : Jvm.Cond := Jvm.Cond.code x code maxLocals ret
abbrev cW1 : Jvm.Cond := Jvm.Cond.code ⟨"java/lang/String", "<init>", "([C)V"⟩ jdk_42_method_3_code 2 none
abbrev cW2 : Jvm.Cond := Jvm.Cond.code ⟨"java/lang/String", "<init>", "([CIILjava/lang/Void;)V"⟩ jdk_42_method_149_code 6 none
abbrev cW3 : Jvm.Cond := Jvm.Cond.code ⟨"java/lang/Object", "<init>", "()V"⟩ object_method_1_code 1 none
abbrev cW4 : Jvm.Cond := Jvm.Cond.code ⟨"java/lang/StringUTF16", "compress", "([CII)[B"⟩ jdk_52_method_16_code 6 (some (.array .byte))
abbrev cW5 : Jvm.Cond := Jvm.Cond.code ⟨"java/lang/StringUTF16", "compress", "([CI[BII)I"⟩ jdk_52_method_21_code 7 (some .int)
abbrev cW6 : Jvm.Cond := Jvm.Cond.code ⟨"java/lang/StringUTF16", "coderFromArrayLen", "([BI)B"⟩ jdk_52_method_15_code 2 (some .byte)
abbrev cW7 : Jvm.Cond := Jvm.Cond.code ⟨"java/util/ArrayList", "<init>", "()V"⟩ jdk_38_method_2_code 1 none
abbrev cW8 : Jvm.Cond := Jvm.Cond.code ⟨"java/util/AbstractList", "<init>", "()V"⟩ jdk_39_method_1_code 1 none
abbrev cW9 : Jvm.Cond := Jvm.Cond.code ⟨"java/util/AbstractCollection", "<init>", "()V"⟩ jdk_22_method_1_code 1 none
abbrev cW10 : Jvm.Cond := Jvm.Cond.code ⟨"java/util/ArrayList", "add", "(Ljava/lang/Object;)Z"⟩ jdk_38_method_25_code 2 (some .boolean)
abbrev cW11 : Jvm.Cond := Jvm.Cond.code ⟨"java/util/ArrayList", "add", "(Ljava/lang/Object;[Ljava/lang/Object;I)V"⟩ jdk_38_method_24_code 4 none
abbrev cW12 : Jvm.Cond := Jvm.Cond.code ⟨"java/util/ArrayList", "grow", "()[Ljava/lang/Object;"⟩ jdk_38_method_7_code 1 (some (.array (.object "java/lang/Object")))
abbrev cW13 : Jvm.Cond := Jvm.Cond.code ⟨"java/util/ArrayList", "grow", "(I)[Ljava/lang/Object;"⟩ jdk_38_method_6_code 4 (some (.array (.object "java/lang/Object")))
abbrev cW14 : Jvm.Cond := Jvm.Cond.code ⟨"java/lang/Math", "max", "(II)I"⟩ jdk_29_method_65_code 2 (some .int)
abbrev cW15 : Jvm.Cond := Jvm.Cond.code ⟨"com/example/innerkey/innerkey/InternalCallDetailsToStringPinLaw", "expected", "(ICCCCCC)Ljava/lang/String;"⟩ method_3_code 7 (some (.object "java/lang/String"))
abbrev cW16 : Jvm.Cond := Jvm.Cond.code ⟨"com/example/innerkey/innerkey/InternalCallDetails", "<init>", "(Ljava/lang/String;Ljava/util/List;)V"⟩ prog_4_method_1_code 3 none
abbrev cW17 : Jvm.Cond := Jvm.Cond.code ⟨"java/util/List", "copyOf", "(Ljava/util/Collection;)Ljava/util/List;"⟩ jdk_40_method_48_code 1 (some (.object "java/util/List"))
abbrev cW18 : Jvm.Cond := Jvm.Cond.code ⟨"java/util/ImmutableCollections", "listCopy", "(Ljava/util/Collection;)Ljava/util/List;"⟩ jdk_56_method_3_code 2 (some (.object "java/util/List"))
abbrev cW19 : Jvm.Cond := Jvm.Cond.code ⟨"java/util/ArrayList", "isEmpty", "()Z"⟩ jdk_38_method_9_code 1 (some .boolean)
abbrev cW20 : Jvm.Cond := Jvm.Cond.code ⟨"java/util/ArrayList", "toArray", "()[Ljava/lang/Object;"⟩ jdk_38_method_16_code 1 (some (.array (.object "java/lang/Object")))
abbrev cW21 : Jvm.Cond := Jvm.Cond.code ⟨"java/util/Arrays", "copyOf", "([Ljava/lang/Object;I)[Ljava/lang/Object;"⟩ jdk_65_method_119_code 2 (some (.array (.object "java/lang/Object")))
abbrev cW22 : Jvm.Cond := Jvm.Cond.code ⟨"java/util/Arrays", "copyOf", "([Ljava/lang/Object;ILjava/lang/Class;)[Ljava/lang/Object;"⟩ jdk_65_method_120_code 4 (some (.array (.object "java/lang/Object")))
abbrev cW23 : Jvm.Cond := Jvm.Cond.code ⟨"java/lang/Math", "min", "(II)I"⟩ jdk_29_method_69_code 2 (some .int)
abbrev cW24 : Jvm.Cond := Jvm.Cond.code ⟨"java/util/List", "of", "([Ljava/lang/Object;)Ljava/util/List;"⟩ jdk_40_method_47_code 2 (some (.object "java/util/List"))
abbrev cW25 : Jvm.Cond := Jvm.Cond.code ⟨"java/util/ImmutableCollections$List12", "<init>", "(Ljava/lang/Object;)V"⟩ jdk_44_method_1_code 2 none
abbrev cW26 : Jvm.Cond := Jvm.Cond.code ⟨"java/util/ImmutableCollections$AbstractImmutableList", "<init>", "()V"⟩ jdk_46_method_1_code 1 none
abbrev cW27 : Jvm.Cond := Jvm.Cond.code ⟨"java/util/ImmutableCollections$AbstractImmutableCollection", "<init>", "()V"⟩ jdk_47_method_1_code 1 none
abbrev cW28 : Jvm.Cond := Jvm.Cond.code ⟨"java/util/Objects", "requireNonNull", "(Ljava/lang/Object;)Ljava/lang/Object;"⟩ jdk_31_method_10_code 1 (some (.object "java/lang/Object"))
abbrev cW29 : Jvm.Cond := Jvm.Cond.code ⟨"com/example/innerkey/innerkey/InternalCallDetails", "toString", "()Ljava/lang/String;"⟩ prog_4_method_4_code 1 (some (.object "java/lang/String"))
abbrev cW30 : Jvm.Cond := Jvm.Cond.code ⟨"java/lang/StringBuilder", "<init>", "()V"⟩ jdk_67_method_1_code 1 none
abbrev cW31 : Jvm.Cond := Jvm.Cond.code ⟨"java/lang/AbstractStringBuilder", "<init>", "(I)V"⟩ jdk_68_method_2_code 2 none
abbrev cW32 : Jvm.Cond := Jvm.Cond.code ⟨"java/lang/StringBuilder", "append", "(Ljava/lang/String;)Ljava/lang/StringBuilder;"⟩ jdk_67_method_7_code 2 (some (.object "java/lang/StringBuilder"))
abbrev cW33 : Jvm.Cond := Jvm.Cond.code ⟨"java/lang/AbstractStringBuilder", "append", "(Ljava/lang/String;)Ljava/lang/AbstractStringBuilder;"⟩ jdk_68_method_22_code 3 (some (.object "java/lang/AbstractStringBuilder"))
abbrev cW34 : Jvm.Cond := Jvm.Cond.code ⟨"java/lang/String", "length", "()I"⟩ jdk_42_method_54_code 1 (some .int)
abbrev cW35 : Jvm.Cond := Jvm.Cond.code ⟨"java/lang/String", "coder", "()B"⟩ jdk_42_method_152_code 1 (some .byte)
abbrev cW36 : Jvm.Cond := Jvm.Cond.code ⟨"java/lang/AbstractStringBuilder", "ensureCapacityInternal", "(I)V"⟩ jdk_68_method_9_code 3 none
abbrev cW37 : Jvm.Cond := Jvm.Cond.code ⟨"java/lang/AbstractStringBuilder", "newCapacity", "(I)I"⟩ jdk_68_method_10_code 6 (some .int)
abbrev cW38 : Jvm.Cond := Jvm.Cond.code ⟨"jdk/internal/util/ArraysSupport", "newLength", "(III)I"⟩ jdk_48_method_27_code 4 (some .int)
abbrev cW39 : Jvm.Cond := Jvm.Cond.code ⟨"java/util/Arrays", "copyOf", "([BI)[B"⟩ jdk_65_method_121_code 3 (some (.array .byte))
abbrev cW40 : Jvm.Cond := Jvm.Cond.code ⟨"java/lang/AbstractStringBuilder", "putStringAt", "(ILjava/lang/String;)V"⟩ jdk_68_method_73_code 3 none
abbrev cW41 : Jvm.Cond := Jvm.Cond.code ⟨"java/lang/AbstractStringBuilder", "inflateIfNeededFor", "(Ljava/lang/String;)V"⟩ jdk_68_method_71_code 2 none
abbrev cW42 : Jvm.Cond := Jvm.Cond.code ⟨"java/lang/String", "getBytes", "([BIB)V"⟩ jdk_42_method_147_code 4 none
abbrev cW43 : Jvm.Cond := Jvm.Cond.code ⟨"java/lang/StringBuilder", "append", "(Ljava/lang/Object;)Ljava/lang/StringBuilder;"⟩ jdk_67_method_6_code 2 (some (.object "java/lang/StringBuilder"))
abbrev cW44 : Jvm.Cond := Jvm.Cond.code ⟨"java/lang/String", "valueOf", "(Ljava/lang/Object;)Ljava/lang/String;"⟩ jdk_42_method_133_code 1 (some (.object "java/lang/String"))
abbrev cW45 : Jvm.Cond := Jvm.Cond.code ⟨"java/util/AbstractCollection", "toString", "()Ljava/lang/String;"⟩ jdk_22_method_16_code 4 (some (.object "java/lang/String"))
abbrev cW46 : Jvm.Cond := Jvm.Cond.code ⟨"java/util/ImmutableCollections$AbstractImmutableList", "iterator", "()Ljava/util/Iterator;"⟩ jdk_46_method_10_code 1 (some (.object "java/util/Iterator"))
abbrev cW47 : Jvm.Cond := Jvm.Cond.code ⟨"java/util/ImmutableCollections$List12", "size", "()I"⟩ jdk_44_method_3_code 1 (some .int)
abbrev cW48 : Jvm.Cond := Jvm.Cond.code ⟨"java/util/ImmutableCollections$ListItr", "<init>", "(Ljava/util/List;I)V"⟩ jdk_53_method_1_code 3 none
abbrev cW49 : Jvm.Cond := Jvm.Cond.code ⟨"java/util/ImmutableCollections$ListItr", "hasNext", "()Z"⟩ jdk_53_method_3_code 1 (some .boolean)
abbrev cW50 : Jvm.Cond := Jvm.Cond.code ⟨"java/lang/StringBuilder", "append", "(C)Ljava/lang/StringBuilder;"⟩ jdk_67_method_14_code 2 (some (.object "java/lang/StringBuilder"))
abbrev cW51 : Jvm.Cond := Jvm.Cond.code ⟨"java/lang/AbstractStringBuilder", "append", "(C)Ljava/lang/AbstractStringBuilder;"⟩ jdk_68_method_31_code 2 (some (.object "java/lang/AbstractStringBuilder"))
abbrev cW52 : Jvm.Cond := Jvm.Cond.code ⟨"java/lang/AbstractStringBuilder", "isLatin1", "()Z"⟩ jdk_68_method_68_code 1 (some .boolean)
abbrev cW53 : Jvm.Cond := Jvm.Cond.code ⟨"java/lang/StringLatin1", "canEncode", "(C)Z"⟩ jdk_43_method_3_code 1 (some .boolean)
abbrev cW54 : Jvm.Cond := Jvm.Cond.code ⟨"java/util/ImmutableCollections$List12", "get", "(I)Ljava/lang/Object;"⟩ jdk_44_method_5_code 2 (some (.object "java/lang/Object"))
abbrev cW55 : Jvm.Cond := Jvm.Cond.code ⟨"java/lang/String", "toString", "()Ljava/lang/String;"⟩ jdk_42_method_126_code 1 (some (.object "java/lang/String"))
abbrev cW56 : Jvm.Cond := Jvm.Cond.code ⟨"java/lang/StringBuilder", "toString", "()Ljava/lang/String;"⟩ jdk_67_method_42_code 1 (some (.object "java/lang/String"))
abbrev cW57 : Jvm.Cond := Jvm.Cond.code ⟨"java/lang/String", "<init>", "(Ljava/lang/StringBuilder;)V"⟩ jdk_42_method_53_code 2 none
abbrev cW58 : Jvm.Cond := Jvm.Cond.code ⟨"java/lang/String", "<init>", "(Ljava/lang/AbstractStringBuilder;Ljava/lang/Void;)V"⟩ jdk_42_method_150_code 5 none
abbrev cW59 : Jvm.Cond := Jvm.Cond.code ⟨"java/lang/AbstractStringBuilder", "getValue", "()[B"⟩ jdk_68_method_64_code 1 (some (.array .byte))
abbrev cW60 : Jvm.Cond := Jvm.Cond.code ⟨"java/lang/StringBuilder", "length", "()I"⟩ jdk_67_method_93_code 1 (some .int)
abbrev cW61 : Jvm.Cond := Jvm.Cond.code ⟨"java/lang/AbstractStringBuilder", "length", "()I"⟩ jdk_68_method_6_code 1 (some .int)
abbrev cW62 : Jvm.Cond := Jvm.Cond.code ⟨"java/util/Arrays", "copyOfRange", "([BII)[B"⟩ jdk_65_method_132_code 3 (some (.array .byte))
abbrev cW63 : Jvm.Cond := Jvm.Cond.code ⟨"java/util/Arrays", "copyOfRangeByte", "([BII)[B"⟩ jdk_65_method_133_code 5 (some (.array .byte))
abbrev cW64 : Jvm.Cond := Jvm.Cond.code ⟨"java/util/Arrays", "checkLength", "(II)V"⟩ jdk_65_method_131_code 2 none
abbrev cW65 : Jvm.Cond := Jvm.Cond.code ⟨"java/lang/String", "equals", "(Ljava/lang/Object;)Z"⟩ jdk_42_method_66_code 3 (some .boolean)
abbrev cW66 : Jvm.Cond := Jvm.Cond.code ⟨"java/lang/StringLatin1", "equals", "([B[B)Z"⟩ jdk_43_method_13_code 3 (some .boolean)
abbrev cW67 : Jvm.Cond := Jvm.Cond.code ⟨"java/util/ImmutableCollections$List12", "<init>", "(Ljava/lang/Object;Ljava/lang/Object;)V"⟩ jdk_44_method_2_code 3 none
abbrev cW68 : Jvm.Cond := Jvm.Cond.code ⟨"java/util/List", "of", "()Ljava/util/List;"⟩ jdk_40_method_36_code 0 (some (.object "java/util/List"))
abbrev cW69 : Jvm.Cond := Jvm.Cond.code ⟨"java/util/ImmutableCollections$ListN", "size", "()I"⟩ jdk_45_method_3_code 1 (some .int)
theorem w_c0 : cW0.before args0 about1 = true := code_word (m := ⟨1, 1⟩) (meth := k1m1) (c := k1c1) (by decide +kernel) rfl rfl rfl (by decide +kernel)
theorem w_c1 : cW1.before args0 about1 = true := code_word (m := ⟨7, 1⟩) (meth := k7m1) (c := k7c1) (by decide +kernel) rfl rfl rfl (by decide +kernel)
theorem w_c2 : cW2.before args0 about1 = true := code_word (m := ⟨7, 8⟩) (meth := k7m8) (c := k7c8) (by decide +kernel) rfl rfl rfl (by decide +kernel)
theorem w_c3 : cW3.before args0 about1 = true := code_word (m := ⟨0, 0⟩) (meth := k0m0) (c := k0c0) (by decide +kernel) rfl rfl rfl (by decide +kernel)
theorem w_c4 : cW4.before args0 about1 = true := code_word (m := ⟨8, 2⟩) (meth := k8m2) (c := k8c2) (by decide +kernel) rfl rfl rfl (by decide +kernel)
theorem w_c5 : cW5.before args0 about1 = true := code_word (m := ⟨8, 3⟩) (meth := k8m3) (c := k8c3) (by decide +kernel) rfl rfl rfl (by decide +kernel)
theorem w_c6 : cW6.before args0 about1 = true := code_word (m := ⟨8, 1⟩) (meth := k8m1) (c := k8c1) (by decide +kernel) rfl rfl rfl (by decide +kernel)
theorem w_c7 : cW7.before args0 about1 = true := code_word (m := ⟨17, 0⟩) (meth := k17m0) (c := k17c0) (by decide +kernel) rfl rfl rfl (by decide +kernel)
theorem w_c8 : cW8.before args0 about1 = true := code_word (m := ⟨14, 0⟩) (meth := k14m0) (c := k14c0) (by decide +kernel) rfl rfl rfl (by decide +kernel)
theorem w_c9 : cW9.before args0 about1 = true := code_word (m := ⟨11, 0⟩) (meth := k11m0) (c := k11c0) (by decide +kernel) rfl rfl rfl (by decide +kernel)
theorem w_c10 : cW10.before args0 about1 = true := code_word (m := ⟨17, 6⟩) (meth := k17m6) (c := k17c6) (by decide +kernel) rfl rfl rfl (by decide +kernel)
theorem w_c11 : cW11.before args0 about1 = true := code_word (m := ⟨17, 5⟩) (meth := k17m5) (c := k17c5) (by decide +kernel) rfl rfl rfl (by decide +kernel)
theorem w_c12 : cW12.before args0 about1 = true := code_word (m := ⟨17, 2⟩) (meth := k17m2) (c := k17c2) (by decide +kernel) rfl rfl rfl (by decide +kernel)
theorem w_c13 : cW13.before args0 about1 = true := code_word (m := ⟨17, 1⟩) (meth := k17m1) (c := k17c1) (by decide +kernel) rfl rfl rfl (by decide +kernel)
theorem w_c14 : cW14.before args0 about1 = true := code_word (m := ⟨18, 1⟩) (meth := k18m1) (c := k18c1) (by decide +kernel) rfl rfl rfl (by decide +kernel)
theorem w_c15 : cW15.before args0 about1 = true := code_word (m := ⟨1, 2⟩) (meth := k1m2) (c := k1c2) (by decide +kernel) rfl rfl rfl (by decide +kernel)
theorem w_c16 : cW16.before args0 about1 = true := code_word (m := ⟨19, 0⟩) (meth := k19m0) (c := k19c0) (by decide +kernel) rfl rfl rfl (by decide +kernel)
theorem w_c17 : cW17.before args0 about1 = true := code_word (m := ⟨13, 3⟩) (meth := k13m3) (c := k13c3) (by decide +kernel) rfl rfl rfl (by decide +kernel)
theorem w_c18 : cW18.before args0 about1 = true := code_word (m := ⟨20, 1⟩) (meth := k20m1) (c := k20c1) (by decide +kernel) rfl rfl rfl (by decide +kernel)
theorem w_c19 : cW19.before args0 about1 = true := code_word (m := ⟨17, 3⟩) (meth := k17m3) (c := k17c3) (by decide +kernel) rfl rfl rfl (by decide +kernel)
theorem w_c20 : cW20.before args0 about1 = true := code_word (m := ⟨17, 4⟩) (meth := k17m4) (c := k17c4) (by decide +kernel) rfl rfl rfl (by decide +kernel)
theorem w_c21 : cW21.before args0 about1 = true := code_word (m := ⟨25, 1⟩) (meth := k25m1) (c := k25c1) (by decide +kernel) rfl rfl rfl (by decide +kernel)
theorem w_c22 : cW22.before args0 about1 = true := code_word (m := ⟨25, 2⟩) (meth := k25m2) (c := k25c2) (by decide +kernel) rfl rfl rfl (by decide +kernel)
theorem w_c23 : cW23.before args0 about1 = true := code_word (m := ⟨18, 2⟩) (meth := k18m2) (c := k18c2) (by decide +kernel) rfl rfl rfl (by decide +kernel)
theorem w_c24 : cW24.before args0 about1 = true := code_word (m := ⟨13, 2⟩) (meth := k13m2) (c := k13c2) (by decide +kernel) rfl rfl rfl (by decide +kernel)
theorem w_c25 : cW25.before args0 about1 = true := code_word (m := ⟨23, 0⟩) (meth := k23m0) (c := k23c0) (by decide +kernel) rfl rfl rfl (by decide +kernel)
theorem w_c26 : cW26.before args0 about1 = true := code_word (m := ⟨22, 0⟩) (meth := k22m0) (c := k22c0) (by decide +kernel) rfl rfl rfl (by decide +kernel)
theorem w_c27 : cW27.before args0 about1 = true := code_word (m := ⟨21, 0⟩) (meth := k21m0) (c := k21c0) (by decide +kernel) rfl rfl rfl (by decide +kernel)
theorem w_c28 : cW28.before args0 about1 = true := code_word (m := ⟨27, 1⟩) (meth := k27m1) (c := k27c1) (by decide +kernel) rfl rfl rfl (by decide +kernel)
theorem w_c29 : cW29.before args0 about1 = true := code_word (m := ⟨19, 1⟩) (meth := k19m1) (c := k19c1) (by decide +kernel) rfl rfl rfl (by decide +kernel)
theorem w_c30 : cW30.before args0 about1 = true := code_word (m := ⟨30, 0⟩) (meth := k30m0) (c := k30c0) (by decide +kernel) rfl rfl rfl (by decide +kernel)
theorem w_c31 : cW31.before args0 about1 = true := code_word (m := ⟨29, 1⟩) (meth := k29m1) (c := k29c1) (by decide +kernel) rfl rfl rfl (by decide +kernel)
theorem w_c32 : cW32.before args0 about1 = true := code_word (m := ⟨30, 2⟩) (meth := k30m2) (c := k30c2) (by decide +kernel) rfl rfl rfl (by decide +kernel)
theorem w_c33 : cW33.before args0 about1 = true := code_word (m := ⟨29, 5⟩) (meth := k29m5) (c := k29c5) (by decide +kernel) rfl rfl rfl (by decide +kernel)
theorem w_c34 : cW34.before args0 about1 = true := code_word (m := ⟨7, 3⟩) (meth := k7m3) (c := k7c3) (by decide +kernel) rfl rfl rfl (by decide +kernel)
theorem w_c35 : cW35.before args0 about1 = true := code_word (m := ⟨7, 10⟩) (meth := k7m10) (c := k7c10) (by decide +kernel) rfl rfl rfl (by decide +kernel)
theorem w_c36 : cW36.before args0 about1 = true := code_word (m := ⟨29, 3⟩) (meth := k29m3) (c := k29c3) (by decide +kernel) rfl rfl rfl (by decide +kernel)
theorem w_c37 : cW37.before args0 about1 = true := code_word (m := ⟨29, 4⟩) (meth := k29m4) (c := k29c4) (by decide +kernel) rfl rfl rfl (by decide +kernel)
theorem w_c38 : cW38.before args0 about1 = true := code_word (m := ⟨31, 1⟩) (meth := k31m1) (c := k31c1) (by decide +kernel) rfl rfl rfl (by decide +kernel)
theorem w_c39 : cW39.before args0 about1 = true := code_word (m := ⟨25, 3⟩) (meth := k25m3) (c := k25c3) (by decide +kernel) rfl rfl rfl (by decide +kernel)
theorem w_c40 : cW40.before args0 about1 = true := code_word (m := ⟨29, 10⟩) (meth := k29m10) (c := k29c10) (by decide +kernel) rfl rfl rfl (by decide +kernel)
theorem w_c41 : cW41.before args0 about1 = true := code_word (m := ⟨29, 9⟩) (meth := k29m9) (c := k29c9) (by decide +kernel) rfl rfl rfl (by decide +kernel)
theorem w_c42 : cW42.before args0 about1 = true := code_word (m := ⟨7, 7⟩) (meth := k7m7) (c := k7c7) (by decide +kernel) rfl rfl rfl (by decide +kernel)
theorem w_c43 : cW43.before args0 about1 = true := code_word (m := ⟨30, 1⟩) (meth := k30m1) (c := k30c1) (by decide +kernel) rfl rfl rfl (by decide +kernel)
theorem w_c44 : cW44.before args0 about1 = true := code_word (m := ⟨7, 6⟩) (meth := k7m6) (c := k7c6) (by decide +kernel) rfl rfl rfl (by decide +kernel)
theorem w_c45 : cW45.before args0 about1 = true := code_word (m := ⟨11, 3⟩) (meth := k11m3) (c := k11c3) (by decide +kernel) rfl rfl rfl (by decide +kernel)
theorem w_c46 : cW46.before args0 about1 = true := code_word (m := ⟨22, 1⟩) (meth := k22m1) (c := k22c1) (by decide +kernel) rfl rfl rfl (by decide +kernel)
theorem w_c47 : cW47.before args0 about1 = true := code_word (m := ⟨23, 2⟩) (meth := k23m2) (c := k23c2) (by decide +kernel) rfl rfl rfl (by decide +kernel)
theorem w_c48 : cW48.before args0 about1 = true := code_word (m := ⟨34, 0⟩) (meth := k34m0) (c := k34c0) (by decide +kernel) rfl rfl rfl (by decide +kernel)
theorem w_c49 : cW49.before args0 about1 = true := code_word (m := ⟨34, 1⟩) (meth := k34m1) (c := k34c1) (by decide +kernel) rfl rfl rfl (by decide +kernel)
theorem w_c50 : cW50.before args0 about1 = true := code_word (m := ⟨30, 3⟩) (meth := k30m3) (c := k30c3) (by decide +kernel) rfl rfl rfl (by decide +kernel)
theorem w_c51 : cW51.before args0 about1 = true := code_word (m := ⟨29, 6⟩) (meth := k29m6) (c := k29c6) (by decide +kernel) rfl rfl rfl (by decide +kernel)
theorem w_c52 : cW52.before args0 about1 = true := code_word (m := ⟨29, 8⟩) (meth := k29m8) (c := k29c8) (by decide +kernel) rfl rfl rfl (by decide +kernel)
theorem w_c53 : cW53.before args0 about1 = true := code_word (m := ⟨35, 1⟩) (meth := k35m1) (c := k35c1) (by decide +kernel) rfl rfl rfl (by decide +kernel)
theorem w_c54 : cW54.before args0 about1 = true := code_word (m := ⟨23, 3⟩) (meth := k23m3) (c := k23c3) (by decide +kernel) rfl rfl rfl (by decide +kernel)
theorem w_c55 : cW55.before args0 about1 = true := code_word (m := ⟨7, 5⟩) (meth := k7m5) (c := k7c5) (by decide +kernel) rfl rfl rfl (by decide +kernel)
theorem w_c56 : cW56.before args0 about1 = true := code_word (m := ⟨30, 4⟩) (meth := k30m4) (c := k30c4) (by decide +kernel) rfl rfl rfl (by decide +kernel)
theorem w_c57 : cW57.before args0 about1 = true := code_word (m := ⟨7, 2⟩) (meth := k7m2) (c := k7c2) (by decide +kernel) rfl rfl rfl (by decide +kernel)
theorem w_c58 : cW58.before args0 about1 = true := code_word (m := ⟨7, 9⟩) (meth := k7m9) (c := k7c9) (by decide +kernel) rfl rfl rfl (by decide +kernel)
theorem w_c59 : cW59.before args0 about1 = true := code_word (m := ⟨29, 7⟩) (meth := k29m7) (c := k29c7) (by decide +kernel) rfl rfl rfl (by decide +kernel)
theorem w_c60 : cW60.before args0 about1 = true := code_word (m := ⟨30, 5⟩) (meth := k30m5) (c := k30c5) (by decide +kernel) rfl rfl rfl (by decide +kernel)
theorem w_c61 : cW61.before args0 about1 = true := code_word (m := ⟨29, 2⟩) (meth := k29m2) (c := k29c2) (by decide +kernel) rfl rfl rfl (by decide +kernel)
theorem w_c62 : cW62.before args0 about1 = true := code_word (m := ⟨25, 5⟩) (meth := k25m5) (c := k25c5) (by decide +kernel) rfl rfl rfl (by decide +kernel)
theorem w_c63 : cW63.before args0 about1 = true := code_word (m := ⟨25, 6⟩) (meth := k25m6) (c := k25c6) (by decide +kernel) rfl rfl rfl (by decide +kernel)
theorem w_c64 : cW64.before args0 about1 = true := code_word (m := ⟨25, 4⟩) (meth := k25m4) (c := k25c4) (by decide +kernel) rfl rfl rfl (by decide +kernel)
theorem w_c65 : cW65.before args0 about1 = true := code_word (m := ⟨7, 4⟩) (meth := k7m4) (c := k7c4) (by decide +kernel) rfl rfl rfl (by decide +kernel)
theorem w_c66 : cW66.before args0 about1 = true := code_word (m := ⟨35, 2⟩) (meth := k35m2) (c := k35c2) (by decide +kernel) rfl rfl rfl (by decide +kernel)
theorem w_c67 : cW67.before args0 about1 = true := code_word (m := ⟨23, 1⟩) (meth := k23m1) (c := k23c1) (by decide +kernel) rfl rfl rfl (by decide +kernel)
theorem w_c68 : cW68.before args0 about1 = true := code_word (m := ⟨13, 1⟩) (meth := k13m1) (c := k13c1) (by decide +kernel) rfl rfl rfl (by decide +kernel)
theorem w_c69 : cW69.before args0 about1 = true := code_word (m := ⟨24, 0⟩) (meth := k24m0) (c := k24c0) (by decide +kernel) rfl rfl rfl (by decide +kernel)
def codes1 : List Jvm.Cond := [cW0, cW1, cW2, cW3, cW4, cW5, cW6, cW7, cW8, cW9, cW10, cW11, cW12, cW13, cW14, cW15, cW16, cW17, cW18, cW19, cW20, cW21, cW22, cW23, cW24, cW25, cW26, cW27, cW28, cW29, cW30, cW31, cW32, cW33, cW34, cW35, cW36, cW37, cW38, cW39, cW40, cW41, cW42, cW43, cW44, cW45, cW46, cW47, cW48, cW49, cW50, cW51, cW52, cW53, cW54, cW55, cW56, cW57, cW58, cW59, cW60, cW61, cW62, cW63, cW64, cW65, cW66, cW67, cW68, cW69]
theorem codes_eq : words1.filter isCode = codes1 := rfl
theorem w_codes : ∀ c ∈ words1.filter isCode, c.before args0 about1 = true := by
  rw [codes_eq]
  intro c hc
  simp only [codes1, List.mem_cons, List.not_mem_nil, or_false] at hc
  rcases hc with rfl | rfl | rfl | rfl | rfl | rfl | rfl | rfl | rfl | rfl | rfl | rfl | rfl | rfl | rfl | rfl | rfl | rfl | rfl | rfl | rfl | rfl | rfl | rfl | rfl | rfl | rfl | rfl | rfl | rfl | rfl | rfl | rfl | rfl | rfl | rfl | rfl | rfl | rfl | rfl | rfl | rfl | rfl | rfl | rfl | rfl | rfl | rfl | rfl | rfl | rfl | rfl | rfl | rfl | rfl | rfl | rfl | rfl | rfl | rfl | rfl | rfl | rfl | rfl | rfl | rfl | rfl | rfl | rfl | rfl
  · exact w_c0
  · exact w_c1
  · exact w_c2
  · exact w_c3
  · exact w_c4
  · exact w_c5
  · exact w_c6
  · exact w_c7
  · exact w_c8
  · exact w_c9
  · exact w_c10
  · exact w_c11
  · exact w_c12
  · exact w_c13
  · exact w_c14
  · exact w_c15
  · exact w_c16
  · exact w_c17
  · exact w_c18
  · exact w_c19
  · exact w_c20
  · exact w_c21
  · exact w_c22
  · exact w_c23
  · exact w_c24
  · exact w_c25
  · exact w_c26
  · exact w_c27
  · exact w_c28
  · exact w_c29
  · exact w_c30
  · exact w_c31
  · exact w_c32
  · exact w_c33
  · exact w_c34
  · exact w_c35
  · exact w_c36
  · exact w_c37
  · exact w_c38
  · exact w_c39
  · exact w_c40
  · exact w_c41
  · exact w_c42
  · exact w_c43
  · exact w_c44
  · exact w_c45
  · exact w_c46
  · exact w_c47
  · exact w_c48
  · exact w_c49
  · exact w_c50
  · exact w_c51
  · exact w_c52
  · exact w_c53
  · exact w_c54
  · exact w_c55
  · exact w_c56
  · exact w_c57
  · exact w_c58
  · exact w_c59
  · exact w_c60
  · exact w_c61
  · exact w_c62
  · exact w_c63
  · exact w_c64
  · exact w_c65
  · exact w_c66
  · exact w_c67
  · exact w_c68
  · exact w_c69
theorem w_t1 : (words1.take 24).all (fun c => isCode c || c.before args0 about1) = true := by decide +kernel
theorem w_t2 : ((words1.drop 24).take 24).all (fun c => isCode c || c.before args0 about1) = true := by decide +kernel
theorem w_t3 : (((words1.drop 24).drop 24).take 24).all (fun c => isCode c || c.before args0 about1) = true := by decide +kernel
theorem w_t4 : ((((words1.drop 24).drop 24).drop 24).take 24).all (fun c => isCode c || c.before args0 about1) = true := by decide +kernel
theorem w_t5 : (((((words1.drop 24).drop 24).drop 24).drop 24).take 24).all (fun c => isCode c || c.before args0 about1) = true := by decide +kernel
theorem w_t6 : ((((((words1.drop 24).drop 24).drop 24).drop 24).drop 24).take 24).all (fun c => isCode c || c.before args0 about1) = true := by decide +kernel
theorem w_t7 : (((((((words1.drop 24).drop 24).drop 24).drop 24).drop 24).drop 24).take 24).all (fun c => isCode c || c.before args0 about1) = true := by decide +kernel
theorem w_t8 : ((((((((words1.drop 24).drop 24).drop 24).drop 24).drop 24).drop 24).drop 24).take 24).all (fun c => isCode c || c.before args0 about1) = true := by decide +kernel
theorem w_t9 : (((((((((words1.drop 24).drop 24).drop 24).drop 24).drop 24).drop 24).drop 24).drop 24).take 24).all (fun c => isCode c || c.before args0 about1) = true := by decide +kernel
theorem w_t10 : ((((((((((words1.drop 24).drop 24).drop 24).drop 24).drop 24).drop 24).drop 24).drop 24).drop 24).take 24).all (fun c => isCode c || c.before args0 about1) = true := by decide +kernel
theorem w_t11 : (((((((((((words1.drop 24).drop 24).drop 24).drop 24).drop 24).drop 24).drop 24).drop 24).drop 24).drop 24).take 24).all (fun c => isCode c || c.before args0 about1) = true := by decide +kernel
theorem w_t12 : ((((((((((((words1.drop 24).drop 24).drop 24).drop 24).drop 24).drop 24).drop 24).drop 24).drop 24).drop 24).drop 24).take 24).all (fun c => isCode c || c.before args0 about1) = true := by decide +kernel
theorem w_t13 : (((((((((((((words1.drop 24).drop 24).drop 24).drop 24).drop 24).drop 24).drop 24).drop 24).drop 24).drop 24).drop 24).drop 24).take 24).all (fun c => isCode c || c.before args0 about1) = true := by decide +kernel
theorem w_t14 : ((((((((((((((words1.drop 24).drop 24).drop 24).drop 24).drop 24).drop 24).drop 24).drop 24).drop 24).drop 24).drop 24).drop 24).drop 24).take 24).all (fun c => isCode c || c.before args0 about1) = true := by decide +kernel
theorem w_t15 : (((((((((((((((words1.drop 24).drop 24).drop 24).drop 24).drop 24).drop 24).drop 24).drop 24).drop 24).drop 24).drop 24).drop 24).drop 24).drop 24).take 24).all (fun c => isCode c || c.before args0 about1) = true := by decide +kernel
theorem w_t16 : ((((((((((((((((words1.drop 24).drop 24).drop 24).drop 24).drop 24).drop 24).drop 24).drop 24).drop 24).drop 24).drop 24).drop 24).drop 24).drop 24).drop 24).take 24).all (fun c => isCode c || c.before args0 about1) = true := by decide +kernel
theorem w_t17 : (((((((((((((((((words1.drop 24).drop 24).drop 24).drop 24).drop 24).drop 24).drop 24).drop 24).drop 24).drop 24).drop 24).drop 24).drop 24).drop 24).drop 24).drop 24).take 24).all (fun c => isCode c || c.before args0 about1) = true := by decide +kernel
theorem w_t18 : (((((((((((((((((words1.drop 24).drop 24).drop 24).drop 24).drop 24).drop 24).drop 24).drop 24).drop 24).drop 24).drop 24).drop 24).drop 24).drop 24).drop 24).drop 24).drop 24).all (fun c => isCode c || c.before args0 about1) = true := by decide +kernel
theorem w_tables : (allAtoms (Jvm.Cond.code x code maxLocals ret :: tables_1)).before args0 about1 = true := by
  rw [allAtoms_all]
  show words1.all (fun c => c.before args0 about1) = true
  refine all_split ?_ w_codes
  rw [← List.take_append_drop 24 words1, List.all_append, w_t1, ← List.take_append_drop 24 (words1.drop 24), List.all_append, w_t2, ← List.take_append_drop 24 ((words1.drop 24).drop 24), List.all_append, w_t3, ← List.take_append_drop 24 (((words1.drop 24).drop 24).drop 24), List.all_append, w_t4, ← List.take_append_drop 24 ((((words1.drop 24).drop 24).drop 24).drop 24), List.all_append, w_t5, ← List.take_append_drop 24 (((((words1.drop 24).drop 24).drop 24).drop 24).drop 24), List.all_append, w_t6, ← List.take_append_drop 24 ((((((words1.drop 24).drop 24).drop 24).drop 24).drop 24).drop 24), List.all_append, w_t7, ← List.take_append_drop 24 (((((((words1.drop 24).drop 24).drop 24).drop 24).drop 24).drop 24).drop 24), List.all_append, w_t8, ← List.take_append_drop 24 ((((((((words1.drop 24).drop 24).drop 24).drop 24).drop 24).drop 24).drop 24).drop 24), List.all_append, w_t9, ← List.take_append_drop 24 (((((((((words1.drop 24).drop 24).drop 24).drop 24).drop 24).drop 24).drop 24).drop 24).drop 24), List.all_append, w_t10, ← List.take_append_drop 24 ((((((((((words1.drop 24).drop 24).drop 24).drop 24).drop 24).drop 24).drop 24).drop 24).drop 24).drop 24), List.all_append, w_t11, ← List.take_append_drop 24 (((((((((((words1.drop 24).drop 24).drop 24).drop 24).drop 24).drop 24).drop 24).drop 24).drop 24).drop 24).drop 24), List.all_append, w_t12, ← List.take_append_drop 24 ((((((((((((words1.drop 24).drop 24).drop 24).drop 24).drop 24).drop 24).drop 24).drop 24).drop 24).drop 24).drop 24).drop 24), List.all_append, w_t13, ← List.take_append_drop 24 (((((((((((((words1.drop 24).drop 24).drop 24).drop 24).drop 24).drop 24).drop 24).drop 24).drop 24).drop 24).drop 24).drop 24).drop 24), List.all_append, w_t14, ← List.take_append_drop 24 ((((((((((((((words1.drop 24).drop 24).drop 24).drop 24).drop 24).drop 24).drop 24).drop 24).drop 24).drop 24).drop 24).drop 24).drop 24).drop 24), List.all_append, w_t15, ← List.take_append_drop 24 (((((((((((((((words1.drop 24).drop 24).drop 24).drop 24).drop 24).drop 24).drop 24).drop 24).drop 24).drop 24).drop 24).drop 24).drop 24).drop 24).drop 24), List.all_append, w_t16, ← List.take_append_drop 24 ((((((((((((((((words1.drop 24).drop 24).drop 24).drop 24).drop 24).drop 24).drop 24).drop 24).drop 24).drop 24).drop 24).drop 24).drop 24).drop 24).drop 24).drop 24), List.all_append, w_t17, w_t18]
  rfl
theorem w_rest : rest_1_c.before args0 about1 = true := by decide +kernel
theorem w_case : (Jvm.Cond.and given_1 narrow_1).before args0 about1 = true := by decide +kernel
theorem w_consts : constsHeld consts_1 about1 := Jvm.Lit.constsHeldB_iff.mp (by decide +kernel)
theorem w_applies : (headSpec (Jvm.Cond.code x code maxLocals ret :: tables_1) room_1).applies x e0.platform about1 = true :=
  (Spec.applies_iff w_frames).mpr ⟨w_running, w_runnable, w_alone, w_named, w_hears, w_ripe, w_room, w_tables⟩
theorem atStart : AtStart classFile x code maxLocals ret World_1 tables_1 room_1 Calls_1 rest_1 Pre_1 launch0 p0 e0 about1 theMethod args0 below0 :=
  ⟨lists_1, trivial, launch0.admits_env _ _ _, launch0.least_env, fairChoices_fair.cas, fairChoices_fair.clock, w_frames, w_args, w_heap, w_applies, ⟨⟨44, k44, 4, by decide +kernel, rfl, rfl, _, rfl, rfl⟩, ⟨w_consts, trivial⟩⟩, w_rest, w_case⟩
end start1
theorem witness_1 : WitnessClaimed_1 := ⟨start1.p0, start1.e0, start1.about1, start1.theMethod, start1.args0, start1.below0, start1.atStart⟩
end Jvm.Pilot.@@N@@
