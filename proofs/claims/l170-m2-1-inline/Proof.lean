import JvmDerived
import JvmDerived.Pilot.@@N@@Statement
import JvmDerived.Pilot.@@N@@Code
set_option linter.unusedVariables false
set_option linter.unusedSimpArgs false
/- laws to paste: Road.backV (cut by pick.py; bodies as the Statement names them) -/
namespace Jvm.Pilot.@@N@@
namespace StrChars
open Jvm Sem ClassFile Op Lib Jvm.Stand Jvm.Free.XT Jvm.Free.ALB Jvm.Free.JM Jvm.Free
open Jvm.Lib.Cold (StaticIs)
/-- a char array whose places are chars -/
def Ch (a : Addr) (A : Cell) (U : State) : Prop := Arr .char a A U ∧ Typed .char A
theorem Ch.mv {a : Addr} {A : Cell} {U U' : State} (h : Ch a A U) (hal : U.vm.Alike U'.vm) (hh : U'.heap = U.heap) : Ch a A U' := ⟨h.1.mv hal hh, h.2⟩
theorem Ch.keep {a : Addr} {A : Cell} {U U' : State} (h : Ch a A U) (hal : U.vm.Alike U'.vm) (hk : U'.heap[a]? = some A) : Ch a A U' := ⟨h.1.keep hal hk, h.2⟩
/-- what place i of a char[]'s cell holds -/
def cv (A : Cell) (i : Nat) : Int32 := match A.slots[i]? with | some (.int x) => x | _ => 0
theorem Ch.get {a : Addr} {A : Cell} {U : State} (h : Ch a A U) {i : Nat} (hi : i < A.slots.size) : A.slots[i]? = some (.int (cv A i)) := by
  have e := Array.getElem?_eq_getElem hi
  have f := h.2 i _ e
  unfold cv; rw [e]
  generalize A.slots[i] = v at f
  cases v <;> simp [fits] at f ⊢
/-- the byte that i2b leaves of a char -/
def lo8 (x : Int32) : Int32 := x.toInt8.toInt32
theorem fits_lo8 (y : Int32) : fits .byte (.int (lo8 y)) = true := by
  have h1 := y.toInt8.le_toInt
  have h2 := y.toInt8.toInt_lt
  simp only [lo8, fits, Bool.and_eq_true, decide_eq_true_eq, Int32.le_iff_toInt_le, Int8.toInt_toInt32, show (-128 : Int32).toInt = -128 from by decide, show (127 : Int32).toInt = 127 from by decide]
  omega
/-- A' is A but that each place j of lo .. hi - 1 holds f j -/
def Laid (A A' : Cell) (lo hi : Nat) (f : Nat → Value) : Prop := A'.cls = A.cls ∧ A'.vm = A.vm ∧ A'.slots.size = A.slots.size ∧ ∀ i, A'.slots[i]? = if lo ≤ i ∧ i < hi then some (f i) else A.slots[i]?
theorem Laid.zero (A : Cell) (lo : Nat) (f : Nat → Value) : Laid A A lo (lo + 0) f := ⟨rfl, rfl, rfl, fun i => by rw [if_neg (by omega)]⟩
theorem Laid.step {A Ak : Cell} {lo k : Nat} {f : Nat → Value} {v : Value} (h : Laid A Ak lo k f) (hlo : lo ≤ k) (hk : k < Ak.slots.size) (hv : v = f k) : Laid A (Ak.setSlot k v) lo (k + 1) f := by
  refine ⟨h.1, h.2.1, by simpa [Cell.setSlot] using h.2.2.1, fun i => ?_⟩
  by_cases e : k = i
  · subst e; rw [Cell.slots_setSlot_self v hk, if_pos (by omega), hv]
  · rw [Cell.slots_setSlot_ne v e, h.2.2.2 i]
    by_cases q : lo ≤ i ∧ i < k
    · rw [if_pos q, if_pos (by omega)]
    · rw [if_neg q, if_neg (by omega)]
def U16 : String := "java/lang/StringUTF16"
namespace Cmp5
def yN : MethodName := ⟨"java/lang/StringUTF16", "compress", "([CI[BII)I"⟩
abbrev yB : ByteArray := jdk_52_method_21_code
theorem d0 : decode yB 0 = .ok (.iconst 0, 1) := by decide +kernel
theorem d1 : decode yB 1 = .ok (.istore 5, 2) := by decide +kernel
theorem d3 : decode yB 3 = .ok (.iload 5, 2) := by decide +kernel
theorem d5 : decode yB 5 = .ok (.iload 4, 2) := by decide +kernel
theorem d7 : decode yB 7 = .ok (.if_icmp (.ge) 37, 3) := by decide +kernel
theorem d10 : decode yB 10 = .ok (.aload_n 0, 1) := by decide +kernel
theorem d11 : decode yB 11 = .ok (.iload_n 1, 1) := by decide +kernel
theorem d12 : decode yB 12 = .ok (.caload, 1) := by decide +kernel
theorem d13 : decode yB 13 = .ok (.istore 6, 2) := by decide +kernel
theorem d15 : decode yB 15 = .ok (.iload 6, 2) := by decide +kernel
theorem d17 : decode yB 17 = .ok (.sipush 255, 3) := by decide +kernel
theorem d20 : decode yB 20 = .ok (.if_icmp (.le) 6, 3) := by decide +kernel
theorem d26 : decode yB 26 = .ok (.aload_n 2, 1) := by decide +kernel
theorem d27 : decode yB 27 = .ok (.iload_n 3, 1) := by decide +kernel
theorem d28 : decode yB 28 = .ok (.iload 6, 2) := by decide +kernel
theorem d30 : decode yB 30 = .ok (.i2b, 1) := by decide +kernel
theorem d31 : decode yB 31 = .ok (.bastore, 1) := by decide +kernel
theorem d32 : decode yB 32 = .ok (.iinc 1 1, 3) := by decide +kernel
theorem d35 : decode yB 35 = .ok (.iinc 3 1, 3) := by decide +kernel
theorem d38 : decode yB 38 = .ok (.iinc 5 1, 3) := by decide +kernel
theorem d41 : decode yB 41 = .ok (.goto (-38), 3) := by decide +kernel
theorem d44 : decode yB 44 = .ok (.iload 4, 2) := by decide +kernel
theorem d46 : decode yB 46 = .ok (.ireturn, 1) := by decide +kernel
def site : List Cond := []
def tab : Cond := tabOf yN yB 7 (some .int) site
def P (b : Addr) (A : Cell) (d : Addr) (B : Cell) (o q len : Nat) (args : Array Value) (s : State) : Prop := args = #[.ref b, .int (Int32.ofNat o), .ref d, .int (Int32.ofNat q), .int (Int32.ofNat len)] ∧ Ch b A s ∧ Arr .byte d B s ∧ b ≠ d ∧ o + len ≤ A.slots.size ∧ q + len ≤ B.slots.size ∧ ∀ i, i < len → ¬ 255 < cv A (o + i)
def E (b : Addr) (A : Cell) (d : Addr) (B : Cell) (o q len : Nat) (r : Option Value) (s u : State) : Prop := r = some (.int (Int32.ofNat len)) ∧ ∃ B', Put d B' s u ∧ Laid B B' q (q + len) (fun j => Value.int (lo8 (cv A (o + (j - q)))))
/-- no char of the range above 255: len; the places written hold each char's low byte -/
theorem law (l : Launch) (b : Addr) (A : Cell) (d : Addr) (B : Cell) (o q len : Nat) : Law l yN 5 5 0 0 yB 7 (some .int) site (P b A d B o q len) (E b A d B o q len) (copyLocs d q len) 0 0 := by
  refine Law.of_walk (plainFor_of_name (by decide +kernel)) (by decide +kernel) (by decide +kernel) (by decide) (fun _ _ h => by rw [h.1]; rfl) (fun _ U U' hal hh h => ⟨h.1, h.2.1.mv hal hh, h.2.2.1.mv hal hh, h.2.2.2⟩) (fun r U U' V V' h1 hal h2 h => ⟨h.1, h.2.elim fun B' q => ⟨B', q.1.mv h1 h2, q.2⟩⟩) ?_
  intro p e s m args below meth c s₁ X0 hexec hbytes hml hret hlk hnm hown hh0 W hP
  obtain ⟨rfl, hA, hB, hne, l1, l2, hp⟩ := hP
  have c1 : Steps p.tables e below (s₁.setTop (entryFrame m #[.ref b, .int (Int32.ofNat o), .ref d, .int (Int32.ofNat q), .int (Int32.ofNat len)] 7)) (s₁.setTop (mkF m 0 #[.val (.ref b), .val (.int (Int32.ofNat o)), .val (.ref d), .val (.int (Int32.ofNat q)), .val (.int (Int32.ofNat len)), .unset, .unset] [])) := entry rfl
  have hA0 := hA.1.mv X0.warmed.alike hh0
  have hB0 := hB.mv X0.warmed.alike hh0
  have a31 := hA.1.2.2.2
  have c2 : Steps p.tables e below (s₁.setTop (entryFrame m #[.ref b, .int (Int32.ofNat o), .ref d, .int (Int32.ofNat q), .int (Int32.ofNat len)] 7)) (s₁.setTop (mkF m 3 #[.val (.ref b), .val (.int (Int32.ofNat o)), .val (.ref d), .val (.int (Int32.ofNat q)), .val (.int (Int32.ofNat len)), .val (.int 0), .unset] [])) := c1.trans (by
    refine iconstV X0.here hexec rfl 0 (hb hbytes d0) (by decide) ?_
    refine XS.istore X0.here hexec rfl (hb hbytes d1) rfl rfl ?_
    exact Steps.refl _)
  have loop : ∀ (r i : Nat), i + r = len → ∀ (z : Slot), (z = .unset ∨ ∃ w, z = .val w ∧ w.category = 1) → ∀ (Tl : State) (Bk : Cell), Stand p l e { frames := 0, locals := 0, cells := 0, slots := 0 } s m #[.ref b, .int (Int32.ofNat o), .ref d, .int (Int32.ofNat q), .int (Int32.ofNat len)] below meth c Tl ([] ++ copyLocs d q i) 0 0 → Put d Bk s₁ Tl → Laid B Bk q (q + i) (fun j => Value.int (lo8 (cv A (o + (j - q))))) →
      Steps p.tables e below (s₁.setTop (entryFrame m #[.ref b, .int (Int32.ofNat o), .ref d, .int (Int32.ofNat q), .int (Int32.ofNat len)] 7)) (Tl.setTop (mkF m 3 #[.val (.ref b), .val (.int (Int32.ofNat (o + i))), .val (.ref d), .val (.int (Int32.ofNat (q + i))), .val (.int (Int32.ofNat len)), .val (.int (Int32.ofNat i)), z] [])) → ∃ (T' : State) (B' : Cell) (z' : Slot), Stand p l e { frames := 0, locals := 0, cells := 0, slots := 0 } s m #[.ref b, .int (Int32.ofNat o), .ref d, .int (Int32.ofNat q), .int (Int32.ofNat len)] below meth c T' ([] ++ copyLocs d q len) 0 0 ∧ Put d B' s₁ T' ∧ Laid B B' q (q + len) (fun j => Value.int (lo8 (cv A (o + (j - q))))) ∧
      Steps p.tables e below (s₁.setTop (entryFrame m #[.ref b, .int (Int32.ofNat o), .ref d, .int (Int32.ofNat q), .int (Int32.ofNat len)] 7)) (T'.setTop (mkF m 3 #[.val (.ref b), .val (.int (Int32.ofNat (o + len))), .val (.ref d), .val (.int (Int32.ofNat (q + len))), .val (.int (Int32.ofNat len)), .val (.int (Int32.ofNat len)), z'] [])) := by
    intro r
    induction r with
    | zero =>
      intro i hi z hz Tl Bk Xl pl fl cl
      have hil : i = len := by omega
      rw [hil] at Xl fl cl
      exact ⟨Tl, Bk, z, Xl, pl, fl, cl⟩
    | succ r ih =>
      intro i hi z hz Tl Bk Xl pl fl cl
      have all := X0.warmed.alike.symm.trans Xl.warmed.alike
      have hAl := hA0.keep all (pl.other hne hA0.1)
      have hBk := hB0.like all pl.1 fl.1 fl.2.1 fl.2.2.1
      have hlt : q + i < Bk.slots.size := by rw [fl.2.2.1]; omega
      have c3 : Steps p.tables e below (s₁.setTop (entryFrame m #[.ref b, .int (Int32.ofNat o), .ref d, .int (Int32.ofNat q), .int (Int32.ofNat len)] 7)) (Tl.setTop (mkF m 12 #[.val (.ref b), .val (.int (Int32.ofNat (o + i))), .val (.ref d), .val (.int (Int32.ofNat (q + i))), .val (.int (Int32.ofNat len)), .val (.int (Int32.ofNat i)), z] [.int (Int32.ofNat (o + i)), .ref b])) := cl.trans (by
        refine XS.iload Xl.here hexec rfl (hb hbytes d3) rfl ?_
        refine XS.iload Xl.here hexec rfl (hb hbytes d5) rfl ?_
        refine XS.icmpNo Xl.here hexec rfl (hb hbytes d7) rfl (ii_ge_f (lt32 (by omega) (by omega))) ?_
        refine XS.aloadN Xl.here hexec rfl (hb hbytes d10) rfl rfl ?_
        refine XS.iloadN Xl.here hexec rfl (hb hbytes d11) rfl ?_
        exact Steps.refl _)
      have c4 : Steps p.tables e below (s₁.setTop (entryFrame m #[.ref b, .int (Int32.ofNat o), .ref d, .int (Int32.ofNat q), .int (Int32.ofNat len)] 7)) (Tl.setTop (mkF m 13 #[.val (.ref b), .val (.int (Int32.ofNat (o + i))), .val (.ref d), .val (.int (Int32.ofNat (q + i))), .val (.int (Int32.ofNat len)), .val (.int (Int32.ofNat i)), z] [.int (cv A (o + i))])) := c3.trans (by
        refine Xl.aget hexec hAl rfl (hA.get (i := o + i) (by omega)) rfl rfl (hb hbytes d12) ?_
        exact Steps.refl _)
      have c5 : Steps p.tables e below (s₁.setTop (entryFrame m #[.ref b, .int (Int32.ofNat o), .ref d, .int (Int32.ofNat q), .int (Int32.ofNat len)] 7)) (Tl.setTop (mkF m 15 #[.val (.ref b), .val (.int (Int32.ofNat (o + i))), .val (.ref d), .val (.int (Int32.ofNat (q + i))), .val (.int (Int32.ofNat len)), .val (.int (Int32.ofNat i)), .val (.int (cv A (o + i)))] [])) := c4.trans (by
        refine XS.istoreS Xl.here hexec rfl (hb hbytes d13) rfl rfl hz ?_
        exact Steps.refl _)
      have c6 : Steps p.tables e below (s₁.setTop (entryFrame m #[.ref b, .int (Int32.ofNat o), .ref d, .int (Int32.ofNat q), .int (Int32.ofNat len)] 7)) (Tl.setTop (mkF m 31 #[.val (.ref b), .val (.int (Int32.ofNat (o + i))), .val (.ref d), .val (.int (Int32.ofNat (q + i))), .val (.int (Int32.ofNat len)), .val (.int (Int32.ofNat i)), .val (.int (cv A (o + i)))] [.int (lo8 (cv A (o + i))), .int (Int32.ofNat (q + i)), .ref d])) := c5.trans (by
        refine XS.iload Xl.here hexec rfl (hb hbytes d15) rfl ?_
        refine sipushV Xl.here hexec rfl 255 (hb hbytes d17) (by decide) ?_
        refine XS.icmpYes Xl.here hexec rfl (pc0 := 20) rfl (hb hbytes d20) rfl (ii_le_t (hp i (by omega))) (by decide) rfl ?_
        refine XS.aloadN Xl.here hexec rfl (hb hbytes d26) rfl rfl ?_
        refine XS.iloadN Xl.here hexec rfl (hb hbytes d27) rfl ?_
        refine XS.iload Xl.here hexec rfl (hb hbytes d28) rfl ?_
        refine i2b Xl.here hexec rfl (hb hbytes d30) rfl ?_
        exact Steps.refl _)
      obtain ⟨T7, X7, p7, st7⟩ := Xl.aput hexec hBk rfl hlt rfl (fits_lo8 (cv A (o + i))) (g := (mkF m 31 #[.val (.ref b), .val (.int (Int32.ofNat (o + i))), .val (.ref d), .val (.int (Int32.ofNat (q + i))), .val (.int (Int32.ofNat len)), .val (.int (Int32.ofNat i)), .val (.int (cv A (o + i)))] [.int (lo8 (cv A (o + i))), .int (Int32.ofNat (q + i)), .ref d])) rfl (rest := []) rfl (hb hbytes d31)
      have c8 : Steps p.tables e below (s₁.setTop (entryFrame m #[.ref b, .int (Int32.ofNat o), .ref d, .int (Int32.ofNat q), .int (Int32.ofNat len)] 7)) (T7.setTop (mkF m 32 #[.val (.ref b), .val (.int (Int32.ofNat (o + i))), .val (.ref d), .val (.int (Int32.ofNat (q + i))), .val (.int (Int32.ofNat len)), .val (.int (Int32.ofNat i)), .val (.int (cv A (o + i)))] [])) := c6.trans (st7 _ (Steps.refl _))
      have c9 : Steps p.tables e below (s₁.setTop (entryFrame m #[.ref b, .int (Int32.ofNat o), .ref d, .int (Int32.ofNat q), .int (Int32.ofNat len)] 7)) (T7.setTop (mkF m 3 #[.val (.ref b), .val (.int (Int32.ofNat (o + i) + 1)), .val (.ref d), .val (.int (Int32.ofNat (q + i) + 1)), .val (.int (Int32.ofNat len)), .val (.int (Int32.ofNat i + 1)), .val (.int (cv A (o + i)))] [])) := c8.trans (by
        refine iincV X7.here hexec rfl 1 (hb hbytes d32) (by decide) rfl rfl ?_
        refine iincV X7.here hexec rfl 1 (hb hbytes d35) (by decide) rfl rfl ?_
        refine iincV X7.here hexec rfl 1 (hb hbytes d38) (by decide) rfl rfl ?_
        refine XS.goto X7.here hexec rfl (pc0 := 41) rfl (hb hbytes d41) (by decide) rfl ?_
        exact Steps.refl _)
      have c10 : Steps p.tables e below (s₁.setTop (entryFrame m #[.ref b, .int (Int32.ofNat o), .ref d, .int (Int32.ofNat q), .int (Int32.ofNat len)] 7)) (T7.setTop (mkF m 3 #[.val (.ref b), .val (.int (Int32.ofNat (o + (i + 1)))), .val (.ref d), .val (.int (Int32.ofNat (q + (i + 1)))), .val (.int (Int32.ofNat len)), .val (.int (Int32.ofNat (i + 1))), .val (.int (cv A (o + i)))] [])) := by
        have := c9
        rw [succ32, succ32, succ32] at this
        exact this
      exact ih (i + 1) (by omega) _ (Or.inr ⟨_, rfl, rfl⟩) T7 _ (by rw [copyLocs_step, ← List.append_assoc]; exact X7) (pl.trans p7) (fl.step (by omega) hlt (by simp)) c10
  obtain ⟨T9, B9, z9, X9, p9, f9, g9⟩ := loop len 0 (by omega) .unset (Or.inl rfl) s₁ B (by simpa [copyLocs] using X0) ⟨hB0.1, fun _ _ => rfl, rfl⟩ (Laid.zero _ _ _) c2
  have c11 : Steps p.tables e below (s₁.setTop (entryFrame m #[.ref b, .int (Int32.ofNat o), .ref d, .int (Int32.ofNat q), .int (Int32.ofNat len)] 7)) (T9.setTop (mkF m 46 #[.val (.ref b), .val (.int (Int32.ofNat (o + len))), .val (.ref d), .val (.int (Int32.ofNat (q + len))), .val (.int (Int32.ofNat len)), .val (.int (Int32.ofNat len)), z9] [.int (Int32.ofNat len)])) := g9.trans (by
    refine XS.iload X9.here hexec rfl (hb hbytes d3) rfl ?_
    refine XS.iload X9.here hexec rfl (hb hbytes d5) rfl ?_
    refine XS.icmpYes X9.here hexec rfl (pc0 := 7) rfl (hb hbytes d7) rfl (ii_ge_t (nlt32 (by omega) (Nat.le_refl _))) (by decide) rfl ?_
    refine XS.iload X9.here hexec rfl (hb hbytes d44) rfl ?_
    exact Steps.refl _)
  exact ⟨T9, some (.int (Int32.ofNat len)), _, _, _, X9, by simp, rfl, rfl, (fun h => by cases h), ⟨rfl, B9, p9.from hh0, f9⟩, fun fs hl => c11.trans (X9.ireturnOut hexec hret rfl (Or.inl rfl) (hb hbytes d46) hl)⟩
end Cmp5
namespace Cmp3
def yN : MethodName := ⟨"java/lang/StringUTF16", "compress", "([CII)[B"⟩
abbrev yB : ByteArray := jdk_52_method_16_code
theorem d0 : decode yB 0 = .ok (.iload_n 2, 1) := by decide +kernel
theorem d1 : decode yB 1 = .ok (.newarray .byte, 2) := by decide +kernel
theorem d3 : decode yB 3 = .ok (.astore_n 3, 1) := by decide +kernel
theorem d4 : decode yB 4 = .ok (.aload_n 0, 1) := by decide +kernel
theorem d5 : decode yB 5 = .ok (.iload_n 1, 1) := by decide +kernel
theorem d6 : decode yB 6 = .ok (.aload_n 3, 1) := by decide +kernel
theorem d7 : decode yB 7 = .ok (.iconst 0, 1) := by decide +kernel
theorem d8 : decode yB 8 = .ok (.iload_n 2, 1) := by decide +kernel
theorem d9 : decode yB 9 = .ok (.invokestatic 115, 3) := by decide +kernel
theorem d12 : decode yB 12 = .ok (.istore 4, 2) := by decide +kernel
theorem d14 : decode yB 14 = .ok (.iload 4, 2) := by decide +kernel
theorem d16 : decode yB 16 = .ok (.iload_n 2, 1) := by decide +kernel
theorem d17 : decode yB 17 = .ok (.if_icmp (.eq) 40, 3) := by decide +kernel
theorem d57 : decode yB 57 = .ok (.aload_n 3, 1) := by decide +kernel
theorem d58 : decode yB 58 = .ok (.areturn, 1) := by decide +kernel
def site : List Cond := [.arrayClass .byte, Cmp5.tab] ++ staticW U16 115 Cmp5.yN
def tab : Cond := tabOf yN yB 6 (some (.array .byte)) site
def P (b : Addr) (A : Cell) (o len : Nat) (args : Array Value) (s : State) : Prop := args = #[.ref b, .int (Int32.ofNat o), .int (Int32.ofNat len)] ∧ Ch b A s ∧ o + len ≤ A.slots.size ∧ len ≤ 536870912 ∧ ∀ i, i < len → ¬ 255 < cv A (o + i)
def E (b : Addr) (A : Cell) (o len : Nat) (r : Option Value) (s u : State) : Prop := NewArr .byte "[B" len (fun j => .int (lo8 (cv A (o + j)))) r s u ∧ u.heap.size = s.heap.size + 1
/-- no char of the range above 255: a new byte[] of their low bytes -/
theorem law (l : Launch) (b : Addr) (A : Cell) (o len : Nat) : Law l yN 3 3 1 18 yB 6 (some (.array .byte)) site (P b A o len) (E b A o len) [] 1 len := by
  refine Law.of_walk (plainFor_of_name (by decide +kernel)) (by decide +kernel) (by decide +kernel) (by decide) (fun _ _ h => by rw [h.1]; rfl) (fun _ U U' hal hh h => ⟨h.1, h.2.1.mv hal hh, h.2.2⟩) (fun r U U' V V' h1 hal h2 h => ⟨NewArr.mv r U U' V V' h1 hal h2 h.1, by rw [h1, h2]; exact h.2⟩) ?_
  intro p e s m args below meth c s₁ X0 hexec hbytes hml hret hlk hnm hown hh0 W hP
  obtain ⟨rfl, hA, l1, l2, hp⟩ := hP
  have a31 := hA.1.2.2.2
  have c1 : Steps p.tables e below (s₁.setTop (entryFrame m #[.ref b, .int (Int32.ofNat o), .int (Int32.ofNat len)] 6)) (s₁.setTop (mkF m 0 #[.val (.ref b), .val (.int (Int32.ofNat o)), .val (.int (Int32.ofNat len)), .unset, .unset, .unset] [])) := entry rfl
  have c2 : Steps p.tables e below (s₁.setTop (entryFrame m #[.ref b, .int (Int32.ofNat o), .int (Int32.ofNat len)] 6)) (s₁.setTop (mkF m 1 #[.val (.ref b), .val (.int (Int32.ofNat o)), .val (.int (Int32.ofNat len)), .unset, .unset, .unset] [.int (Int32.ofNat len)])) := c1.trans (by
    refine XS.iloadN X0.here hexec rfl (hb hbytes d0) rfl ?_
    exact Steps.refl _)
  obtain ⟨T3, B3, X3, ba3, bs3, bv3, bh3, bf3, st3⟩ := X0.anew hexec (atype := .byte) (wk W (.arrayClass .byte)) rfl (by show len * 1 ≤ _; omega) (by omega) (g := (mkF m 1 #[.val (.ref b), .val (.int (Int32.ofNat o)), .val (.int (Int32.ofNat len)), .unset, .unset, .unset] [.int (Int32.ofNat len)])) rfl (hb hbytes d1) (rest := []) rfl (Nat.le_refl _) (by show 0 + len ≤ len; omega)
  rw [hh0] at ba3 st3
  have kp3 : XT.Kept s T3 := (XT.Kept.of_eq hh0).push bh3
  have hA3 := hA.keep X3.warmed.alike (kp3 _ _ hA.1.1)
  have hne : b ≠ s.heap.size := hA.1.ne
  have c4 : Steps p.tables e below (s₁.setTop (entryFrame m #[.ref b, .int (Int32.ofNat o), .int (Int32.ofNat len)] 6)) (T3.setTop (mkF m 3 #[.val (.ref b), .val (.int (Int32.ofNat o)), .val (.int (Int32.ofNat len)), .unset, .unset, .unset] [.ref s.heap.size])) := c2.trans (st3 _ (Steps.refl _))
  have c5 : Steps p.tables e below (s₁.setTop (entryFrame m #[.ref b, .int (Int32.ofNat o), .int (Int32.ofNat len)] 6)) (T3.setTop (mkF m 9 #[.val (.ref b), .val (.int (Int32.ofNat o)), .val (.int (Int32.ofNat len)), .val (.ref s.heap.size), .unset, .unset] [.int (Int32.ofNat len), .int 0, .ref s.heap.size, .int (Int32.ofNat o), .ref b])) := c4.trans (by
    refine XS.astoreN X3.here hexec rfl (hb hbytes d3) rfl rfl rfl ?_
    refine XS.aloadN X3.here hexec rfl (hb hbytes d4) rfl rfl ?_
    refine XS.iloadN X3.here hexec rfl (hb hbytes d5) rfl ?_
    refine XS.aloadN X3.here hexec rfl (hb hbytes d6) rfl rfl ?_
    refine iconstV X3.here hexec rfl 0 (hb hbytes d7) (by decide) ?_
    refine XS.iloadN X3.here hexec rfl (hb hbytes d8) rfl ?_
    exact Steps.refl _)
  obtain ⟨v6, T6, X6, E6, g6⟩ := X3.callS hexec (Cmp5.law l b A s.heap.size B3 o 0 len) hown (wks W (staticW U16 115 Cmp5.yN)) (wk W Cmp5.tab) (W := 0) (Nat.le_of_ble_eq_true rfl) (Nat.le_of_ble_eq_true rfl) (Nat.le_refl _) (by show 0 + len + 0 ≤ len; omega) (g := (mkF m 9 #[.val (.ref b), .val (.int (Int32.ofNat o)), .val (.int (Int32.ofNat len)), .val (.ref s.heap.size), .unset, .unset] [.int (Int32.ofNat len), .int (Int32.ofNat 0), .ref s.heap.size, .int (Int32.ofNat o), .ref b])) rfl (by rw [hml]; rfl) c5 (argsL := [.ref b, .int (Int32.ofNat o), .ref s.heap.size, .int (Int32.ofNat 0), .int (Int32.ofNat len)]) (rest := []) rfl rfl (by show 2 * 0 + 0 ≤ _; decide) (hb hbytes d9) (⟨rfl, hA3, ba3, hne, l1, by rw [bs3]; simp, hp⟩)
  obtain ⟨rfl, B6, p6, f6⟩ := E6
  have c7 : Steps p.tables e below (s₁.setTop (entryFrame m #[.ref b, .int (Int32.ofNat o), .int (Int32.ofNat len)] 6)) (T6.setTop (mkF m 12 #[.val (.ref b), .val (.int (Int32.ofNat o)), .val (.int (Int32.ofNat len)), .val (.ref s.heap.size), .unset, .unset] [.int (Int32.ofNat len)])) := g6
  have c8 : Steps p.tables e below (s₁.setTop (entryFrame m #[.ref b, .int (Int32.ofNat o), .int (Int32.ofNat len)] 6)) (T6.setTop (mkF m 58 #[.val (.ref b), .val (.int (Int32.ofNat o)), .val (.int (Int32.ofNat len)), .val (.ref s.heap.size), .val (.int (Int32.ofNat len)), .unset] [.ref s.heap.size])) := c7.trans (by
    refine XS.istore X6.here hexec rfl (hb hbytes d12) rfl rfl ?_
    refine XS.iload X6.here hexec rfl (hb hbytes d14) rfl ?_
    refine XS.iloadN X6.here hexec rfl (hb hbytes d16) rfl ?_
    refine XS.icmpYes X6.here hexec rfl (pc0 := 17) rfl (hb hbytes d17) rfl (ii_eq_t rfl) (by decide) rfl ?_
    refine XS.aloadN X6.here hexec rfl (hb hbytes d57) rfl rfl ?_
    exact Steps.refl _)
  have X8 := X6.wide (L' := []) (cells' := 1) (slots' := len) (fun x hx hlt => by
    simp only [List.nil_append, copyLocs, List.mem_map, List.mem_range] at hx
    obtain ⟨i, -, rfl⟩ := hx
    exact absurd hlt (Nat.lt_irrefl _)) (Nat.le_refl _) (by omega)
  exact ⟨T6, some (.ref s.heap.size), _, _, _, X8, rfl, rfl, rfl, (fun h => by cases h), ⟨⟨rfl, B6, ba3.like (X3.warmed.alike.symm.trans X6.warmed.alike) p6.1 f6.1 f6.2.1 f6.2.2.1, f6.2.1.trans bv3, by rw [X6.warmed.alike.findClass, f6.1]; exact bf3, by rw [f6.2.2.1, bs3]; simp, fun j hj => by rw [f6.2.2.2 j, if_pos (by omega)]; rfl, kp3.put p6 (Nat.le_refl _)⟩, by rw [p6.2.2, bh3, hh0]; simp⟩, fun fs hl => c8.trans (X8.areturnOut hexec rfl hret rfl (hb hbytes d58) hl)⟩
end Cmp3
namespace CodL
def yN : MethodName := ⟨"java/lang/StringUTF16", "coderFromArrayLen", "([BI)B"⟩
abbrev yB : ByteArray := jdk_52_method_15_code
theorem d0 : decode yB 0 = .ok (.iload_n 1, 1) := by decide +kernel
theorem d1 : decode yB 1 = .ok (.aload_n 0, 1) := by decide +kernel
theorem d2 : decode yB 2 = .ok (.arraylength, 1) := by decide +kernel
theorem d3 : decode yB 3 = .ok (.isub, 1) := by decide +kernel
theorem d4 : decode yB 4 = .ok (.bipush 31, 2) := by decide +kernel
theorem d6 : decode yB 6 = .ok (.iushr, 1) := by decide +kernel
theorem d7 : decode yB 7 = .ok (.i2b, 1) := by decide +kernel
theorem d8 : decode yB 8 = .ok (.ireturn, 1) := by decide +kernel
def site : List Cond := []
def tab : Cond := tabOf yN yB 2 (some .byte) site
def P (d : Addr) (B : Cell) (args : Array Value) (s : State) : Prop := args = #[.ref d, .int (Int32.ofNat B.slots.size)] ∧ Arr .byte d B s
def E (r : Option Value) (s u : State) : Prop := XT.PureE (some (.int 0)) r s u
/-- an array as long as the number of chars: LATIN1 -/
theorem law (l : Launch) (d : Addr) (B : Cell) : Law l yN 2 2 0 0 yB 2 (some .byte) site (P d B) E [] 0 0 := by
  refine Law.of_walk (plainFor_of_name (by decide +kernel)) (by decide +kernel) (by decide +kernel) (by decide) (fun _ _ h => by rw [h.1]; rfl) (fun _ U U' hal hh h => ⟨h.1, h.2.mv hal hh⟩) (fun r U U' V V' h1 hal h2 h => XT.PureE.mv r U U' V V' h1 hal h2 h) ?_
  intro p e s m args below meth c s₁ X0 hexec hbytes hml hret hlk hnm hown hh0 W hP
  obtain ⟨rfl, hB⟩ := hP
  have hB0 := hB.mv X0.warmed.alike hh0
  have c1 : Steps p.tables e below (s₁.setTop (entryFrame m #[.ref d, .int (Int32.ofNat B.slots.size)] 2)) (s₁.setTop (mkF m 0 #[.val (.ref d), .val (.int (Int32.ofNat B.slots.size))] [])) := entry rfl
  have c2 : Steps p.tables e below (s₁.setTop (entryFrame m #[.ref d, .int (Int32.ofNat B.slots.size)] 2)) (s₁.setTop (mkF m 2 #[.val (.ref d), .val (.int (Int32.ofNat B.slots.size))] [.ref d, .int (Int32.ofNat B.slots.size)])) := c1.trans (by
    refine XS.iloadN X0.here hexec rfl (hb hbytes d0) rfl ?_
    refine XS.aloadN X0.here hexec rfl (hb hbytes d1) rfl rfl ?_
    exact Steps.refl _)
  have c3 : Steps p.tables e below (s₁.setTop (entryFrame m #[.ref d, .int (Int32.ofNat B.slots.size)] 2)) (s₁.setTop (mkF m 8 #[.val (.ref d), .val (.int (Int32.ofNat B.slots.size))] [.int (lo8 (ushr (Int32.ofNat B.slots.size - Int32.ofNat B.slots.size) 31))])) := c2.trans (by
    refine X0.alen hexec hB0 rfl rfl (hb hbytes d2) ?_
    refine XS.isub X0.here hexec rfl (hb hbytes d3) rfl ?_
    refine bipushV X0.here hexec rfl 31 (hb hbytes d4) (by decide) ?_
    refine iushr X0.here hexec rfl (hb hbytes d6) rfl ?_
    refine i2b X0.here hexec rfl (hb hbytes d7) rfl ?_
    exact Steps.refl _)
  have e0 : lo8 (ushr (Int32.ofNat B.slots.size - Int32.ofNat B.slots.size) 31) = 0 := by rw [Int32.sub_self]; decide
  rw [e0] at c3
  exact ⟨s₁, some (.int 0), _, _, _, X0, rfl, rfl, rfl, (fun h => by cases h), ⟨rfl, hh0⟩, fun fs hl => c3.trans (X0.ireturnOut hexec hret rfl (Or.inr (Or.inr (Or.inl rfl))) (hb hbytes d8) hl)⟩
end CodL
/-- the String at a is Latin-1 over a new byte[] (the heap's one new cell): the low bytes of the len chars of A from o on; every cell but a is kept -/
def Got (a : Addr) (D : Cell) (fV fC : Field) (A : Cell) (o len : Nat) (r : Option Value) (s u : State) : Prop := r = none ∧ ∃ D' V : Cell, Blank "java/lang/String" a D' u ∧ Same D D' [fV.slot, fC.slot] ∧ D'.slots[fV.slot]? = some (.ref s.heap.size) ∧ D'.slots[fC.slot]? = some (.int 0) ∧ Arr .byte s.heap.size V u ∧ V.vm = .none ∧ u.vm.findClass "[B" = some V.cls ∧ V.slots.size = len ∧ (∀ j, j < len → V.slots[j]? = some (.int (lo8 (cv A (o + j))))) ∧ (∀ (y : Addr) (c : Cell), y ≠ a → s.heap[y]? = some c → u.heap[y]? = some c) ∧ u.heap.size = s.heap.size + 1
theorem Got.mv {a : Addr} {D A : Cell} {fV fC : Field} {o len : Nat} : ∀ r (U U' V V' : State), U'.heap = U.heap → V.vm.Alike V'.vm → V'.heap = V.heap → Got a D fV fC A o len r U V → Got a D fV fC A o len r U' V' :=
  fun r U U' V V' h1 hal h2 ⟨e0, D', X, a1, a2, a3, a4, a5, a6, a7, a8, a9, a10, a11⟩ => ⟨e0, D', X, a1.mv hal h2, a2, by rw [h1]; exact a3, a4, by rw [h1]; exact a5.mv hal h2, a6, by rw [hal.findClass]; exact a7, a8, a9, by rw [h1, h2]; exact a10, by rw [h1, h2]; exact a11⟩
namespace New4
def yN : MethodName := ⟨"java/lang/String", "<init>", "([CIILjava/lang/Void;)V"⟩
abbrev yB : ByteArray := jdk_42_method_149_code
theorem d0 : decode yB 0 = .ok (.aload_n 0, 1) := by decide +kernel
theorem d1 : decode yB 1 = .ok (.invokespecial 1, 3) := by decide +kernel
theorem d4 : decode yB 4 = .ok (.iload_n 3, 1) := by decide +kernel
theorem d5 : decode yB 5 = .ok (.ifCond (.ne) 22, 3) := by decide +kernel
theorem d27 : decode yB 27 = .ok (.getstatic 38, 3) := by decide +kernel
theorem d30 : decode yB 30 = .ok (.ifCond (.eq) 28, 3) := by decide +kernel
theorem d33 : decode yB 33 = .ok (.aload_n 1, 1) := by decide +kernel
theorem d34 : decode yB 34 = .ok (.iload_n 2, 1) := by decide +kernel
theorem d35 : decode yB 35 = .ok (.iload_n 3, 1) := by decide +kernel
theorem d36 : decode yB 36 = .ok (.invokestatic 177, 3) := by decide +kernel
theorem d39 : decode yB 39 = .ok (.astore 5, 2) := by decide +kernel
theorem d41 : decode yB 41 = .ok (.aload_n 0, 1) := by decide +kernel
theorem d42 : decode yB 42 = .ok (.aload 5, 2) := by decide +kernel
theorem d44 : decode yB 44 = .ok (.iload_n 3, 1) := by decide +kernel
theorem d45 : decode yB 45 = .ok (.invokestatic 47, 3) := by decide +kernel
theorem d48 : decode yB 48 = .ok (.putfield 15, 3) := by decide +kernel
theorem d51 : decode yB 51 = .ok (.aload_n 0, 1) := by decide +kernel
theorem d52 : decode yB 52 = .ok (.aload 5, 2) := by decide +kernel
theorem d54 : decode yB 54 = .ok (.putfield 9, 3) := by decide +kernel
theorem d57 : decode yB 57 = .ok (.return_, 1) := by decide +kernel
def site : List Cond := [.fieldLink "java/lang/String" 38 "java/lang/String" "COMPACT_STRINGS" "Z", Cmp3.tab, CodL.tab, .laysFinal "java/lang/String" "java/lang/String" "value" "[B", .fieldLink "java/lang/String" 9 "java/lang/String" "value" "[B", .laysFinal "java/lang/String" "java/lang/String" "coder" "B", .fieldLink "java/lang/String" 15 "java/lang/String" "coder" "B"] ++ objW "java/lang/String" 1 ++ staticW "java/lang/String" 177 Cmp3.yN ++ staticW "java/lang/String" 47 CodL.yN
def tab : Cond := tabOf yN yB 6 none site
def P (a : Addr) (D : Cell) (fV fC : Field) (b : Addr) (A : Cell) (z : Int32) (o len : Nat) (args : Array Value) (s : State) : Prop := args = #[.ref a, .ref b, .int (Int32.ofNat o), .int (Int32.ofNat len), .null] ∧ Blank "java/lang/String" a D s ∧ Found "java/lang/String" "value" "[B" fV s ∧ Found "java/lang/String" "coder" "B" fC s ∧ Ch b A s ∧ StaticIs s "java/lang/String" "COMPACT_STRINGS" "Z" (.int z) ∧ ¬ z = 0 ∧ 0 < len ∧ o + len ≤ A.slots.size ∧ len ≤ 536870912 ∧ ∀ i, i < len → ¬ 255 < cv A (o + i)
def E (a : Addr) (D : Cell) (fV fC : Field) (A : Cell) (o len : Nat) (r : Option Value) (s u : State) : Prop := Got a D fV fC A o len r s u
/-- len > 0, no char of the range above 255: a Latin-1 String of their low bytes -/
theorem law (l : Launch) (a : Addr) (D : Cell) (fV fC : Field) (b : Addr) (A : Cell) (z : Int32) (o len : Nat) : Law l yN 5 4 2 35 yB 6 none site (P a D fV fC b A z o len) (E a D fV fC A o len) [⟨a, fC.slot⟩, ⟨a, fV.slot⟩] 1 len := by
  refine Law.of_walk (plainFor_of_name (by decide +kernel)) (by decide +kernel) (by decide +kernel) (by decide) (fun _ _ h => by rw [h.1]; rfl) (fun _ U U' hal hh h => ⟨h.1, h.2.1.mv hal hh, h.2.2.1.al hal, h.2.2.2.1.al hal, h.2.2.2.2.1.mv hal hh, h.2.2.2.2.2.1.there hal hh, h.2.2.2.2.2.2⟩) (fun r U U' V V' h1 hal h2 h => Got.mv r U U' V V' h1 hal h2 h) ?_
  intro p e s m args below meth c s₁ X0 hexec hbytes hml hret hlk hnm hown hh0 W hP
  obtain ⟨rfl, hB, f1, f2, hA, s1, hz, l0, l1, l2, hp⟩ := hP
  have a31 := hA.1.2.2.2
  have c1 : Steps p.tables e below (s₁.setTop (entryFrame m #[.ref a, .ref b, .int (Int32.ofNat o), .int (Int32.ofNat len), .null] 6)) (s₁.setTop (mkF m 0 #[.val (.ref a), .val (.ref b), .val (.int (Int32.ofNat o)), .val (.int (Int32.ofNat len)), .val .null, .unset] [])) := entry rfl
  have c2 : Steps p.tables e below (s₁.setTop (entryFrame m #[.ref a, .ref b, .int (Int32.ofNat o), .int (Int32.ofNat len), .null] 6)) (s₁.setTop (mkF m 1 #[.val (.ref a), .val (.ref b), .val (.int (Int32.ofNat o)), .val (.int (Int32.ofNat len)), .val .null, .unset] [.ref a])) := c1.trans (by
    refine XS.aloadN X0.here hexec rfl (hb hbytes d0) rfl rfl ?_
    exact Steps.refl _)
  obtain ⟨T3, X3, q3, st3⟩ := X0.oinit hexec hown (wks W (objW "java/lang/String" 1)) (g := (mkF m 1 #[.val (.ref a), .val (.ref b), .val (.int (Int32.ofNat o)), .val (.int (Int32.ofNat len)), .val .null, .unset] [.ref a])) rfl (by rw [hml]; rfl) (rest := []) rfl (hb hbytes d1) (W := 0) (by show 2 * 0 + 0 ≤ _; decide) (Nat.le_of_ble_eq_true rfl) (Nat.le_of_ble_eq_true rfl)
  have hh3 := q3.trans hh0
  have c4 : Steps p.tables e below (s₁.setTop (entryFrame m #[.ref a, .ref b, .int (Int32.ofNat o), .int (Int32.ofNat len), .null] 6)) (T3.setTop (mkF m 27 #[.val (.ref a), .val (.ref b), .val (.int (Int32.ofNat o)), .val (.int (Int32.ofNat len)), .val .null, .unset] [])) := (c2.trans (st3 _ (Steps.refl _))).trans (by
    refine XS.iloadN X3.here hexec rfl (hb hbytes d4) rfl ?_
    refine XS.ifYes X3.here hexec rfl (pc0 := 5) rfl (hb hbytes d5) rfl (i0_ne_t (nz32 (by omega) l0)) (by decide) rfl ?_
    exact Steps.refl _)
  obtain ⟨T5, X5, q5, st5⟩ := X3.sget hexec hown (wk W (.fieldLink "java/lang/String" 38 "java/lang/String" "COMPACT_STRINGS" "Z")) s1 (fun _ _ h => by rw [hh3]; exact h) (g := (mkF m 27 #[.val (.ref a), .val (.ref b), .val (.int (Int32.ofNat o)), .val (.int (Int32.ofNat len)), .val .null, .unset] [])) rfl (hb hbytes d27)
  have hh5 := q5.trans hh3
  have c6 : Steps p.tables e below (s₁.setTop (entryFrame m #[.ref a, .ref b, .int (Int32.ofNat o), .int (Int32.ofNat len), .null] 6)) (T5.setTop (mkF m 30 #[.val (.ref a), .val (.ref b), .val (.int (Int32.ofNat o)), .val (.int (Int32.ofNat len)), .val .null, .unset] [.int z])) := c4.trans (st5 _ (Steps.refl _))
  have c7 : Steps p.tables e below (s₁.setTop (entryFrame m #[.ref a, .ref b, .int (Int32.ofNat o), .int (Int32.ofNat len), .null] 6)) (T5.setTop (mkF m 36 #[.val (.ref a), .val (.ref b), .val (.int (Int32.ofNat o)), .val (.int (Int32.ofNat len)), .val .null, .unset] [.int (Int32.ofNat len), .int (Int32.ofNat o), .ref b])) := c6.trans (by
    refine XS.ifNo X5.here hexec rfl (hb hbytes d30) rfl (i0_eq_f hz) ?_
    refine XS.aloadN X5.here hexec rfl (hb hbytes d33) rfl rfl ?_
    refine XS.iloadN X5.here hexec rfl (hb hbytes d34) rfl ?_
    refine XS.iloadN X5.here hexec rfl (hb hbytes d35) rfl ?_
    exact Steps.refl _)
  obtain ⟨v8, T8, X8, E8, g8⟩ := X5.callS hexec (Cmp3.law l b A o len) hown (wks W (staticW "java/lang/String" 177 Cmp3.yN)) (wk W Cmp3.tab) (W := 0) (Nat.le_of_ble_eq_true rfl) (Nat.le_of_ble_eq_true rfl) (Nat.le_refl _) (by show 0 + len ≤ len; omega) (g := (mkF m 36 #[.val (.ref a), .val (.ref b), .val (.int (Int32.ofNat o)), .val (.int (Int32.ofNat len)), .val .null, .unset] [.int (Int32.ofNat len), .int (Int32.ofNat o), .ref b])) rfl (by rw [hml]; rfl) c7 (argsL := [.ref b, .int (Int32.ofNat o), .int (Int32.ofNat len)]) (rest := []) rfl rfl (by show 2 * 0 + 0 ≤ _; decide) (hb hbytes d36) (⟨rfl, hA.mv X5.warmed.alike hh5, l1, l2, hp⟩)
  obtain ⟨e8, z8⟩ := E8
  obtain ⟨rfl, N, n1, n2, n3, n4, n5, n6⟩ := NewArr.mv _ T5 s _ _ hh5.symm (Vm.Alike.refl _) rfl e8
  rw [hh5] at z8
  have hB1 := hB.keep X8.warmed.alike (n6 _ _ hB.1)
  have hne : s.heap.size ≠ a := (Nat.ne_of_lt (Array.getElem?_eq_some_iff.mp hB.1).1).symm
  have c9 : Steps p.tables e below (s₁.setTop (entryFrame m #[.ref a, .ref b, .int (Int32.ofNat o), .int (Int32.ofNat len), .null] 6)) (T8.setTop (mkF m 39 #[.val (.ref a), .val (.ref b), .val (.int (Int32.ofNat o)), .val (.int (Int32.ofNat len)), .val .null, .unset] [.ref s.heap.size])) := g8
  have c10 : Steps p.tables e below (s₁.setTop (entryFrame m #[.ref a, .ref b, .int (Int32.ofNat o), .int (Int32.ofNat len), .null] 6)) (T8.setTop (mkF m 45 #[.val (.ref a), .val (.ref b), .val (.int (Int32.ofNat o)), .val (.int (Int32.ofNat len)), .val .null, .val (.ref s.heap.size)] [.int (Int32.ofNat N.slots.size), .ref s.heap.size, .ref a])) := by
    have hc : Steps p.tables e below (s₁.setTop (entryFrame m #[.ref a, .ref b, .int (Int32.ofNat o), .int (Int32.ofNat len), .null] 6)) (T8.setTop (mkF m 45 #[.val (.ref a), .val (.ref b), .val (.int (Int32.ofNat o)), .val (.int (Int32.ofNat len)), .val .null, .val (.ref s.heap.size)] [.int (Int32.ofNat len), .ref s.heap.size, .ref a])) := c9.trans (by
      refine XS.astore X8.here hexec rfl (hb hbytes d39) rfl rfl rfl ?_
      refine XS.aloadN X8.here hexec rfl (hb hbytes d41) rfl rfl ?_
      refine XS.aload X8.here hexec rfl (hb hbytes d42) rfl rfl ?_
      refine XS.iloadN X8.here hexec rfl (hb hbytes d44) rfl ?_
      exact Steps.refl _)
    rw [n4]; exact hc
  obtain ⟨v11, T11, X11, E11, g11⟩ := X8.callS hexec (CodL.law l s.heap.size N) hown (wks W (staticW "java/lang/String" 47 CodL.yN)) (wk W CodL.tab) (W := 1) (Nat.le_of_ble_eq_true rfl) (Nat.le_of_ble_eq_true rfl) (Nat.le_refl _) (by show 0 + len + 0 ≤ len; omega) (g := (mkF m 45 #[.val (.ref a), .val (.ref b), .val (.int (Int32.ofNat o)), .val (.int (Int32.ofNat len)), .val .null, .val (.ref s.heap.size)] [.int (Int32.ofNat N.slots.size), .ref s.heap.size, .ref a])) rfl (by rw [hml]; rfl) c10 (argsL := [.ref s.heap.size, .int (Int32.ofNat N.slots.size)]) (rest := [.ref a]) rfl rfl (by show 2 * 0 + (1 + 0) ≤ _; decide) (hb hbytes d45) (⟨rfl, n1⟩)
  obtain ⟨rfl, q11⟩ := E11
  have hB11 := hB1.mv (X8.warmed.alike.symm.trans X11.warmed.alike) q11
  have c12 : Steps p.tables e below (s₁.setTop (entryFrame m #[.ref a, .ref b, .int (Int32.ofNat o), .int (Int32.ofNat len), .null] 6)) (T11.setTop (mkF m 48 #[.val (.ref a), .val (.ref b), .val (.int (Int32.ofNat o)), .val (.int (Int32.ofNat len)), .val .null, .val (.ref s.heap.size)] [.int 0, .ref a])) := g11
  obtain ⟨T13, X13, p13, bl13, sl13, st13⟩ := X11.finit hexec hown (wk W (.fieldLink "java/lang/String" 15 "java/lang/String" "coder" "B")) (Or.inr ⟨_, (wk W (.laysFinal "java/lang/String" "java/lang/String" "coder" "B"))⟩) (Or.inl ⟨rfl, hnm⟩) f2 (Or.inl rfl) hB11 (t := .byte) (by decide +kernel) rfl (g := (mkF m 48 #[.val (.ref a), .val (.ref b), .val (.int (Int32.ofNat o)), .val (.int (Int32.ofNat len)), .val .null, .val (.ref s.heap.size)] [.int 0, .ref a])) rfl (rest := []) rfl (hb hbytes d48)
  have c14 : Steps p.tables e below (s₁.setTop (entryFrame m #[.ref a, .ref b, .int (Int32.ofNat o), .int (Int32.ofNat len), .null] 6)) (T13.setTop (mkF m 54 #[.val (.ref a), .val (.ref b), .val (.int (Int32.ofNat o)), .val (.int (Int32.ofNat len)), .val .null, .val (.ref s.heap.size)] [.ref s.heap.size, .ref a])) := (c12.trans (st13 _ (Steps.refl _))).trans (by
    refine XS.aloadN X13.here hexec rfl (hb hbytes d51) rfl rfl ?_
    refine XS.aload X13.here hexec rfl (hb hbytes d52) rfl rfl ?_
    exact Steps.refl _)
  obtain ⟨T15, X15, p15, bl15, sl15, st15⟩ := X13.finit hexec hown (wk W (.fieldLink "java/lang/String" 9 "java/lang/String" "value" "[B")) (Or.inr ⟨_, (wk W (.laysFinal "java/lang/String" "java/lang/String" "value" "[B"))⟩) (Or.inl ⟨rfl, hnm⟩) f1 (Or.inl rfl) bl13 (t := (.array .byte)) (by decide +kernel) rfl (g := (mkF m 54 #[.val (.ref a), .val (.ref b), .val (.int (Int32.ofNat o)), .val (.int (Int32.ofNat len)), .val .null, .val (.ref s.heap.size)] [.ref s.heap.size, .ref a])) rfl (rest := []) rfl (hb hbytes d54)
  have c16 : Steps p.tables e below (s₁.setTop (entryFrame m #[.ref a, .ref b, .int (Int32.ofNat o), .int (Int32.ofNat len), .null] 6)) (T15.setTop (mkF m 57 #[.val (.ref a), .val (.ref b), .val (.int (Int32.ofNat o)), .val (.int (Int32.ofNat len)), .val .null, .val (.ref s.heap.size)] [])) := c14.trans (st15 _ (Steps.refl _))
  have ap := apart (Or.inr ⟨_, (wk W (.laysFinal "java/lang/String" "java/lang/String" "value" "[B"))⟩) (Or.inr ⟨_, (wk W (.laysFinal "java/lang/String" "java/lang/String" "coder" "B"))⟩) f1 f2 (t₁ := .array .byte) (t₂ := .byte) (by decide +kernel) (by decide +kernel) (by decide)
  have al := X8.warmed.alike.symm.trans X15.warmed.alike
  have n7 : T11.heap[s.heap.size]? = some N := by rw [q11]; exact n1.1
  exact ⟨T15, none, _, _, _, X15, by simp, rfl, by omega, (fun _ => rfl), ⟨rfl, _, N, bl15, ((Same.refl D _).set _ (by simp)).set _ (by simp), sl15, (Cell.slots_setSlot_ne _ ap).trans sl13, n1.keep al (p15.other hne (p13.other hne n7)), n2, by rw [al.findClass]; exact n3, n4, n5, fun y c h1 h2 => p15.other h1 (p13.other h1 (by rw [q11]; exact n6 y c h2)), by rw [p15.2.2, p13.2.2, q11]; exact z8⟩, fun fs hl => c16.trans (X15.returnOut hexec hret (hb hbytes d57) hl)⟩
end New4
namespace New1
def yN : MethodName := ⟨"java/lang/String", "<init>", "([C)V"⟩
abbrev yB : ByteArray := jdk_42_method_3_code
theorem d0 : decode yB 0 = .ok (.aload_n 0, 1) := by decide +kernel
theorem d1 : decode yB 1 = .ok (.aload_n 1, 1) := by decide +kernel
theorem d2 : decode yB 2 = .ok (.iconst 0, 1) := by decide +kernel
theorem d3 : decode yB 3 = .ok (.aload_n 1, 1) := by decide +kernel
theorem d4 : decode yB 4 = .ok (.arraylength, 1) := by decide +kernel
theorem d5 : decode yB 5 = .ok (.aconst_null, 1) := by decide +kernel
theorem d6 : decode yB 6 = .ok (.invokespecial 27, 3) := by decide +kernel
theorem d9 : decode yB 9 = .ok (.return_, 1) := by decide +kernel
def site : List Cond := [New4.tab] ++ initW "java/lang/String" 27 New4.yN
def tab : Cond := tabOf yN yB 2 none site
def P (a : Addr) (D : Cell) (fV fC : Field) (b : Addr) (A : Cell) (z : Int32) (args : Array Value) (s : State) : Prop := args = #[.ref a, .ref b] ∧ Blank "java/lang/String" a D s ∧ Found "java/lang/String" "value" "[B" fV s ∧ Found "java/lang/String" "coder" "B" fC s ∧ Ch b A s ∧ StaticIs s "java/lang/String" "COMPACT_STRINGS" "Z" (.int z) ∧ ¬ z = 0 ∧ 0 < A.slots.size ∧ A.slots.size ≤ 536870912 ∧ ∀ i, i < A.slots.size → ¬ 255 < cv A i
def E (a : Addr) (D : Cell) (fV fC : Field) (A : Cell) (r : Option Value) (s u : State) : Prop := Got a D fV fC A 0 A.slots.size r s u
/-- new String(chars), not empty, no char above 255: a Latin-1 String of their low bytes -/
theorem law (l : Launch) (a : Addr) (D : Cell) (fV fC : Field) (b : Addr) (A : Cell) (z : Int32) : Law l yN 2 1 3 52 yB 2 none site (P a D fV fC b A z) (E a D fV fC A) [⟨a, fC.slot⟩, ⟨a, fV.slot⟩] 1 A.slots.size := by
  refine Law.of_walk (plainFor_of_name (by decide +kernel)) (by decide +kernel) (by decide +kernel) (by decide) (fun _ _ h => by rw [h.1]; rfl) (fun _ U U' hal hh h => ⟨h.1, h.2.1.mv hal hh, h.2.2.1.al hal, h.2.2.2.1.al hal, h.2.2.2.2.1.mv hal hh, h.2.2.2.2.2.1.there hal hh, h.2.2.2.2.2.2⟩) (fun r U U' V V' h1 hal h2 h => Got.mv r U U' V V' h1 hal h2 h) ?_
  intro p e s m args below meth c s₁ X0 hexec hbytes hml hret hlk hnm hown hh0 W hP
  obtain ⟨rfl, hB, f1, f2, hA, s1, hz, l0, l2, hp⟩ := hP
  have c1 : Steps p.tables e below (s₁.setTop (entryFrame m #[.ref a, .ref b] 2)) (s₁.setTop (mkF m 0 #[.val (.ref a), .val (.ref b)] [])) := entry rfl
  have c2 : Steps p.tables e below (s₁.setTop (entryFrame m #[.ref a, .ref b] 2)) (s₁.setTop (mkF m 6 #[.val (.ref a), .val (.ref b)] [.null, .int (Int32.ofNat A.slots.size), .int 0, .ref b, .ref a])) := c1.trans (by
    refine XS.aloadN X0.here hexec rfl (hb hbytes d0) rfl rfl ?_
    refine XS.aloadN X0.here hexec rfl (hb hbytes d1) rfl rfl ?_
    refine iconstV X0.here hexec rfl 0 (hb hbytes d2) (by decide) ?_
    refine XS.aloadN X0.here hexec rfl (hb hbytes d3) rfl rfl ?_
    refine X0.alen hexec (hA.1.mv X0.warmed.alike hh0) rfl rfl (hb hbytes d4) ?_
    refine XS.aconstNull X0.here hexec rfl (hb hbytes d5) ?_
    exact Steps.refl _)
  obtain ⟨v3, T3, X3, E3, g3⟩ := X0.callN hexec (New4.law l a D fV fC b A z 0 A.slots.size) rfl hown (wks W (initW "java/lang/String" 27 New4.yN)) (W New4.tab (by simp only [site, List.mem_cons, List.mem_append, true_or, or_true])) (W := 0) (Nat.le_of_ble_eq_true rfl) (Nat.le_of_ble_eq_true rfl) (Nat.le_refl _) (by show 0 + A.slots.size ≤ A.slots.size; omega) (g := (mkF m 6 #[.val (.ref a), .val (.ref b)] [.null, .int (Int32.ofNat A.slots.size), .int (Int32.ofNat 0), .ref b, .ref a])) rfl (by rw [hml]; rfl) c2 (argsL := [.ref b, .int (Int32.ofNat 0), .int (Int32.ofNat A.slots.size), .null]) (rest := []) rfl rfl (by show 2 * 0 + 0 ≤ _; decide) (hb hbytes d6) (⟨rfl, hB.mv X0.warmed.alike hh0, f1.al X0.warmed.alike, f2.al X0.warmed.alike, hA.mv X0.warmed.alike hh0, s1.there X0.warmed.alike hh0, hz, l0, by omega, l2, fun i hi => by rw [Nat.zero_add]; exact hp i hi⟩)
  have e0 := Got.mv _ s₁ s _ _ hh0.symm (Vm.Alike.refl _) rfl E3
  obtain rfl := e0.1
  have c4 : Steps p.tables e below (s₁.setTop (entryFrame m #[.ref a, .ref b] 2)) (T3.setTop (mkF m 9 #[.val (.ref a), .val (.ref b)] [])) := g3
  exact ⟨T3, none, _, _, _, X3, by simp, rfl, by omega, (fun _ => rfl), e0, fun fs hl => c4.trans (X3.returnOut hexec hret (hb hbytes d9) hl)⟩
theorem pays {l : Launch} {R : Room} {p : Program} {e : Env} {below : List Frame} {s : State} {sargs : Array Value} {len W : Nat} (a : Addr) (D : Cell) (fV fC : Field) (b : Addr) (A : Cell) (z : Int32) (htab : tab.before sargs s = true) (hfr : 4 ≤ R.frames) (hlo : W + 65 ≤ R.locals) :
    Back l R p e below s sargs yN len W (fun A₁ a₁ => A₁.cells + 1 ≤ R.cells ∧ A₁.slots + A.slots.size ≤ R.slots ∧ P a D fV fC b A z a₁ A₁.U) (fun A₁ _ v₁ B₁ => E a D fV fC A v₁ A₁.U B₁.U ∧ B₁.locs = A₁.locs ++ [⟨a, fC.slot⟩, ⟨a, fV.slot⟩] ∧ B₁.cells = A₁.cells + 1 ∧ B₁.slots = A₁.slots + A.slots.size) :=
  (law l a D fV fC b A z).pays htab hfr (by omega)
end New1
end StrChars
namespace StrChars.Road
open Jvm Sem ClassFile Op Lib Jvm.Stand Jvm.Free Jvm.Free.XT
open Jvm.Lib.Cold (StaticIs)
abbrev ST : String := "java/lang/String"
/-- every table word that New1's law asks, flat -/
abbrev words : List Jvm.Cond := [.code New1.yN New1.yB 2 none, .initialized ST, .methodLink ST 27 New4.yN, .instanceMethod New4.yN,
  .code New4.yN New4.yB 6 none, .fieldLink ST 38 ST "COMPACT_STRINGS" "Z", .laysFinal ST ST "value" "[B", .fieldLink ST 9 ST "value" "[B", .laysFinal ST ST "coder" "B", .fieldLink ST 15 ST "coder" "B",
  .methodLink ST 1 Lib.objectInit, .instanceMethod Lib.objectInit, .code Lib.objectInit ⟨#[0xb1]⟩ 1 none, .methodLink ST 177 Cmp3.yN, .static Cmp3.yN, .methodLink ST 47 CodL.yN, .static CodL.yN,
  .code Cmp3.yN Cmp3.yB 6 (some (.array .byte)), .initialized U16, .arrayClass .byte, .methodLink U16 115 Cmp5.yN, .static Cmp5.yN, .code Cmp5.yN Cmp5.yB 7 (some .int), .code CodL.yN CodL.yB 2 (some .byte)]
theorem tab_of {a : Array Value} {s : State} (h : ∀ w ∈ words, w.before a s = true) : New1.tab.before a s = true := by
  have h5 : Cmp5.tab.before a s = true := unparts (wk h (.code Cmp5.yN Cmp5.yB 7 (some .int))) (wks h (.initialized Cmp5.yN.cls :: Cmp5.site))
  have hc : CodL.tab.before a s = true := unparts (wk h (.code CodL.yN CodL.yB 2 (some .byte))) (wks h (.initialized CodL.yN.cls :: CodL.site))
  have q5 : ∀ w ∈ Cmp5.tab :: words, w.before a s = true := fun w hw => (List.mem_cons.mp hw).elim (fun e => e ▸ h5) (h w)
  have h3 : Cmp3.tab.before a s = true := unparts (wk q5 (.code Cmp3.yN Cmp3.yB 6 (some (.array .byte)))) (wks q5 (.initialized Cmp3.yN.cls :: Cmp3.site))
  have q3 : ∀ w ∈ Cmp3.tab :: CodL.tab :: words, w.before a s = true := fun w hw => (List.mem_cons.mp hw).elim (fun e => e ▸ h3) fun hw => (List.mem_cons.mp hw).elim (fun e => e ▸ hc) (h w)
  have h4 : New4.tab.before a s = true := unparts (wk q3 (.code New4.yN New4.yB 6 none)) (wks q3 (.initialized New4.yN.cls :: New4.site))
  have q4 : ∀ w ∈ New4.tab :: words, w.before a s = true := fun w hw => (List.mem_cons.mp hw).elim (fun e => e ▸ h4) (h w)
  exact unparts (wk q4 (.code New1.yN New1.yB 2 none)) (wks q4 (.initialized New1.yN.cls :: New1.site))
/-- the words ride from the start Z to the walk's own state -/
theorem moved {Z s : State} {a0 args : Array Value} (hZ : Z.Warmed39 s.vm) (hw : ∀ d ∈ words, d.before a0 Z = true) : ∀ d ∈ words, d.before args s = true := fun d hd => by
  have q := hw d hd
  have t : ∀ d ∈ words, d = .arrayClass .byte ∨ (d.onTables && d.keepsFace) = true := by decide +kernel
  rcases t d hd with rfl | t
  · exact RoadKit.mvA hZ q
  · exact RoadKit.mv hZ q t
/-- WHAT COMES BACK, over the tables of the start Z: h the heap at the call, h' behind it -/
def Q (Z : State) (x : Addr) (A : Cell) (h : Heap) (v : Option Value) (h' : Heap) (L : List Loc) : Prop := v = none ∧ (∀ y ∈ L, y.base = x) ∧ RoadKit.Keep h h' [x] ∧ h'.size = h.size + 1 ∧ RoadKit.Exa Z h' x ST ∧ RoadKit.Fld Z h' x ST "value" "[B" (.ref h.size) ∧ RoadKit.Fld Z h' x ST "coder" "B" (.int 0) ∧
  (∃ V : Cell, RoadKit.Arr Z h' h.size V .byte ∧ V.vm = .none ∧ Z.vm.findClass "[B" = some V.cls ∧ V.slots.size = A.slots.size ∧ ∀ j, j < A.slots.size → V.slots[j]? = some (.int (lo8 (cv A j)))) ∧
  ∀ (O n d : String) (w : Value), RoadKit.Fld Z h x O n d w → RoadKit.slotOf Z O n d ≠ RoadKit.slotOf Z ST "value" "[B" → RoadKit.slotOf Z O n d ≠ RoadKit.slotOf Z ST "coder" "B" → RoadKit.Fld Z h' x O n d w
/-- **new String(chars) AT A CALL, IN THE ROAD'S FORM**: for specialBack behind newO: x the fresh String, b the char[] with the cell A -/
theorem back {p : Program} {l : Launch} {e : Env} {R : Room} {s : State} {args : Array Value} {below : List Frame} {len W : Nat} {Z : State} {a0 : Array Value} {h : Heap} (hZ : Z.Warmed39 s.vm) (hw : ∀ d ∈ words, d.before a0 Z = true) {kI : Nat} (wi : (Jvm.Cond.instantiable ST kI).before a0 Z = true)
    {x b : Addr} {A : Cell} {z : Int32} {v0 c0 : Value} (E : RoadKit.Exa Z h x ST) (V : RoadKit.Fld Z h x ST "value" "[B" v0) (C : RoadKit.Fld Z h x ST "coder" "B" c0) (K : RoadKit.Arr Z h b A .char) (hty : Typed .char A) (S : RoadKit.Sta Z h ST "COMPACT_STRINGS" "Z" (.int z)) (hz : ¬ z = 0)
    (l0 : 0 < A.slots.size) (l2 : A.slots.size ≤ 536870912) (hp : ∀ i, i < A.slots.size → ¬ 255 < cv A i) (hfr : 4 ≤ R.frames) (hlo : W + 65 ≤ R.locals) :
    Back l R p e below s args New1.yN len W (fun P a => a = #[.ref x, .ref b] ∧ P.U.heap = h ∧ P.cells + 1 ≤ R.cells ∧ P.slots + A.slots.size ≤ R.slots)
      (fun P _ v B => ∃ L, Q Z x A h v B.U.heap L ∧ B.locs = P.locs ++ L ∧ B.cells = P.cells + 1 ∧ B.slots = P.slots + A.slots.size) := by
  intro m meth c P g ig mk a X hg hsize hdg hW hn hp'
  obtain ⟨rfl, rfl, r1, r2⟩ := hp'
  have al : Z.vm.Alike P.U.vm := hZ.alike.trans X.warmed.alike
  obtain ⟨D, cfV, kV, iV, fV, hD, gV, stV, knV, obV, asV, slV⟩ := id V
  obtain ⟨D', cfC, kC, iC, fC, hD', gC, stC, -, -, asC, slC⟩ := id C
  cases hD.symm.trans hD'
  obtain ⟨D2, kD, e1, e2, e3, e4, e5⟩ := id E
  cases hD.symm.trans e1
  obtain ⟨c2, k2, i1, i2, i3, -⟩ := Cond.instantiable_spec wi
  cases e2.symm.trans i1
  cases e3.symm.trans i2
  obtain ⟨kU, u1, u2⟩ := al.2.2 _ _ e3
  have hB : Blank ST x D P.U := ⟨hD, ⟨knV, fun q hq => by rw [hq] at obV; cases obV⟩, by rw [al.findClass]; exact e2, kU, u1, by rw [u2]; exact i3, by rw [u2]; exact e5 i3⟩
  have F1 : Found ST "value" "[B" fV P.U := ⟨SBG.found_only al ⟨cfV, kV, iV, gV⟩, stV⟩
  have F2 : Found ST "coder" "B" fC P.U := ⟨SBG.found_only al ⟨cfC, kC, iC, gC⟩, stC⟩
  have hA : Ch b A P.U := ⟨⟨K.1, State.isArrayOf_alike al K.2.1, K.2.2, by omega⟩, hty⟩
  have hS : StaticIs P.U ST "COMPACT_STRINGS" "Z" (.int z) := by
    obtain ⟨cfS, iS, kS, fS, st, cS, t1, t2, t3, t4, t5, t6, t7⟩ := S
    exact StaticIs.there (s := { Z with heap := P.U.heap }) ⟨cfS, iS, kS, fS, st, cS, t1, t2, t3, t4, t5, (fun q => by rw [q] at t6; cases t6), t7⟩ al rfl
  obtain ⟨v, B, X', ⟨⟨hv, E', V', q1, q2, q3, q4, q5, q6, q7, q8, q9, q10, q11⟩, hl, hc, hs⟩, st⟩ := New1.pays x D fV fC b A z (tab_of (moved hZ hw)) hfr hlo m meth c P g ig mk _ X hg hsize hdg hW hn ⟨r1, r2, rfl, hB, F1, F2, hA, hS, hz, l0, l2, hp⟩
  have al' : Z.vm.Alike B.U.vm := hZ.alike.trans X'.warmed.alike
  have hsz : E'.slots.size = D.slots.size := by
    obtain ⟨-, -, -, kB, w1, w2, w3⟩ := q1
    obtain ⟨kB', y1, y2⟩ := al'.2.2 _ _ e3
    rw [q2.2.1] at w1
    cases w1.symm.trans y1
    rw [w3, e5 i3, y2]
  refine ⟨v, B, X', ⟨_, ⟨hv, ?_, ⟨by omega, fun y cy hy hn' => q10 y cy (by simpa using hn') hy, fun y cy hy => ?_⟩, q11, ⟨E', _, q1.1, by rw [q2.2.1]; exact e2, by rw [q2.2.1]; exact e3, by rw [q2.1]; exact obV, fun _ => by rw [hsz]; exact e5 i3⟩,
    ⟨E', cfV, kV, iV, fV, q1.1, gV, stV, by rw [q2.1]; exact knV, by rw [q2.1]; exact obV, by rw [q2.2.1]; exact asV, q3⟩, ⟨E', cfC, kC, iC, fC, q1.1, gC, stC, by rw [q2.1]; exact knV, by rw [q2.1]; exact obV, by rw [q2.2.1]; exact asC, q4⟩,
    ⟨V', ⟨q5.1, State.isArrayOf_alike al'.symm q5.2.1, q5.2.2.1⟩, q6, by rw [← al'.findClass]; exact q7, q8, fun j hj => by have := q9 j hj; rwa [Nat.zero_add] at this⟩, fun O n d w F n1 n2 => ?_⟩, hl, hc, hs⟩, st⟩
  · intro y hy
    simp only [List.mem_cons, List.not_mem_nil, or_false] at hy
    rcases hy with rfl | rfl <;> rfl
  · by_cases q : y = x
    · subst q
      cases hD.symm.trans hy
      exact ⟨E', q1.1, q2.2.1, q2.1, hsz⟩
    · exact ⟨cy, q10 y cy q hy, rfl, rfl, rfl⟩
  · obtain ⟨D3, cf, k, i, f, g1, g2, g3, g4, g5, g6, g7⟩ := F
    cases hD.symm.trans g1
    simp only [RoadKit.slotOf, g2, gV, gC, Option.map_some, Option.getD_some] at n1 n2
    exact ⟨E', cf, k, i, f, q1.1, g2, g3, by rw [q2.1]; exact g4, by rw [q2.1]; exact g5, by rw [q2.2.1]; exact g6, by rw [q2.2.2 f.slot (by simp [n1, n2])]; exact g7⟩
end StrChars.Road
namespace StrChars.Road
open Jvm Sem ClassFile Op Lib Jvm.Stand Jvm.Free Jvm.Free.XT
/-- WHAT COMES BACK, the byte[] as a list of values -/
def QA (Z : State) (x : Addr) (zn : Int32) (cs : List Int32) (h : Heap) (v : Option Value) (h' : Heap) (L : List Loc) : Prop := v = none ∧ (∀ y ∈ L, y.base = x) ∧ RoadKit.Keep h h' [x] ∧ h'.size = h.size + 1 ∧ RoadKit.Exa Z h' x ST ∧ RoadKit.Fld Z h' x ST "value" "[B" (.ref h.size) ∧ RoadKit.Fld Z h' x ST "coder" "B" (.int 0) ∧
  (∃ kb, Z.vm.findClass "[B" = some kb ∧ RoadKit.Arv Z h' h.size kb .byte zn (cs.map fun c => .int (lo8 c)) (.int 0)) ∧
  ∀ (O n d : String) (w : Value), RoadKit.Fld Z h x O n d w → RoadKit.slotOf Z O n d ≠ RoadKit.slotOf Z ST "value" "[B" → RoadKit.slotOf Z O n d ≠ RoadKit.slotOf Z ST "coder" "B" → RoadKit.Fld Z h' x O n d w
/-- **new String(chars) AT A CALL, THE ARRAYS AS LISTS**: the char[] at b holds cs, not empty, no char above 255 -/
theorem backArv {p : Program} {l : Launch} {e : Env} {R : Room} {s : State} {args : Array Value} {below : List Frame} {len W : Nat} {Z : State} {a0 : Array Value} {h : Heap} (hZ : Z.Warmed39 s.vm) (hw : ∀ d ∈ words, d.before a0 Z = true) {kI : Nat} (wi : (Jvm.Cond.instantiable ST kI).before a0 Z = true)
    {x b : Addr} {k : ClassId} {zn z : Int32} {cs : List Int32} {dv v0 c0 : Value} (E : RoadKit.Exa Z h x ST) (V : RoadKit.Fld Z h x ST "value" "[B" v0) (C : RoadKit.Fld Z h x ST "coder" "B" c0) (K : RoadKit.Arv Z h b k .char zn (cs.map Value.int) dv) (S : RoadKit.Sta Z h ST "COMPACT_STRINGS" "Z" (.int z)) (hz : ¬ z = 0)
    (hlen : zn.toNatClampNeg = cs.length) (h0 : 0 < cs.length) (hbig : cs.length ≤ 536870912) (hall : ∀ c ∈ cs, ¬ 255 < c) (hfr : 4 ≤ R.frames) (hlo : W + 65 ≤ R.locals) :
    Back l R p e below s args New1.yN len W (fun P a => a = #[.ref x, .ref b] ∧ P.U.heap = h ∧ P.cells + 1 ≤ R.cells ∧ P.slots + cs.length ≤ R.slots)
      (fun P _ v B => ∃ L, QA Z x zn cs h v B.U.heap L ∧ B.locs = P.locs ++ L ∧ B.cells = P.cells + 1 ∧ B.slots = P.slots + cs.length) := by
  obtain ⟨A, K1, K2, K3, K4, K5, K6⟩ := K
  have e : A.slots.size = cs.length := K3.trans hlen
  have hat : ∀ (i : Nat) (hi : i < cs.length), A.slots[i]? = some (.int cs[i]) := fun i hi => by rw [K5 i (by omega)]; simp [List.getD_eq_getElem?_getD, hi]
  have hcv : ∀ (i : Nat) (hi : i < cs.length), cv A i = cs[i] := fun i hi => by unfold cv; rw [hat i hi]
  have hty : Typed .char A := fun i v hv => by
    have hi : i < A.slots.size := (Array.getElem?_eq_some_iff.mp hv).1
    have q := K5 i hi
    rw [hv] at q
    rw [Option.some.inj q]
    exact K6 i hi
  refine Back.mono (back hZ hw wi E V C K1 hty S hz (by omega) (by omega) (fun i hi => by rw [hcv i (by omega)]; exact hall _ (List.getElem_mem _)) hfr hlo) (fun P a hp => ⟨hp.1, hp.2.1, hp.2.2.1, by rw [e]; exact hp.2.2.2⟩) (fun P a v B hp hq => ?_)
  obtain ⟨L, ⟨q1, q2, q3, q4, q5, q6, q7, ⟨V', v1, v2, v3, v4, v5⟩, q9⟩, hl, hc, hs⟩ := hq
  refine ⟨L, ⟨q1, q2, q3, q4, q5, q6, q7, ⟨V'.cls, v3, V', v1, rfl, by rw [v4, e, hlen], K4, fun i hi => ?_, fun i hi => ?_⟩, q9⟩, hl, hc, by rw [hs, e]⟩
  · have hi' : i < cs.length := by omega
    rw [v5 i (by omega), hcv i hi']; simp [List.getD_eq_getElem?_getD, hi']
  · have hi' : i < cs.length := by omega
    simp only [List.getD_eq_getElem?_getD, List.getElem?_map, List.getElem?_eq_getElem hi', Option.map_some, Option.getD_some]
    exact fits_lo8 _
end StrChars.Road
namespace StrChars.Road
open Jvm Sem ClassFile Op Lib Jvm.Stand Jvm.Free Jvm.Free.XT
/-- WHAT COMES BACK, in the writer's own shape -/
def QV (Z : State) (x : Addr) (N : Int32) (bs : List Int32) (h : Heap) (n0 : Nat) (v : Option Value) (h' : Heap) (L : List Loc) : Prop := v = none ∧ RoadKit.Fr n0 L ∧ RoadKit.Keep h h' [x] ∧ RoadKit.Exa Z h' x ST ∧ RoadKit.Fld Z h' x ST "coder" "B" (.int 0) ∧
  ∃ (t : Addr) (kb : ClassId), n0 ≤ t ∧ h.size ≤ t ∧ ¬ t = x ∧ RoadKit.Fld Z h' x ST "value" "[B" (.ref t) ∧ RoadKit.Arv Z h' t kb .byte N (bs.map Value.int) (.int 0)
/-- **new String(chars) AT A CALL, FOR THE WRITER**: a char[] of n known ints, each 0 to 255 -/
theorem backV {p : Program} {l : Launch} {e : Env} {R : Room} {s : State} {args : Array Value} {below : List Frame} {len W : Nat} {Z : State} {a0 : Array Value} {h : Heap} (hZ : Z.Warmed39 s.vm) (hw : ∀ d ∈ words, d.before a0 Z = true) {kI : Nat} (wi : (Jvm.Cond.instantiable ST kI).before a0 Z = true)
    {x b : Addr} {kC : ClassId} {cs bs : List Int32} {d v0 c0 : Value} {z N : Int32} {n n0 : Nat} (hx0 : n0 ≤ x) (hh0 : n0 ≤ h.size) (E : RoadKit.Exa Z h x ST) (V : RoadKit.Fld Z h x ST "value" "[B" v0) (C : RoadKit.Fld Z h x ST "coder" "B" c0) (K : RoadKit.Arv Z h b kC .char N (cs.map Value.int) d) (S : RoadKit.Sta Z h ST "COMPACT_STRINGS" "Z" (.int z)) (hz : ¬ z = 0)
    (hn : cs.length = n) (hN : N = Int32.ofNat n) (l0 : 0 < n) (l2 : n ≤ 4000) (hp : ∀ c ∈ cs, ¬ c < 0 ∧ ¬ (255 : Int32) < c) (hb : bs = cs.map (fun c => c.toInt8.toInt32)) (hfr : 4 ≤ R.frames) (hlo : W + 65 ≤ R.locals) :
    Back l R p e below s args (⟨"java/lang/String", "<init>", "([C)V"⟩ : MethodName) len W (fun P a => a = #[.ref x, .ref b] ∧ P.U.heap = h ∧ P.cells + 1 ≤ R.cells ∧ P.slots + n ≤ R.slots)
      (fun P _ v B => ∃ L, QV Z x N bs h n0 v B.U.heap L ∧ B.locs = P.locs ++ L ∧ B.cells = P.cells + 1 ∧ B.slots = P.slots + n) := by
  subst hn hN hb
  refine Back.mono (backArv hZ hw wi E V C K S hz (n32 (by omega)) l0 (by omega) (fun c hc => (hp c hc).2) hfr hlo) (fun P a hp => hp) (fun P a v B hp hq => ?_)
  obtain ⟨L, ⟨q1, q2, q3, q4, q5, q6, q7, ⟨kb, v1, v2⟩, q9⟩, hl, hc, hs⟩ := hq
  exact ⟨L, ⟨q1, fun y hy => by rw [q2 y hy]; exact hx0, q3, q5, q7, h.size, kb, hh0, Nat.le_refl _, Nat.ne_of_gt E.lt, q6, by rw [List.map_map]; exact v2⟩, hl, hc, hs⟩
end StrChars.Road
end Jvm.Pilot.@@N@@

namespace Jvm.Pilot.@@N@@
open Jvm Jvm.ClassFile Sem Op Lib Jvm.Free Jvm.Stand Jvm.LawKit Jvm.RoadKit Bundle Jvm.Pilot.@@N@@.Jvm.D
theorem own_gd {l : List Value} {j : Int32} {n : Nat} {d v : Value} (h : j.toNatClampNeg = n) (e : l.getD n d = v) : l.getD j.toNatClampNeg d = v := by rw [h]; exact e
theorem own_lenK {l : List Value} {z : Int32} {n : Nat} (e : l.length = n) (h : z.toNatClampNeg = n) : l.length = z.toNatClampNeg := by rw [e, h]
theorem own_W {n W : Nat} (h : n = W) : 2 * 0 + n ≤ W := by omega
abbrev own_HW (a0 : Array Value) (Z : State) : Prop := ∀ d ∈ tables_1, d.before a0 Z = true
abbrev DK (b : ByteArray) (n : Nat) (i : Instr) (k : Nat) : Prop := decode b n = .ok (i, k)
section OwnFin
variable {p : Program} {l : Launch} {e : Env} {R : Room} {s : State} {m : MethodId} {args : Array Value} {below : List Frame} {meth : Method} {c : Code} {locs : List Loc} {cells slots dc ds : Nat} {s₀ : State} {F : Option Value → JFrame} {Q : Option Value → Heap → List Loc → Prop}
theorem own_fin {g : JFrame} {rest : List Value} (H : ∃ (v : Option Value) (vm₁ : Vm) (B : Pt), s.WarmedH vm₁ ∧ Stand p l e R s m args below meth c B.U B.locs B.cells B.slots ∧ (∃ L, Q v B.U.heap L ∧ B.locs = locs ++ L ∧ B.cells = cells + dc ∧ B.slots = slots + ds) ∧ Steps p.tables e below s₀ (B.U.setTop { g with pc := g.pc + 3, stack := v.toList ++ rest })) :
    ∃ v T' Lc, Stand p l e R s m args below meth c T' (locs ++ Lc) (cells + dc) (slots + ds) ∧ Q v T'.heap Lc ∧ Steps p.tables e below s₀ (T'.setTop { g with pc := g.pc + 3, stack := v.toList ++ rest }) := by
  obtain ⟨v, _, ⟨T', L, k, n⟩, -, X, ⟨Lc, hQ, h1, h2, h3⟩, st⟩ := H
  obtain rfl : L = _ := h1
  obtain rfl : k = _ := h2
  obtain rfl : n = _ := h3
  exact ⟨v, T', Lc, X, hQ, st⟩
theorem own_finI {g : JFrame} {rest : List Value} (H : ∃ (v : Option Value) (vm₁ : Vm) (B : Pt), s.WarmedH vm₁ ∧ Stand p l e R s m args below meth c B.U B.locs B.cells B.slots ∧ (∃ L, Q v B.U.heap L ∧ B.locs = locs ++ L ∧ B.cells = cells + dc ∧ B.slots = slots + ds) ∧ Steps p.tables e below s₀ (B.U.setTop { g with pc := g.pc + 5, stack := v.toList ++ rest })) :
    ∃ v T' Lc, Stand p l e R s m args below meth c T' (locs ++ Lc) (cells + dc) (slots + ds) ∧ Q v T'.heap Lc ∧ Steps p.tables e below s₀ (T'.setTop { g with pc := g.pc + 5, stack := v.toList ++ rest }) := by
  obtain ⟨v, _, ⟨T', L, k, n⟩, -, X, ⟨Lc, hQ, h1, h2, h3⟩, st⟩ := H
  obtain rfl : L = _ := h1
  obtain rfl : k = _ := h2
  obtain rfl : n = _ := h3
  exact ⟨v, T', Lc, X, hQ, st⟩
theorem own_finT {g : JFrame} {rest : List Value} (H : ∃ (v : Option Value) (vm₁ : Vm) (B : Pt), s.WarmedH vm₁ ∧ Stand p l e R s m args below meth c B.U B.locs B.cells B.slots ∧ (∃ L, Q v B.U.heap L ∧ B.locs = locs ++ L ∧ B.cells = cells + dc ∧ B.slots = slots + ds) ∧ ∀ target, Steps p.tables e below (B.U.setTop { g with pc := g.pc + 3, stack := v.toList ++ rest }) target → Steps p.tables e below s₀ target) :
    ∃ v T' Lc, Stand p l e R s m args below meth c T' (locs ++ Lc) (cells + dc) (slots + ds) ∧ Q v T'.heap Lc ∧ ∀ target, Steps p.tables e below (T'.setTop { g with pc := g.pc + 3, stack := v.toList ++ rest }) target → Steps p.tables e below s₀ target := by
  obtain ⟨v, _, ⟨T', L, k, n⟩, -, X, ⟨Lc, hQ, h1, h2, h3⟩, st⟩ := H
  obtain rfl : L = _ := h1
  obtain rfl : k = _ := h2
  obtain rfl : n = _ := h3
  exact ⟨v, T', Lc, X, hQ, st⟩
end OwnFin
abbrev own_MF (l : Launch) (y : MethodName) (b : ByteArray) (ml : Nat) (r : Option FieldType) (ws : List Jvm.Cond) (R : Room) (Z : State) (h0 : Heap) (as : Array Value) (Q : Option Value → Heap → List Loc → Prop) : Prop :=
  MetFree l y (head1 (Jvm.Cond.code y b ml r :: ws) R) (fun a U => a = as ∧ Z.Warmed39 U.vm ∧ U.heap = h0) (fun _ _ _ _ _ => True) (fun _ U o U' => ∃ v L, o = .returned v ∧ Q v U'.heap L ∧ FrameEnd U o U' L R.cells R.slots)
theorem own_open {l : Launch} {y : MethodName} {b : ByteArray} {ml : Nat} {r : Option FieldType} {ws : List Jvm.Cond} {R : Room} {Z : State} {h0 : Heap} {as : Array Value} {Q : Option Value → Heap → List Loc → Prop} (hp : plainFor y = true) {L0 : Array Slot} (hL : ∀ m, entryFrame m as ml = mkF m 0 L0 [])
    (H : ∀ (p : Program) (e : Env) (s : State) (m : MethodId) (below : List Frame) (meth : Method) (c : Code) (s₁ : State), p.tables.exec = Jvm.exec → c.code = b → c.maxLocals = ml → meth.sig.returnType = r → s.methodNamed? y = some m ∧ s.vm.method? m = some meth → Z.Warmed39 s.vm → s.vm.findClass y.cls = some m.cls → Stand p l e R s m as below meth c s₁ [] 0 0 → s₁.heap = h0 →
      ∃ v T L cs sl, (r = none → v = none) ∧ Stand p l e R s m as below meth c T L cs sl ∧ cs ≤ R.cells ∧ sl ≤ R.slots ∧ Q v T.heap L ∧ ∀ fs, (∀ (f : JFrame) (acts : List Action), f.method = m → f.locked = none → f.entered = [] → (doReturn e (T.setTop f) acts v).1 = T.setFrames fs) → Steps p.tables e below (s₁.setTop (mkF m 0 L0 [])) (T.setFrames fs)) :
    own_MF l y b ml r ws R Z h0 as Q := by
  refine MetFree.of_bodySF hp hisR ?_
  intro p e s m args below meth c s₁ Bd hml hP hK
  obtain ⟨rfl, hZ, hh⟩ := hP
  have e0 : s₁.heap = h0 := by rw [← hh, Bd.state]; rfl
  obtain ⟨v, T, L, cs, sl, hv, X, hc, hs, hQ, st⟩ := H p e s m below meth c s₁ Bd.exec Bd.bytes hml Bd.returns ⟨Bd.named, Bd.method⟩ hZ (findClass_of_methodNamed Bd.named) (Stand.of_body Bd) e0
  obtain ⟨fs, hr, hrun, hended, hW, hsame⟩ := X.leave (v := v) (fun q => hv (Bd.returns ▸ q))
  exact ⟨_, _, castTop (hL m) (st fs hr), hrun, hended, v, L, rfl, hQ, ⟨_, rfl⟩, hW, hsame.mono hc hs⟩
section OwnCall
variable {p : Program} {l : Launch} {e : Env} {R : Room} {s : State} {m : MethodId} {args : Array Value} {below : List Frame} {meth : Method} {c : Code} {T : State} {locs : List Loc} {cells slots : Nat} {Z : State} {a0 : Array Value} {h : Heap} {own : String} {index : Nat} {y : MethodName} {bytes : ByteArray} {maxL : Nat} {ret : Option FieldType} {rm : Room} {argsL rest : List Value} {Q : Option Value → Heap → List Loc → Prop} {W : Nat} {g : JFrame}
theorem own_cS (X : Stand p l e R s m args below meth c T locs cells slots) (hx : p.tables.exec = Jvm.exec) (hZ : Z.Warmed39 s.vm) (hown : s.vm.findClass own = some m.cls) (eT : T.heap = h) (hM : own_MF l y bytes maxL ret [] rm Z h argsL.toArray Q)
    (w1 : (Jvm.Cond.methodLink own index y).before a0 Z = true) (w2 : (Jvm.Cond.static y).before a0 Z = true) (w3 : (Jvm.Cond.initialized y.cls).before a0 Z = true) (w4 : (Jvm.Cond.code y bytes maxL ret).before a0 Z = true) (hy : y.cls ≠ "java/lang/invoke/MethodHandle" ∧ y.cls ≠ "java/lang/invoke/VarHandle")
    (hf : rm.frames + 1 ≤ R.frames) (hl : W + (maxL + 11) + rm.locals ≤ R.locals) (hc : cells + rm.cells ≤ R.cells) (hs : slots + rm.slots ≤ R.slots) (hg : g.method = m) (hsize : g.locals.size = c.maxLocals)
    (hlen : ∀ sig, parseMethodDescriptor y.desc = some sig → argsL.length = sig.parameters.length) (hst : g.stack = argsL.reverse ++ rest) (hW : 2 * g.monitorRoom + (rest.map fun v => v.category).sum ≤ W) (hd : decode c.code g.pc = .ok (.invokestatic index, 3)) :
    ∃ v T' Lc, Stand p l e R s m args below meth c T' (locs ++ Lc) (cells + rm.cells) (slots + rm.slots) ∧ Q v T'.heap Lc ∧ ∀ target, Steps p.tables e below (T'.setTop { g with pc := g.pc + 3, stack := v.toList ++ rest }) target → Steps p.tables e below (T.setTop g) target :=
  own_finT (Jvm.LawKit.callS X hx hown (mvT hZ w1) (mvT hZ w2) (mvT hZ w3) (mvT hZ w4) hy (backOf hM hZ w4 w3 hf hl) hg hsize hlen hst hW hd (fun _ _ => ⟨rfl, eT, hc, hs⟩))
theorem own_cV {C : String} {a : Addr} (X : Stand p l e R s m args below meth c T locs cells slots) (hx : p.tables.exec = Jvm.exec) (hZ : Z.Warmed39 s.vm) (hown : s.vm.findClass own = some m.cls) (eT : T.heap = h) (hM : own_MF l y bytes maxL ret [] rm Z h (.ref a :: argsL).toArray Q) (E : Exa Z h a C)
    (w1 : (Jvm.Cond.methodLink own index y).before a0 Z = true) (w2 : (Jvm.Cond.declares y).before a0 Z = true) (w3 : (Jvm.Cond.selects C y y).before a0 Z = true) (w5 : (Jvm.Cond.instanceMethod y).before a0 Z = true) (w4 : (Jvm.Cond.code y bytes maxL ret).before a0 Z = true) (w6 : (Jvm.Cond.initialized y.cls).before a0 Z = true) (hy : y.cls ≠ "java/lang/invoke/MethodHandle" ∧ y.cls ≠ "java/lang/invoke/VarHandle")
    (hf : rm.frames + 1 ≤ R.frames) (hl : W + (maxL + 11) + rm.locals ≤ R.locals) (hc : cells + rm.cells ≤ R.cells) (hs : slots + rm.slots ≤ R.slots) (hg : g.method = m) (hsize : g.locals.size = c.maxLocals)
    (hlen : ∀ sig, parseMethodDescriptor y.desc = some sig → argsL.length = sig.parameters.length) (hst : g.stack = argsL.reverse ++ .ref a :: rest) (hW : 2 * g.monitorRoom + (rest.map fun v => v.category).sum ≤ W) (hd : decode c.code g.pc = .ok (.invokevirtual index, 3)) :
    ∃ v T' Lc, Stand p l e R s m args below meth c T' (locs ++ Lc) (cells + rm.cells) (slots + rm.slots) ∧ Q v T'.heap Lc ∧ ∀ target, Steps p.tables e below (T'.setTop { g with pc := g.pc + 3, stack := v.toList ++ rest }) target → Steps p.tables e below (T.setTop g) target := by
  obtain ⟨cB, kB, q1, q2, q3⟩ := isOf hZ eT E
  obtain ⟨v, T', Lc, X', hQ, st⟩ := own_fin (X.virtualBack hx hown (mvT hZ w1) (mvT hZ w2) (notFace_of_selects (args := #[]) (mvT hZ w3)) (mvT hZ w3) (mvT hZ w5) hy (backOf hM hZ w4 w6 hf hl) q1 q3 hg hsize (Steps.refl _) hlen hst hW hd (fun _ _ => ⟨rfl, eT, hc, hs⟩))
  exact ⟨v, T', Lc, X', hQ, fun t k => st.trans k⟩
theorem own_cI {C : String} {a : Addr} {count : Nat} {xi : MethodName} (X : Stand p l e R s m args below meth c T locs cells slots) (hx : p.tables.exec = Jvm.exec) (hZ : Z.Warmed39 s.vm) (hown : s.vm.findClass own = some m.cls) (eT : T.heap = h) (hM : own_MF l y bytes maxL ret [] rm Z h (.ref a :: argsL).toArray Q) (E : Exa Z h a C)
    (w1 : (Jvm.Cond.methodLink own index xi).before a0 Z = true) (w2 : (Jvm.Cond.declares xi).before a0 Z = true) (w7 : (Jvm.Cond.interfaceMethod xi.cls xi.cls xi.name xi.desc).before a0 Z = true) (w3 : (Jvm.Cond.selects C xi y).before a0 Z = true) (w5 : (Jvm.Cond.instanceMethod y).before a0 Z = true) (w8 : (Jvm.Cond.publicMethod y).before a0 Z = true) (w9 : (Jvm.Cond.unhidden C xi.name xi.desc).before a0 Z = true) (wa : (Jvm.Cond.castable C xi.cls).before a0 Z = true) (w4 : (Jvm.Cond.code y bytes maxL ret).before a0 Z = true) (w6 : (Jvm.Cond.initialized y.cls).before a0 Z = true) (hy : xi.cls ≠ "java/lang/invoke/MethodHandle" ∧ xi.cls ≠ "java/lang/invoke/VarHandle")
    (hf : rm.frames + 1 ≤ R.frames) (hl : W + (maxL + 11) + rm.locals ≤ R.locals) (hc : cells + rm.cells ≤ R.cells) (hs : slots + rm.slots ≤ R.slots) (hg : g.method = m) (hsize : g.locals.size = c.maxLocals)
    (hlen : ∀ sig, parseMethodDescriptor xi.desc = some sig → argsL.length = sig.parameters.length) (hst : g.stack = argsL.reverse ++ .ref a :: rest) (hW : 2 * g.monitorRoom + (rest.map fun v => v.category).sum ≤ W) (hd : decode c.code g.pc = .ok (.invokeinterface index count, 5)) (h7 : ((Jvm.Cond.interfaceMethod xi.cls xi.cls xi.name xi.desc).onTables && (Jvm.Cond.interfaceMethod xi.cls xi.cls xi.name xi.desc).keepsFace) = true := by first | rfl | simp [Cond.onTables, Cond.keepsFace, Cond.keeps, Cond.steady]) :
    ∃ v T' Lc, Stand p l e R s m args below meth c T' (locs ++ Lc) (cells + rm.cells) (slots + rm.slots) ∧ Q v T'.heap Lc ∧ ∀ target, Steps p.tables e below (T'.setTop { g with pc := g.pc + 5, stack := v.toList ++ rest }) target → Steps p.tables e below (T.setTop g) target := by
  obtain ⟨cB, kB, q1, q2, q3⟩ := isOf hZ eT E
  obtain ⟨v, T', Lc, X', hQ, st⟩ := own_finI (X.interfaceBack hx hown (mvT hZ w1) (mvT hZ w2) (mvT hZ w7 h7) (mvT hZ w3) (mvT hZ w5) (mvT hZ w8) (mvT hZ w9) (mvT hZ wa) hy (backOf hM hZ w4 w6 hf hl) q1 q2 q3 hg hsize (Steps.refl _) hlen hst hW hd (fun _ _ => ⟨rfl, eT, hc, hs⟩))
  exact ⟨v, T', Lc, X', hQ, fun t k => st.trans k⟩
end OwnCall
section OwnStep
variable {p : Program} {l : Launch} {e : Env} {R : Room} {s : State} {m : MethodId} {args : Array Value} {below : List Frame} {meth : Method} {c : Code} {T target : State} {locs : List Loc} {cells slots : Nat} {b : ByteArray} {g : JFrame}
theorem qiN (X : Stand p l e R s m args below meth c T locs cells slots) (hx : p.tables.exec = Jvm.exec) (y : c.code = b) {k : Fin 4} {v : Int32} (d : decode b g.pc = .ok (.iload_n k, 1)) (hr : Steps p.tables e below (T.setTop { g with pc := g.pc + 1, stack := .int v :: g.stack }) target) (hg : g.method = m := by rfl) (hl : g.locals[k.val]? = some (.val (.int v)) := by rfl) : Steps p.tables e below (T.setTop g) target := XS.iloadN X.here hx hg (hb y d) hl hr
theorem qi (X : Stand p l e R s m args below meth c T locs cells slots) (hx : p.tables.exec = Jvm.exec) (y : c.code = b) {k : Nat} {v : Int32} (d : decode b g.pc = .ok (.iload k, 2)) (hr : Steps p.tables e below (T.setTop { g with pc := g.pc + 2, stack := .int v :: g.stack }) target) (hg : g.method = m := by rfl) (hl : g.locals[k]? = some (.val (.int v)) := by rfl) : Steps p.tables e below (T.setTop g) target := XS.iload X.here hx hg (hb y d) hl hr
theorem qaN (X : Stand p l e R s m args below meth c T locs cells slots) (hx : p.tables.exec = Jvm.exec) (y : c.code = b) {k : Fin 4} {v : Value} (d : decode b g.pc = .ok (.aload_n k, 1)) (hr : Steps p.tables e below (T.setTop { g with pc := g.pc + 1, stack := v :: g.stack }) target) (hg : g.method = m := by rfl) (hl : g.locals[k.val]? = some (.val v) := by rfl) (hv : v.isRef = true := by rfl) : Steps p.tables e below (T.setTop g) target := XS.aloadN X.here hx hg (hb y d) hl hv hr
theorem qa (X : Stand p l e R s m args below meth c T locs cells slots) (hx : p.tables.exec = Jvm.exec) (y : c.code = b) {k : Nat} {v : Value} (d : decode b g.pc = .ok (.aload k, 2)) (hr : Steps p.tables e below (T.setTop { g with pc := g.pc + 2, stack := v :: g.stack }) target) (hg : g.method = m := by rfl) (hl : g.locals[k]? = some (.val v) := by rfl) (hv : v.isRef = true := by rfl) : Steps p.tables e below (T.setTop g) target := XS.aload X.here hx hg (hb y d) hl hv hr
theorem qc (X : Stand p l e R s m args below meth c T locs cells slots) (hx : p.tables.exec = Jvm.exec) (y : c.code = b) {i : Int} (d : decode b g.pc = .ok (.iconst i, 1)) (hr : Steps p.tables e below (T.setTop { g with pc := g.pc + 1, stack := .int (Int32.ofInt i) :: g.stack }) target) (hg : g.method = m := by rfl) : Steps p.tables e below (T.setTop g) target := XS.iconst X.here hx hg (hb y d) hr
theorem qb (X : Stand p l e R s m args below meth c T locs cells slots) (hx : p.tables.exec = Jvm.exec) (y : c.code = b) {i : Int} (d : decode b g.pc = .ok (.bipush i, 2)) (hr : Steps p.tables e below (T.setTop { g with pc := g.pc + 2, stack := .int (Int8.ofInt i).toInt32 :: g.stack }) target) (hg : g.method = m := by rfl) : Steps p.tables e below (T.setTop g) target := XS.bipush X.here hx hg (hb y d) hr
theorem qd (X : Stand p l e R s m args below meth c T locs cells slots) (hx : p.tables.exec = Jvm.exec) (y : c.code = b) {x : Value} {rest : List Value} (d : decode b g.pc = .ok (.dup, 1)) (hr : Steps p.tables e below (T.setTop { g with pc := g.pc + 1, stack := x :: x :: rest }) target) (hg : g.method = m := by rfl) (hs : g.stack = x :: rest := by rfl) (hc : x.category = 1 := by rfl) : Steps p.tables e below (T.setTop g) target := XS.dup X.here hx hg (hb y d) hs hc hr
end OwnStep
theorem ww {Z : State} {a0 : Array Value} (hw : ∀ d ∈ tables_1, d.before a0 Z = true) (i : Nat) {d : Jvm.Cond} (h : tables_1[i]? = some d) : d.before a0 Z = true := hw d (List.mem_of_getElem? h)
set_option maxRecDepth 65536
set_option maxHeartbeats 40000000
abbrev cs0 : String := "java/lang/AbstractStringBuilder"
abbrev cs1 : String := "(Ljava/lang/String;)Ljava/lang/AbstractStringBuilder;"
abbrev cs2 : String := "(Ljava/lang/String;)Ljava/lang/StringBuilder;"
abbrev cs3 : String := "(Ljava/lang/AbstractStringBuilder;Ljava/lang/Void;)V"
abbrev cs4 : String := "(Ljava/lang/StringBuilder;)V"
abbrev cs5 : String := "com/example/manojo/manojo/QueryTree$Parameter"
abbrev cs6 : String := "(Ljava/lang/String;)Lcom/example/manojo/manojo/QueryTree$Parameter;"
abbrev cs7 : String := "jdk/internal/util/Preconditions"
abbrev cs8 : String := "Ljava/util/function/BiFunction;"
abbrev rR1_4_8_12 : Room := { frames := 1, cells := 4, slots := 8, locals := 12 }
abbrev rR2_4_8_29 : Room := { frames := 2, cells := 4, slots := 8, locals := 29 }
abbrev rR1_1_16_12 : Room := { frames := 1, cells := 1, slots := 16, locals := 12 }
abbrev rR2_1_16_25 : Room := { frames := 2, cells := 1, slots := 16, locals := 25 }
abbrev rR0_0_0_0 : Room := { frames := 0, cells := 0, slots := 0, locals := 0 }
abbrev rR1_0_0_13 : Room := { frames := 1, cells := 0, slots := 0, locals := 13 }
abbrev rR1_0_0_24 : Room := { frames := 1, cells := 0, slots := 0, locals := 24 }
abbrev rR2_0_0_39 : Room := { frames := 2, cells := 0, slots := 0, locals := 39 }
abbrev rR3_0_0_53 : Room := { frames := 3, cells := 0, slots := 0, locals := 53 }
abbrev rR4_0_0_67 : Room := { frames := 4, cells := 0, slots := 0, locals := 67 }
abbrev rR1_0_0_12 : Room := { frames := 1, cells := 0, slots := 0, locals := 12 }
abbrev rR1_1_16_24 : Room := { frames := 1, cells := 1, slots := 16, locals := 24 }
abbrev rR2_1_16_40 : Room := { frames := 2, cells := 1, slots := 16, locals := 40 }
abbrev rR3_1_16_55 : Room := { frames := 3, cells := 1, slots := 16, locals := 55 }
abbrev rR4_1_16_71 : Room := { frames := 4, cells := 1, slots := 16, locals := 71 }
abbrev rR5_2_20_85 : Room := { frames := 5, cells := 2, slots := 20, locals := 85 }
abbrev rR2_0_0_24 : Room := { frames := 2, cells := 0, slots := 0, locals := 24 }
abbrev rR6_7_49_99 : Room := { frames := 6, cells := 7, slots := 49, locals := 99 }
abbrev rR1_0_0_14 : Room := { frames := 1, cells := 0, slots := 0, locals := 14 }
abbrev rR2_0_0_27 : Room := { frames := 2, cells := 0, slots := 0, locals := 27 }
abbrev rR3_0_0_40 : Room := { frames := 3, cells := 0, slots := 0, locals := 40 }
abbrev rR1_1_2_12 : Room := { frames := 1, cells := 1, slots := 2, locals := 12 }
abbrev rR2_1_2_24 : Room := { frames := 2, cells := 1, slots := 2, locals := 24 }
abbrev rR3_2_3_40 : Room := { frames := 3, cells := 2, slots := 3, locals := 40 }
abbrev rR4_2_3_57 : Room := { frames := 4, cells := 2, slots := 3, locals := 57 }
abbrev rR5_2_3_74 : Room := { frames := 5, cells := 2, slots := 3, locals := 74 }
abbrev rR1_1_32_12 : Room := { frames := 1, cells := 1, slots := 32, locals := 12 }
abbrev rR1_0_0_15 : Room := { frames := 1, cells := 0, slots := 0, locals := 15 }
abbrev rR2_0_0_29 : Room := { frames := 2, cells := 0, slots := 0, locals := 29 }
abbrev rR3_0_0_43 : Room := { frames := 3, cells := 0, slots := 0, locals := 43 }
abbrev rR4_0_0_60 : Room := { frames := 4, cells := 0, slots := 0, locals := 60 }
abbrev rR5_1_32_76 : Room := { frames := 5, cells := 1, slots := 32, locals := 76 }
abbrev rR6_1_32_89 : Room := { frames := 6, cells := 1, slots := 32, locals := 89 }
abbrev rR7_1_32_102 : Room := { frames := 7, cells := 1, slots := 32, locals := 102 }
abbrev rR8_1_32_116 : Room := { frames := 8, cells := 1, slots := 32, locals := 116 }
abbrev rR9_1_32_130 : Room := { frames := 9, cells := 1, slots := 32, locals := 130 }
abbrev rR10_8_81_145 : Room := { frames := 10, cells := 8, slots := 81, locals := 145 }
abbrev rR4_0_0_53 : Room := { frames := 4, cells := 0, slots := 0, locals := 53 }
abbrev rR1_1_4_12 : Room := { frames := 1, cells := 1, slots := 4, locals := 12 }
abbrev rR2_1_4_24 : Room := { frames := 2, cells := 1, slots := 4, locals := 24 }
abbrev rR3_2_6_40 : Room := { frames := 3, cells := 2, slots := 6, locals := 40 }
abbrev rR4_2_6_57 : Room := { frames := 4, cells := 2, slots := 6, locals := 57 }
abbrev rR5_2_6_74 : Room := { frames := 5, cells := 2, slots := 6, locals := 74 }
abbrev rR1_1_6_12 : Room := { frames := 1, cells := 1, slots := 6, locals := 12 }
abbrev rR2_1_6_24 : Room := { frames := 2, cells := 1, slots := 6, locals := 24 }
abbrev rR3_2_9_40 : Room := { frames := 3, cells := 2, slots := 9, locals := 40 }
abbrev rR4_2_9_57 : Room := { frames := 4, cells := 2, slots := 9, locals := 57 }
abbrev rR5_2_9_74 : Room := { frames := 5, cells := 2, slots := 9, locals := 74 }
abbrev mN0 : MethodName := ⟨"java/lang/String", "<init>", "([CIILjava/lang/Void;)V"⟩
abbrev mN1 : MethodName := ⟨"java/lang/String", "<init>", "([C)V"⟩
abbrev mN2 : MethodName := ⟨cs0, "<init>", "(I)V"⟩
abbrev mN3 : MethodName := ⟨"java/lang/StringBuilder", "<init>", "()V"⟩
abbrev mN4 : MethodName := ⟨"java/lang/String", "coder", "()B"⟩
abbrev mN5 : MethodName := ⟨"java/lang/String", "length", "()I"⟩
abbrev mN6 : MethodName := ⟨cs0, "ensureCapacityInternal", "(I)V"⟩
abbrev mN7 : MethodName := ⟨cs0, "inflateIfNeededFor", "(Ljava/lang/String;)V"⟩
abbrev mN8 : MethodName := ⟨"java/lang/String", "getBytes", "([BIB)V"⟩
abbrev mN9 : MethodName := ⟨cs0, "putStringAt", "(ILjava/lang/String;)V"⟩
abbrev mN10 : MethodName := ⟨cs0, "append", cs1⟩
abbrev mN11 : MethodName := ⟨"java/lang/StringBuilder", "append", cs2⟩
abbrev mN12 : MethodName := ⟨cs0, "getValue", "()[B"⟩
abbrev mN13 : MethodName := ⟨cs0, "length", "()I"⟩
abbrev mN14 : MethodName := ⟨"java/lang/StringBuilder", "length", "()I"⟩
abbrev mN15 : MethodName := ⟨cs0, "isLatin1", "()Z"⟩
abbrev mN16 : MethodName := ⟨"java/util/Arrays", "checkLength", "(II)V"⟩
abbrev mN17 : MethodName := ⟨"java/lang/Math", "min", "(II)I"⟩
abbrev mN18 : MethodName := ⟨"java/util/Arrays", "copyOfRangeByte", "([BII)[B"⟩
abbrev mN19 : MethodName := ⟨"java/util/Arrays", "copyOfRange", "([BII)[B"⟩
abbrev mN20 : MethodName := ⟨"java/lang/String", "<init>", cs3⟩
abbrev mN21 : MethodName := ⟨"java/lang/String", "<init>", cs4⟩
abbrev mN22 : MethodName := ⟨"java/lang/StringBuilder", "toString", "()Ljava/lang/String;"⟩
abbrev mN23 : MethodName := ⟨"java/lang/Record", "<init>", "()V"⟩
abbrev mN24 : MethodName := ⟨cs5, "<init>", "(Ljava/lang/String;)V"⟩
abbrev mN25 : MethodName := ⟨cs5, "named", cs6⟩
abbrev mN26 : MethodName := ⟨cs5, "name", "()Ljava/lang/String;"⟩
abbrev mN27 : MethodName := ⟨"java/lang/String", "isLatin1", "()Z"⟩
abbrev mN28 : MethodName := ⟨cs7, "checkIndex", "(IILjava/util/function/BiFunction;)I"⟩
abbrev mN29 : MethodName := ⟨"java/lang/String", "checkIndex", "(II)V"⟩
abbrev mN30 : MethodName := ⟨"java/lang/StringLatin1", "charAt", "([BI)C"⟩
abbrev mN31 : MethodName := ⟨"java/lang/String", "charAt", "(I)C"⟩
abbrev mN32 : MethodName := ⟨"java/lang/StringUTF16", "compress", "([CI[BII)I"⟩
abbrev mN33 : MethodName := ⟨"java/lang/StringUTF16", "newBytesLength", "(I)I"⟩
abbrev mN34 : MethodName := ⟨"java/lang/StringUTF16", "newBytesFor", "(I)[B"⟩
abbrev mN35 : MethodName := ⟨"java/lang/StringUTF16", "putChar", "([BII)V"⟩
abbrev mN36 : MethodName := ⟨"java/lang/StringUTF16", "toBytes", "([CII)[B"⟩
abbrev mN37 : MethodName := ⟨"java/lang/StringUTF16", "getChar", "([BI)C"⟩
abbrev mN38 : MethodName := ⟨"java/lang/StringUTF16", "compress", "([CII)[B"⟩
abbrev mN39 : MethodName := ⟨"java/lang/StringUTF16", "coderFromArrayLen", "([BI)B"⟩
abbrev mN40 : MethodName := ⟨"java/lang/StringUTF16", "length", "([B)I"⟩
abbrev mN41 : MethodName := ⟨cs7, "checkFromIndexSize", "(IIILjava/util/function/BiFunction;)I"⟩
abbrev mN42 : MethodName := ⟨"java/lang/String", "checkBoundsOffCount", "(III)I"⟩
abbrev mN43 : MethodName := ⟨"java/lang/StringUTF16", "checkBoundsOffCount", "(II[B)V"⟩
abbrev mN44 : MethodName := ⟨"java/lang/StringUTF16", "inflate", "([BI[BII)V"⟩
abbrev mN45 : MethodName := ⟨"java/lang/StringLatin1", "inflate", "([BI[BII)V"⟩
abbrev mN46 : MethodName := ⟨cs0, "inflate", "()V"⟩
abbrev mN47 : MethodName := ⟨"java/lang/StringUTF16", "checkIndex", "(I[B)V"⟩
abbrev mN48 : MethodName := ⟨"java/lang/StringUTF16", "charAt", "([BI)C"⟩
abbrev cB1 : ByteArray := jdk_42_method_3_code
abbrev cB2 : ByteArray := jdk_42_method_149_code
abbrev cB4 : ByteArray := prog_22_method_2_code
abbrev cB5 : ByteArray := jdk_67_method_1_code
abbrev cB6 : ByteArray := jdk_68_method_2_code
abbrev cB7 : ByteArray := jdk_67_method_7_code
abbrev cB8 : ByteArray := jdk_68_method_22_code
abbrev cB9 : ByteArray := jdk_42_method_54_code
abbrev cB10 : ByteArray := jdk_42_method_152_code
abbrev cB11 : ByteArray := jdk_68_method_9_code
abbrev cB12 : ByteArray := jdk_68_method_73_code
abbrev cB13 : ByteArray := jdk_68_method_71_code
abbrev cB14 : ByteArray := jdk_42_method_147_code
abbrev cB15 : ByteArray := jdk_67_method_42_code
abbrev cB16 : ByteArray := jdk_42_method_53_code
abbrev cB17 : ByteArray := jdk_42_method_150_code
abbrev cB18 : ByteArray := jdk_68_method_64_code
abbrev cB19 : ByteArray := jdk_67_method_93_code
abbrev cB20 : ByteArray := jdk_68_method_6_code
abbrev cB21 : ByteArray := jdk_68_method_68_code
abbrev cB22 : ByteArray := jdk_65_method_132_code
abbrev cB23 : ByteArray := jdk_65_method_133_code
abbrev cB24 : ByteArray := jdk_65_method_131_code
abbrev cB25 : ByteArray := jdk_29_method_69_code
abbrev cB26 : ByteArray := prog_22_method_1_code
abbrev cB27 : ByteArray := jdk_30_method_1_code
abbrev cB28 : ByteArray := prog_22_method_7_code
abbrev cB29 : ByteArray := jdk_42_method_56_code
abbrev cB30 : ByteArray := jdk_42_method_154_code
abbrev cB31 : ByteArray := jdk_43_method_2_code
abbrev cB32 : ByteArray := jdk_42_method_155_code
abbrev cB33 : ByteArray := jdk_41_method_11_code
abbrev cB34 : ByteArray := jdk_52_method_16_code
abbrev cB35 : ByteArray := jdk_52_method_21_code
abbrev cB37 : ByteArray := jdk_52_method_14_code
abbrev cB38 : ByteArray := jdk_52_method_2_code
abbrev cB39 : ByteArray := jdk_52_method_3_code
abbrev cB40 : ByteArray := jdk_52_method_4_code
abbrev cB41 : ByteArray := jdk_52_method_5_code
abbrev cB36 : ByteArray := jdk_52_method_15_code
abbrev cB42 : ByteArray := jdk_68_method_11_code
abbrev cB43 : ByteArray := jdk_43_method_50_code
abbrev cB44 : ByteArray := jdk_52_method_86_code
abbrev cB45 : ByteArray := jdk_52_method_94_code
abbrev cB46 : ByteArray := jdk_52_method_6_code
abbrev cB47 : ByteArray := jdk_42_method_157_code
abbrev cB48 : ByteArray := jdk_41_method_13_code
abbrev cB49 : ByteArray := jdk_52_method_83_code
abbrev cB50 : ByteArray := jdk_52_method_91_code
abbrev lI (x : Int32) : Slot := .val (.int x)
abbrev lR (x : Addr) : Slot := .val (.ref x)
abbrev lV (x : Value) : Slot := .val x
abbrev lU : Slot := .unset
abbrev SG (p : Program) (e : Env) (below : List Frame) (T : State) (f : JFrame) (t : State) : Prop := Steps p.tables e below (T.setTop f) t
abbrev vI0 : Value := .int (0 : Int32)
abbrev vI1 : Value := .int (1 : Int32)
abbrev vI2 : Value := .int (2 : Int32)
abbrev vI3 : Value := .int (3 : Int32)
abbrev vI4 : Value := .int (4 : Int32)
abbrev vI5 : Value := .int (5 : Int32)
abbrev vI6 : Value := .int (6 : Int32)
abbrev vI8 : Value := .int (8 : Int32)
abbrev vI16 : Value := .int (16 : Int32)
abbrev vI32 : Value := .int (32 : Int32)
abbrev vI58 : Value := .int (58 : Int32)
abbrev vI255 : Value := .int (255 : Int32)
def own_at (l : List Value) (j : Nat) : Int32 := match l.getD j (.int 0) with
  | .int x => x
  | _ => 0
theorem own_atN {l : List Value} {j : Int32} {n : Nat} {x y : Int32} (h : j.toNatClampNeg = n) (e : l.getD n (.int 0) = .int x) (hn : ¬ x = y) : ¬ own_at l j.toNatClampNeg = y := by
  rw [h]; unfold own_at; rw [e]; exact hn
theorem own_padZ {Z : State} {h : Heap} {a : Addr} {k : ClassId} {ty : FieldType} {z : Int32} {d : Value} (A : Arv Z h a k ty z [] d) (n : Nat) : Arv Z h a k ty z (List.replicate n d) d := A.pad (pad_rep [] d n)
theorem own_cpAll {Z : State} {h : Heap} {a : Addr} {k : ClassId} {ty : FieldType} {z nn : Int32} {vs : List Value} {d dv : Value} {m : Nat} (hz : nn.toNatClampNeg = z.toNatClampNeg)
    (B : Arv Z h a k ty z ((List.replicate m d).take (0 : Int32).toNatClampNeg ++ ((List.range nn.toNatClampNeg).map fun i => vs.getD ((0 : Int32).toNatClampNeg + i) dv) ++ (List.replicate m d).drop ((0 : Int32).toNatClampNeg + nn.toNatClampNeg)) d) : Arv Z h a k ty z vs dv := by
  obtain ⟨c, A, q1, q2, q3, H, G⟩ := B
  have e0 : (0 : Int32).toNatClampNeg = 0 := rfl
  have key : ∀ i, i < c.slots.size → ((List.replicate m d).take (0 : Int32).toNatClampNeg ++ ((List.range nn.toNatClampNeg).map fun i => vs.getD ((0 : Int32).toNatClampNeg + i) dv) ++ (List.replicate m d).drop ((0 : Int32).toNatClampNeg + nn.toNatClampNeg)).getD i d = vs.getD i dv := fun i hi => by
    rw [q2, ← hz] at hi
    rw [e0, List.take_zero, List.nil_append, List.getD_eq_getElem?_getD, List.getElem?_append_left (by simpa using hi)]
    simp [List.getElem?_range hi]
  exact ⟨c, A, q1, q2, q3, fun i hi => by rw [H i hi, key i hi], fun i hi => by rw [← key i hi]; exact G i hi⟩
theorem own_cpFront {Z : State} {h : Heap} {a : Addr} {k : ClassId} {ty : FieldType} {z nn : Int32} {vs : List Value} {d : Value} (hz : vs.length = nn.toNatClampNeg)
    (B : Arv Z h a k ty z ((List.replicate nn.toNatClampNeg d).take (0 : Int32).toNatClampNeg ++ ((List.range nn.toNatClampNeg).map fun i => vs.getD ((0 : Int32).toNatClampNeg + i) d) ++ (List.replicate nn.toNatClampNeg d).drop ((0 : Int32).toNatClampNeg + nn.toNatClampNeg)) d) : Arv Z h a k ty z vs d := by
  have e0 : (0 : Int32).toNatClampNeg = 0 := rfl
  refine B.pad fun i => ?_
  rw [e0, List.take_zero, List.nil_append, Nat.zero_add, List.drop_eq_nil_of_le (by simp), List.append_nil, List.getD_eq_getElem?_getD, List.getD_eq_getElem?_getD]
  by_cases hi : i < nn.toNatClampNeg
  · simp [List.getElem?_range hi]
  · rw [List.getElem?_eq_none (show vs.length ≤ i by rw [hz]; omega), List.getElem?_eq_none (by rw [List.length_map, List.length_range]; omega)]
theorem own_wordsIn : ∀ d ∈ StrChars.Road.words, d ∈ tables_1 := by decide +kernel
theorem own_ac0 {P : Int32 → Prop} : ∀ c ∈ ([] : List Int32), P c := fun _ h => by cases h
theorem own_acS {P : Int32 → Prop} {a : Int32} {l : List Int32} (h : P a) (t : ∀ c ∈ l, P c) : ∀ c ∈ a :: l, P c := fun c hc => by
  rcases List.mem_cons.mp hc with rfl | hc
  · exact h
  · exact t c hc
theorem own_bs0 : ([] : List Int32).map (fun c => Value.int (c.toInt8.toInt32)) = [] := rfl
theorem own_bsS {c b : Int32} {cs : List Int32} {vs : List Value} (h : c.toInt8.toInt32 = b) (t : cs.map (fun c => Value.int (c.toInt8.toInt32)) = vs) : (c :: cs).map (fun c => Value.int (c.toInt8.toInt32)) = .int b :: vs := by rw [List.map_cons, t, h]
def own_QS (Z : State) (x : Addr) (N : Int32) (bs : List Value) (h : Heap) (n0 : Nat) (v : Option Value) (h' : Heap) (L : List Loc) : Prop := ∃ (b : Addr) (k : ClassId), v = none ∧ Fr n0 L ∧ Keep h h' [x] ∧ Fld Z h' x "java/lang/String" "coder" "B" (.int 0) ∧ Fld Z h' x "java/lang/String" "value" "[B" (.ref b) ∧ h.size ≤ b ∧ Arv Z h' b k .byte N bs (.int 0) ∧ Exa Z h' b "[B" ∧
  ∀ (O n d : String) (w : Value), Fld Z h x O n d w → Jvm.RoadKit.slotOf Z O n d ≠ Jvm.RoadKit.slotOf Z "java/lang/String" "value" "[B" → Jvm.RoadKit.slotOf Z O n d ≠ Jvm.RoadKit.slotOf Z "java/lang/String" "coder" "B" → Fld Z h' x O n d w
theorem own_newStr {p : Program} {l : Launch} {e : Env} {R : Room} {s : State} {args : Array Value} {below : List Frame} {len W : Nat} {Z : State} {a0 : Array Value} {h : Heap} (hZ : Z.Warmed39 s.vm) (hw : own_HW a0 Z) {kI : Nat} (wi : (Jvm.Cond.instantiable "java/lang/String" kI).before a0 Z = true)
    {x b : Addr} {k : ClassId} {N z : Int32} {cs : List Int32} {bs : List Value} {dv v0 c0 : Value} {n n0 : Nat} (hx0 : n0 ≤ x) (E : Exa Z h x "java/lang/String") (V : Fld Z h x "java/lang/String" "value" "[B" v0) (C : Fld Z h x "java/lang/String" "coder" "B" c0) (K : Arv Z h b k .char N (cs.map Value.int) dv) (S : Sta Z h "java/lang/String" "COMPACT_STRINGS" "Z" (.int z)) (hz : ¬ z = 0)
    (hn : cs.length = n) (hlen : N.toNatClampNeg = n) (h0 : 0 < n) (hbig : n ≤ 4000) (hall : ∀ c ∈ cs, ¬ 255 < c) (hb : cs.map (fun c => Value.int (c.toInt8.toInt32)) = bs) (hfr : 4 ≤ R.frames) (hlo : W + 65 ≤ R.locals) :
    Back l R p e below s args (⟨"java/lang/String", "<init>", "([C)V"⟩ : MethodName) len W (fun P a => a = #[.ref x, .ref b] ∧ P.U.heap = h ∧ P.cells + 1 ≤ R.cells ∧ P.slots + n ≤ R.slots)
      (fun P _ v B => ∃ L, own_QS Z x N bs h n0 v B.U.heap L ∧ B.locs = P.locs ++ L ∧ B.cells = P.cells + 1 ∧ B.slots = P.slots + n) := by
  subst hn hb
  refine Back.mono (StrChars.Road.backArv hZ (fun d hd => hw d (own_wordsIn d hd)) wi E V C K S hz hlen h0 (by omega) hall hfr hlo) (fun P a hp => hp) (fun P a v B hp hq => ?_)
  obtain ⟨L, ⟨q1, q2, q3, q4, q5, q6, q7, ⟨kb, v1, v2⟩, q9⟩, hl, hc, hs⟩ := hq
  refine ⟨L, ⟨h.size, kb, q1, fun y hy => by rw [q2 y hy]; exact hx0, q3, q7, q6, Nat.le_refl _, v2, ?_, q9⟩, hl, hc, hs⟩
  obtain ⟨cA, Ar, r1, r2, r3, r4, r5⟩ := v2
  obtain ⟨a1, kA, a2, comp, a3⟩ := Ar.2.1
  refine ⟨cA, kA, Ar.1, by rw [r1]; exact v1, a2, ?_, fun q => ?_⟩
  · cases hv : cA.vm <;> simp_all [VmData.isStatics]
  · rw [a3] at q; cases q
theorem own_trunc {Z : State} {h : Heap} {a : Addr} {k : ClassId} {ty : FieldType} {z : Int32} {ws rest : List Value} {d : Value} (hz : ws.length = z.toNatClampNeg) (A : Arv Z h a k ty z (ws ++ rest) d) : Arv Z h a k ty z ws d := by
  obtain ⟨c, A, q1, q2, q3, H, G⟩ := A
  have key : ∀ i, i < c.slots.size → (ws ++ rest).getD i d = ws.getD i d := fun i hi => by
    rw [List.getD_eq_getElem?_getD, List.getD_eq_getElem?_getD, List.getElem?_append_left (by omega)]
  exact ⟨c, A, q1, q2, q3, fun i hi => by rw [H i hi, key i hi], fun i hi => by rw [← key i hi]; exact G i hi⟩
theorem own_eqr {args : Array Value} {Z : State} {a b : Term} {x : Addr} (hb : b.eval args Z none [] Z = some (.ref x)) (h : (Jvm.Cond.eq a b).value args Z none Z [] = some true) : a.eval args Z none [] Z = some (.ref x) := by
  obtain ⟨u, w, e1, e2, k1, k2⟩ := cmp_v (Or.inl h)
  cases hb.symm.trans e2
  have hu : u.isRef = true := by cases u <;> simp [Kin, Value.isRef] at k1 k2 ⊢
  have := gotT (eq_R e1 e2 hu rfl) h
  rw [e1, this]
theorem own_len {args : Array Value} {Z : State} {t : Term} {x : Addr} {cl : Cell} {ty : FieldType} {n : Int32} (h : (Jvm.Cond.eq (.length t) (.int n)).value args Z none Z [] = some true) (ht : t.eval args Z none [] Z = some (.ref x)) (A : Arr Z Z.heap x cl ty) : cl.slots.size < 2 ^ 31 ∧ cl.slots.size.toInt32 = n := by
  have e1 := eqv_i (y := n) rfl h
  have ha := Arr.fin (Vm.Alike.refl _) A
  have hl : cl.slots.size < 2 ^ 31 := by
    by_cases q : cl.slots.size < 2 ^ 31
    · exact q
    · simp [Term.eval, ht, ha, q] at e1
  rw [len_f ht ha hl] at e1
  exact ⟨hl, by simpa using e1⟩
theorem own_all {args : Array Value} {Z : State} {t : Term} {a : Addr} {c : Cell} {ty : FieldType} {K : String} {B : Jvm.Cond} (et : ∀ idx, t.eval args Z none idx Z = some (.ref a)) (A : Arr Z Z.heap a c ty)
    (h : (Jvm.Cond.all t (.and (.exactly (.elem t (.index 0)) K) B)).value args Z none Z [] = some true) : ∀ j : Int32, ¬ (j < 0 ∨ c.slots.size ≤ j.toNatClampNeg) → ∃ r : Addr, c.slots[j.toNatClampNeg]? = some (.ref r) := fun j hj => by
  have nn : ¬ j < 0 := fun x => hj (Or.inl x)
  obtain ⟨u1, -⟩ := and_e (Cond.all_elim (et []) (A.fin (Vm.Alike.refl _)) h j.toNatClampNeg (Nat.lt_of_not_le fun x => hj (Or.inr x)))
  obtain ⟨box, eb⟩ := exa_v u1
  exact ⟨box, (elem_f (et _) (idx_at nn) (A.fin (Vm.Alike.refl _)) nn).symm.trans eb⟩
theorem own_size {c : Cell} {n : Int32} {k : Nat} (h : c.slots.size < 2 ^ 31 ∧ c.slots.size.toInt32 = n) (hn : n.toNatClampNeg = k) : c.slots.size = k := by
  have e := len_toInt h.1
  rw [h.2] at e
  rw [← hn, Int32.toNatClampNeg, e]; rfl
theorem own_EW {Z : State} {a0 : Array Value} (hw : own_HW a0 Z) : EW Z a0 consts_1 := (EW.cons (ww hw 47 rfl) (by decide) (EW.cons (ww hw 15 rfl) (by decide) EW.nil))
theorem own_and3 (x : Int32) : (x &&& (3 : Int32)) = (0 : Int32) ∨ (x &&& (3 : Int32)) = (1 : Int32) ∨ (x &&& (3 : Int32)) = (2 : Int32) ∨ (x &&& (3 : Int32)) = (3 : Int32) := by
  have h : ∀ y : BitVec 32, (y &&& 3#32) = 0#32 ∨ (y &&& 3#32) = 1#32 ∨ (y &&& 3#32) = 2#32 ∨ (y &&& 3#32) = 3#32 := fun y => by
    have e : (y &&& 3#32).toNat = y.toNat % 4 := by rw [BitVec.toNat_and]; exact Nat.and_two_pow_sub_one_eq_mod y.toNat 2
    have hl : y.toNat % 4 < 4 := Nat.mod_lt _ (by decide)
    have : (y &&& 3#32).toNat = 0 ∨ (y &&& 3#32).toNat = 1 ∨ (y &&& 3#32).toNat = 2 ∨ (y &&& 3#32).toNat = 3 := by omega
    rcases this with h | h | h | h
    · exact Or.inl (BitVec.eq_of_toNat_eq h)
    · exact Or.inr (Or.inl (BitVec.eq_of_toNat_eq h))
    · exact Or.inr (Or.inr (Or.inl (BitVec.eq_of_toNat_eq h)))
    · exact Or.inr (Or.inr (Or.inr (BitVec.eq_of_toNat_eq h)))
  rcases h x.toBitVec with q | q | q | q
  · exact Or.inl (Int32.toBitVec_inj.mp q)
  · exact Or.inr (Or.inl (Int32.toBitVec_inj.mp q))
  · exact Or.inr (Or.inr (Or.inl (Int32.toBitVec_inj.mp q)))
  · exact Or.inr (Or.inr (Or.inr (Int32.toBitVec_inj.mp q)))
theorem own_i2c {k : Nat} (hk : k < 65536) : (Int32.ofNat k).toUInt32.toUInt16.toUInt32.toInt32 = Int32.ofNat k := by
  apply Int32.toInt_inj.mp
  rw [Int32.toInt_ofNat_small (by omega)]
  have h1 : (Int32.ofNat k).toUInt32.toNat = k := by
    show (BitVec.ofNat 32 k).toNat = k
    rw [BitVec.toNat_ofNat]; omega
  have h2 : (Int32.ofNat k).toUInt32.toUInt16.toUInt32.toNat = k := by
    rw [UInt16.toNat_toUInt32, UInt32.toNat_toUInt16, h1]; omega
  show ((Int32.ofNat k).toUInt32.toUInt16.toUInt32).toBitVec.toInt = _
  rw [BitVec.toInt_eq_toNat_of_lt (by show 2 * ((Int32.ofNat k).toUInt32.toUInt16.toUInt32).toNat < _; rw [h2]; omega)]
  show (((Int32.ofNat k).toUInt32.toUInt16.toUInt32).toNat : Int) = _
  rw [h2]
theorem own_lo8 (v : Int32) : (v.toInt8.toInt32) &&& (255 : Int32) = v &&& (255 : Int32) := by
  apply Int32.toBitVec_inj.mp
  show ((v.toBitVec.signExtend 8).signExtend 32) &&& 255#32 = v.toBitVec &&& 255#32
  apply BitVec.eq_of_getLsbD_eq
  intro i hi
  have h255 : (255#32).getLsbD i = decide (i < 8) := by
    have : ∀ i : Fin 32, (255#32).getLsbD i.val = decide (i.val < 8) := by decide
    exact this ⟨i, hi⟩
  rw [BitVec.getLsbD_and, BitVec.getLsbD_and, h255]
  by_cases h8 : i < 8
  · simp only [BitVec.getLsbD_signExtend, h8, hi, decide_true, Bool.and_true, Bool.true_and, if_true]
  · simp [h8]
theorem own_shr8 {k : Nat} (hk : k < 65536) : (Int32.ofNat k) >>> ((8 : Int32) &&& 31) = Int32.ofNat (k / 256) := by
  apply Int32.toInt_inj.mp
  rw [Int32.toInt_ofNat_small (by omega)]
  show (BitVec.sshiftRight (BitVec.ofNat 32 k) 8).toInt = _
  rw [BitVec.toInt_sshiftRight]
  have h : (BitVec.ofNat 32 k).toInt = (k : Int) := Int32.toInt_ofNat_small (by omega)
  rw [h, Int.shiftRight_eq_div_pow]; omega
theorem own_and255k (k : Nat) (hk : k < 65536) : Int32.ofNat k &&& (255 : Int32) = Int32.ofNat (k % 256) := by
  apply Int32.toBitVec_inj.mp
  show BitVec.ofNat 32 k &&& 255#32 = BitVec.ofNat 32 (k % 256)
  apply BitVec.eq_of_toNat_eq
  simp only [BitVec.toNat_and, BitVec.toNat_ofNat]
  have := Nat.and_two_pow_sub_one_eq_mod (k % 2 ^ 32) 8
  rw [show (255 : Nat) % 2 ^ 32 = 2 ^ 8 - 1 from rfl, this]; omega
theorem own_or {k : Nat} (hk : k < 65536) : ((Int32.ofNat (k % 256)) <<< ((0 : Int32) &&& 31)) ||| ((Int32.ofNat (k / 256)) <<< ((8 : Int32) &&& 31)) = Int32.ofNat k := by
  apply Int32.toBitVec_inj.mp
  show (BitVec.ofNat 32 (k % 256) <<< (0 : Nat)) ||| (BitVec.ofNat 32 (k / 256) <<< (8 : Nat)) = BitVec.ofNat 32 k
  apply BitVec.eq_of_toNat_eq
  rw [BitVec.toNat_or, BitVec.toNat_shiftLeft, BitVec.toNat_shiftLeft, BitVec.toNat_ofNat, BitVec.toNat_ofNat, BitVec.toNat_ofNat]
  have h1 : k % 256 % 2 ^ 32 = k % 256 := by omega
  have h2 : k / 256 % 2 ^ 32 = k / 256 := by omega
  rw [h1, h2, Nat.shiftLeft_zero, Nat.mod_eq_of_lt (show k % 256 < 2 ^ 32 by omega)]
  have h3 : (k / 256) <<< 8 = k / 256 * 256 := Nat.shiftLeft_eq _ _
  rw [h3, Nat.mod_eq_of_lt (show k / 256 * 256 < 2 ^ 32 by omega), Nat.or_comm]
  have h4 := Nat.shiftLeft_add_eq_or_of_lt (show k % 256 < 2 ^ 8 by omega) (k / 256)
  rw [h3] at h4
  rw [← h4]; omega

theorem own_and65535 (x : Int32) : ∃ k : Nat, k < 65536 ∧ x &&& (65535 : Int32) = Int32.ofNat k := by
  have h : (x &&& 65535).toInt = (x.toBitVec &&& 65535#32).toInt := rfl
  have h2 : (x.toBitVec &&& 65535#32).toNat = x.toBitVec.toNat % 65536 := by rw [BitVec.toNat_and]; exact Nat.and_two_pow_sub_one_eq_mod x.toBitVec.toNat 16
  have h3 := Nat.mod_lt x.toBitVec.toNat (show 0 < 65536 by decide)
  have h4 : (x.toBitVec &&& 65535#32).toInt = ((x.toBitVec &&& 65535#32).toNat : Int) := BitVec.toInt_eq_toNat_of_lt (by omega)
  refine ⟨x.toBitVec.toNat % 65536, h3, ?_⟩
  apply Int32.toInt_inj.mp
  rw [h, h4, h2, Int32.toInt_ofNat_small (by omega)]
theorem own_shr0 (v : Int32) : v >>> ((0 : Int32) &&& 31) = v := by
  apply Int32.toInt_inj.mp
  show (BitVec.sshiftRight v.toBitVec 0).toInt = _
  rw [BitVec.toInt_sshiftRight, Int.shiftRight_zero]; rfl
theorem own_R {k : Nat} (hk : k < 65536) : ((((((Int32.ofNat k) >>> ((0 : Int32) &&& 31)).toInt8.toInt32).toInt8.toInt32) &&& (255 : Int32)) <<< ((0 : Int32) &&& 31)) ||| ((((((Int32.ofNat k) >>> ((8 : Int32) &&& 31)).toInt8.toInt32).toInt8.toInt32) &&& (255 : Int32)) <<< ((8 : Int32) &&& 31)) = Int32.ofNat k := by
  rw [own_shr0, own_shr8 hk, own_lo8, own_lo8, own_lo8, own_lo8, own_and255k k hk, own_and255k (k / 256) (by omega), show k / 256 % 256 = k / 256 from by omega]
  exact own_or hk
theorem own_N {k : Nat} (hk : k < 65536) : nar .char (Int32.ofNat k) = Int32.ofNat k := own_i2c hk
theorem own_U {k : Nat} (hk : k < 65536) : (nar .char ((((((((nar .char (Int32.ofNat k)) >>> ((0 : Int32) &&& 31)).toInt8.toInt32).toInt8.toInt32) &&& (255 : Int32)) <<< ((0 : Int32) &&& 31)) ||| ((((((nar .char (Int32.ofNat k)) >>> ((8 : Int32) &&& 31)).toInt8.toInt32).toInt8.toInt32) &&& (255 : Int32)) <<< ((8 : Int32) &&& 31))).toUInt32.toUInt16.toUInt32.toInt32)) = Int32.ofNat k := by
  rw [own_N hk, own_R hk, own_i2c hk]; exact own_N hk
theorem own_L256 : ∀ k : Nat, k < 256 → (nar .char (nar .char ((((nar .char (Int32.ofNat k)).toInt8.toInt32) &&& (255 : Int32)).toUInt32.toUInt16.toUInt32.toInt32))) = Int32.ofNat k := by decide +kernel
theorem own_chr65 (x : Int32) : ∃ k : Nat, k < 65536 ∧ ((x &&& (65535 : Int32)).toUInt32.toUInt16.toUInt32.toInt32) = Int32.ofNat k := by
  obtain ⟨k, hk, e⟩ := own_and65535 x
  exact ⟨k, hk, by rw [e]; exact own_i2c hk⟩
theorem own_big {k : Nat} (hk : k < 65536) (h : ¬ ((255 : Int32) < nar .char (Int32.ofNat k))) : k < 256 := by
  rw [own_N hk, Int32.lt_iff_toInt_lt, Int32.toInt_ofNat_small (by omega), show (255 : Int32).toInt = 255 from rfl] at h
  omega

abbrev own_MH (l : Launch) (y : MethodName) (b : ByteArray) (ml : Nat) (r : Option FieldType) (ws : List Jvm.Cond) (R : Room) (Z : State) (h0 : Heap) (as : Array Value) (Q : Option Value → Heap → List Loc → Prop) : Prop :=
  MetFree l y (head1 (Jvm.Cond.code y b ml r :: ws) R) (fun a U => a = as ∧ Z.Warmed39 U.vm ∧ U.heap = h0 ∧ CHv Z consts_1 U.vm h0) (fun _ _ _ _ _ => True) (fun _ U o U' => ∃ v L, o = .returned v ∧ Q v U'.heap L ∧ CHr Z consts_1 U.vm U.heap U'.vm U'.heap ∧ ReturnedEndW U o U' L R.cells R.slots)
theorem own_openH {l : Launch} {y : MethodName} {b : ByteArray} {ml : Nat} {r : Option FieldType} {ws : List Jvm.Cond} {R : Room} {Z : State} {a0 : Array Value} {h0 : Heap} {as : Array Value} {Q : Option Value → Heap → List Loc → Prop} (hEL : EW Z a0 consts_1) (hp : plainFor y = true) {L0 : Array Slot} (hL : ∀ m, entryFrame m as ml = mkF m 0 L0 [])
    (H : ∀ (p : Program) (e : Env) (s : State) (m : MethodId) (below : List Frame) (meth : Method) (c : Code) (s₁ : State), p.tables.exec = Jvm.exec → c.code = b → c.maxLocals = ml → meth.sig.returnType = r → s.methodNamed? y = some m ∧ s.vm.method? m = some meth → Z.Warmed39 s.vm → s.vm.findClass y.cls = some m.cls → Stand p l e R s m as below meth c s₁ [] 0 0 → s₁.heap = h0 → CHr Z consts_1 s.vm h0 s.vm h0 →
      ∃ v T L cs sl vm1 n h', (r = none → v = none) ∧ Stand p l e R (s.setVm vm1) m as below meth c T L cs sl ∧ cs ≤ R.cells ∧ sl ≤ R.slots ∧ s.Since vm1 n ∧ n ≤ T.heap.size ∧ Z.Warmed39 vm1 ∧ T.heap = h' ∧ CHr Z consts_1 s.vm h0 vm1 h' ∧ Q v T.heap L ∧ ∀ fs, (∀ (f : JFrame) (acts : List Action), f.method = m → f.locked = none → f.entered = [] → (doReturn e (T.setTop f) acts v).1 = T.setFrames fs) → Steps p.tables e below (s₁.setTop (mkF m 0 L0 [])) (T.setFrames fs)) :
    own_MH l y b ml r ws R Z h0 as Q := by
  refine MetFree.of_bodySF hp hisR ?_
  intro p e s m args below meth c s₁ Bd hml hP hK
  obtain ⟨rfl, hZ, hh, hC⟩ := hP
  have e0 : s₁.heap = h0 := by rw [← hh, Bd.state]; rfl
  obtain ⟨v, T, L, cs, sl, vm1, n, h', hv, X, hc, hs, hS, hn, hZ1, eT, R1, hQ, st⟩ := H p e s m below meth c s₁ Bd.exec Bd.bytes hml Bd.returns ⟨Bd.named, Bd.method⟩ hZ (findClass_of_methodNamed Bd.named) (Stand.of_body Bd) e0 (CHr.refl hC)
  obtain ⟨fs, hr, hrun, hended, hend⟩ := leaveW (s := s) (vm₁ := vm1) X hS hn (v := v) (fun q => hv (Bd.returns ▸ q))
  have hCR : CHr Z consts_1 s.vm s.heap T.vm T.heap := by rw [hh, eT]; exact CHr.trans R1 (CHv.at (s := s) (vm0 := vm1) X hZ1 hEL R1.1)
  exact ⟨_, _, castTop (hL m) (st fs hr), hrun, hended, v, L, rfl, hQ, hCR, hend.1, hend.2.1, hend.2.2.1, hend.2.2.2.mono hc hs⟩
theorem d1_0 : DK cB1 0 (.aload_n 0) 1 := by decide +kernel
theorem d1_1 : DK cB1 1 (.aload_n 1) 1 := by decide +kernel
theorem d1_2 : DK cB1 2 (.iconst 0) 1 := by decide +kernel
theorem d1_3 : DK cB1 3 (.aload_n 1) 1 := by decide +kernel
theorem d1_4 : DK cB1 4 (.arraylength) 1 := by decide +kernel
theorem d1_5 : DK cB1 5 (.aconst_null) 1 := by decide +kernel
theorem d1_6 : DK cB1 6 (.invokespecial 27) 3 := by decide +kernel
theorem d2_0 : DK cB2 0 (.aload_n 0) 1 := by decide +kernel
theorem d2_1 : DK cB2 1 (.invokespecial 1) 3 := by decide +kernel
theorem d2_4 : DK cB2 4 (.iload_n 3) 1 := by decide +kernel
theorem d2_5 : DK cB2 5 (.ifCond .ne 22) 3 := by decide +kernel
theorem d2_8 : DK cB2 8 (.aload_n 0) 1 := by decide +kernel
theorem d2_9 : DK cB2 9 (.ldc 7) 2 := by decide +kernel
theorem own_str : ∀ a ∈ Bundle.stringAtoms, a ∈ tables_1 := by decide +kernel
theorem d2_11 : DK cB2 11 (.getfield 9) 3 := by decide +kernel
theorem d2_14 : DK cB2 14 (.putfield 9) 3 := by decide +kernel
section OwnSafe
variable {p : Program} {l : Launch} {e : Env} {R : Room} {s : State} {args : Array Value} {below : List Frame} {Z : State} {a0 : Array Value} {EL : List (String × Nat)} {h : Heap} {vm0 : Vm}
theorem own_backSafe {y : MethodName} {bytes : ByteArray} {maxL : Nat} {ret : Option FieldType} {rm : Room} {len W : Nat} {as' : Array Value} {Q : Option Value → Heap → List Loc → Prop} {xs : List Addr}
    (hM : MetFree l y (head1 [Jvm.Cond.code y bytes maxL ret] rm) (fun a U => a = as' ∧ Z.Warmed39 U.vm ∧ U.heap = h ∧ CHv Z EL U.vm h ∧ ∀ x ∈ xs, Safe Z EL U.vm h x) (fun _ _ _ _ _ => True) (fun _ U o U' => ∃ v L, o = .returned v ∧ Q v U'.heap L ∧ CHr Z EL U.vm U.heap U'.vm U'.heap ∧ ReturnedEndW U o U' L rm.cells rm.slots))
    (hZ : Z.Warmed39 vm0) (wc : (Jvm.Cond.code y bytes maxL ret).before a0 Z = true) (wz : (Jvm.Cond.initialized y.cls).before a0 Z = true) (hf : rm.frames + 1 ≤ R.frames) (hl : W + (maxL + 11) + rm.locals ≤ R.locals) (hEL : EW Z a0 EL) (H : CHv Z EL vm0 h) (hxs : ∀ x ∈ xs, x < h.size ∧ Safe Z EL vm0 h x) :
    BackS l R p e below (s.setVm vm0) args y len W (fun A a => a = as' ∧ A.U.heap = h ∧ A.cells + rm.cells ≤ R.cells ∧ A.slots + rm.slots ≤ R.slots)
      (fun A _ v B => ∃ L, Q v B.U.heap L ∧ B.locs = A.locs ++ L ∧ B.cells = A.cells + rm.cells ∧ B.slots = A.slots + rm.slots ∧ CHr Z EL vm0 h B.U.vm B.U.heap) := by
  refine BackS.of_freeW (bytes := bytes) (maxL := maxL) (ret := ret) (E := fun _ first o t L k n => k = rm.cells ∧ n = rm.slots ∧ (∃ v, o = .returned v ∧ Q v t.heap L) ∧ CHr Z EL first.vm first.heap t.vm t.heap) hM hf hl ?_ ?_ (fun _ _ _ _ _ _ _ _ _ => trivial) ?_ ?_
  · intro m meth c A a Y hp
    have hU : Z.Warmed39 A.U.vm := wtrans (s := s.setVm vm0) hZ Y.warmed
    exact ⟨by show (Jvm.Cond.and _ .tt).before a A.U = true; rw [Cond.before_and, mv hU wc]; rfl, mv hU wc, mv hU wz, hp.2.2.1, hp.2.2.2⟩
  · intro m meth c A a g mk Y hp
    exact ⟨hp.1, wtrans (s := s.setVm vm0) hZ Y.warmed, hp.2.1, (CHv.at Y hZ hEL H).1, fun x hx => CHr.safe (CHv.at Y hZ hEL H) (hxs x hx).1 (hxs x hx).2⟩
  · intro _ _ _ _ ⟨v, L, h1, h2, h3, h4⟩
    exact ⟨L, _, _, h4, rfl, rfl, ⟨v, h1, h2⟩, h3⟩
  · intro m meth c A a g mk v t L k n Y hp _ _ ⟨e1, e2, ⟨v', e3, e4⟩, e5⟩
    cases e3; subst e1 e2
    refine ⟨L, e4, rfl, rfl, rfl, (CHv.at Y hZ hEL H).trans ?_⟩
    rw [← hp.2.1]; exact e5
end OwnSafe
theorem d2_17 : DK cB2 17 (.aload_n 0) 1 := by decide +kernel
theorem d2_18 : DK cB2 18 (.ldc 7) 2 := by decide +kernel
theorem d2_20 : DK cB2 20 (.getfield 15) 3 := by decide +kernel
theorem d2_23 : DK cB2 23 (.putfield 15) 3 := by decide +kernel
theorem d2_26 : DK cB2 26 (.return_) 1 := by decide +kernel
theorem pn_java_lang_String : plainName "java/lang/String" = true := by first | (simp [plainName, overriddenIn]; done) | decide +kernel
def Q2_1 (Z : State) (r0 r1 : Addr) (h0 : Heap) (n0 : Nat) (v : Option Value) (h : Heap) (L : List Loc) : Prop := ∃ (b3 : Addr) (k3 : ClassId), v = none ∧ Fr n0 L ∧ Keep h0 h [r0] ∧ Fld Z h r0 "java/lang/String" "value" "[B" (.ref b3) ∧ Fld Z h r0 "java/lang/String" "coder" "B" vI0 ∧ True ∧ Arv Z h b3 k3 .byte (0 : Int32) [] vI0
theorem rm2_1 (l : Launch) (Z : State) (a0 : Array Value) (hw : own_HW a0 Z) (ws : List Jvm.Cond) (r0 r1 : Addr) (h0 : Heap) (n0 : Nat) (O0 : Old Z n0 h0) (f6 : Exa Z h0 r0 "java/lang/String") (f8 : Fld Z h0 r0 "java/lang/String" "value" "[B" .null) (g10 : n0 ≤ r0) (l12 : r0 < h0.size) (f25 : Fld Z h0 r0 "java/lang/String" "coder" "B" vI0) :
    MetFree l mN0 (head1 (Jvm.Cond.code mN0 jdk_42_method_149_code 6 none :: ws) rR1_4_8_12) (fun a U => a = #[(.ref r0), (.ref r1), vI0, vI0, .null] ∧ Z.Warmed39 U.vm ∧ U.heap = h0 ∧ CHv Z consts_1 U.vm h0 ∧ ∀ x ∈ [r0], Safe Z consts_1 U.vm h0 x) (fun _ _ _ _ _ => True) (fun _ U o U' => ∃ v L, o = .returned v ∧ Q2_1 Z r0 r1 h0 n0 v U'.heap L ∧ CHr Z consts_1 U.vm U.heap U'.vm U'.heap ∧ ReturnedEndW U o U' L rR1_4_8_12.cells rR1_4_8_12.slots) := by
  refine MetFree.of_bodySF (plainFor_of_name pn_java_lang_String) hisR ?_
  intro p e s m args below meth c s₁ Bd hml0 hP hK
  obtain ⟨rfl, hZ, hh, hC, hSf⟩ := hP
  have hx := Bd.exec
  have hby := Bd.bytes
  have hml : c.maxLocals = 6 := hml0
  have hown : s.vm.findClass "java/lang/String" = some m.cls := findClass_of_methodNamed Bd.named
  have hnm := (name_of_methodNamed Bd.named Bd.method).1
  have X0 : Stand p l e rR1_4_8_12 s m #[(.ref r0), (.ref r1), vI0, vI0, .null] below meth c s₁ [] 0 0 := Stand.of_body Bd
  have e0 : s₁.heap = h0 := by rw [← hh, Bd.state]; rfl
  have N0 := Fr.nil n0; have w := @ww Z a0 hw
  have pre0 : ∀ t, Steps p.tables e below (s₁.setTop (mkF m 0 #[lR r0, lR r1, lV vI0, lV vI0, .val .null, lU] [])) t → Steps p.tables e below (s₁.setTop (entryFrame m #[(.ref r0), (.ref r1), vI0, vI0, .null] 6)) t := fun t k => castTop (by first | (simp [entryFrame, mkF, argsToLocals, Value.category]; done) | rfl) k
  have hEL : EW Z a0 consts_1 := own_EW hw
  have R0 := CHr.refl hC
  obtain ⟨T1, X1, e1, st1⟩ := initO X0 hx hZ hown (w 12 rfl) (w 13 rfl) (w 14 rfl) e0 (g := (mkF m 1 #[lR r0, lR r1, lV vI0, lV vI0, .val .null, lU] [(.ref r0)])) rfl (by rw [hml]; rfl) rfl (hb hby d2_1) (by decide) (W := 0) (own_W rfl) (by decide)
  have hS2 := (State.WarmedH.refl s).since 0
  have hstr : ∀ a ∈ Bundle.stringAtoms, a.before a0 Z = true := fun a q => hw a (own_str a q)
  obtain ⟨a3, T3, h3, kk3, b3, k3, X3, e3, E3, hS3, hk3, hZ3, ho3, EE3, C3, F3, V3, l3, m3, CR3, -, ne3, st3⟩ := ldcCH (s := s) (vm0 := s.vm) X1 hx hZ hown (w 15 rfl) hstr e1 hS2 (Nat.zero_le _) hEL (by simp [consts_1]) R0.1 (vs := []) (z := (0 : Int32)) ⟨by decide, by decide⟩ (by decide) rfl (g := (mkF m 9 #[lR r0, lR r1, lV vI0, lV vI0, .val .null, lU] [(.ref r0)])) rfl (hb hby d2_9) (n := 0) (by decide) (by decide) (by decide) (by decide)
  have R4 := CHr.trans R0 CR3
  obtain ⟨T5, X5, e5, st5⟩ := getF X3 hx hZ3 ho3 (host := "") (Or.inl (w 21 rfl)) Via.refl e3 F3 (g := (mkF m 11 #[lR r0, lR r1, lV vI0, lV vI0, .val .null, lU] [(.ref a3), (.ref r0)])) rfl rfl (hb hby d2_11)
  have f7 := (f6.ext E3)
  have f9 := (f8.ext E3)
  obtain ⟨T11, h11, X11, e11, W11, st11⟩ := putF X5 hx hZ3 ho3 (host := "") (Or.inl (w 21 rfl)) Via.refl e5 f9 f7 (Or.inr ⟨(w 17 rfl), rfl, hnm⟩) (w 3 rfl) (ty := (.array .byte)) (by decide) rfl rfl (g := (mkF m 14 #[lR r0, lR r1, lV vI0, lV vI0, .val .null, lU] [(.ref b3), (.ref r0)])) rfl rfl (hb hby d2_14)
  have Fw11 := f9.same W11
  have sf13 := (CHr.safe CR3 l12 (hSf _ (List.mem_of_getElem? (i := 0) rfl)))
  have sf14 : Safe Z consts_1 T3.vm h3 r0 := sf13
  have R15 := CHr.trans R4 (CHr.wr W11 sf14 R4.1)
  have N11 := Fr.snoc X11 N0 g10
  have zs17 := (Nat.le_of_eq W11.size.symm)
  obtain ⟨a16, T16, h16, kk16, b16, k16, X16, e16, E16, hS16, hk16, hZ16, ho16, EE16, C16, F16, V16, l16, m16, CR16, -, ne16, st16⟩ := ldcCH (s := s) (vm0 := T3.vm) X11 hx hZ3 ho3 (w 15 rfl) hstr e11 hS3 (Nat.le_trans hk3 zs17) hEL (by simp [consts_1]) R15.1 (vs := []) (z := (0 : Int32)) ⟨by decide, by decide⟩ (by decide) rfl (g := (mkF m 18 #[lR r0, lR r1, lV vI0, lV vI0, .val .null, lU] [(.ref r0)])) rfl (hb hby d2_18) (n := 0) (by decide) (by decide) (by decide) (by decide)
  have R18 := CHr.trans R15 CR16
  have zs19 := E3.1
  have zs20 := Nat.le_trans zs19 (Nat.le_of_eq W11.size.symm)
  have sf21 := (CHr.safe CR16 (Nat.lt_of_lt_of_le l12 zs20) (Safe.wr W11 sf14 R4.1 sf13))
  have nl22 := ne16 _ sf21
  obtain ⟨T23, X23, e23, st23⟩ := getF X16 hx hZ16 ho16 (host := "") (Or.inl (w 22 rfl)) Via.refl e16 C16 (g := (mkF m 20 #[lR r0, lR r1, lV vI0, lV vI0, .val .null, lU] [(.ref a16), (.ref r0)])) rfl rfl (hb hby d2_20)
  have f24 := ((f7.wr W11).ext E16)
  have f26 := (((f25.ext E3).other W11 (Or.inr (slot_ne (Or.inr (w 18 rfl)) (Or.inr (w 17 rfl)) (by decide) (t := .byte) (t' := (.array .byte)) (by decide) (by decide)))).ext E16)
  obtain ⟨T27, h27, X27, e27, W27, st27⟩ := putFN X23 hx hZ16 ho16 (w 22 rfl) Via.refl e23 f26 f24 (Or.inr ⟨(w 18 rfl), rfl, hnm⟩) (w 3 rfl) (ty := .byte) (v' := vI0) (by decide) rfl (by decide) (g := (mkF m 23 #[lR r0, lR r1, lV vI0, lV vI0, .val .null, lU] [vI0, (.ref r0)])) rfl rfl (hb hby d2_23)
  have Fw27 := f26.same W27
  have sf28 : Safe Z consts_1 T16.vm h16 r0 := sf21
  have R29 := CHr.trans R18 (CHr.wr W27 sf28 R18.1)
  have N27 := Fr.snoc X27 N11 g10
  have f30 := ((Fw11.ext E16).other W27 (Or.inr (slot_ne (Or.inr (w 17 rfl)) (Or.inr (w 18 rfl)) (by decide) (t := (.array .byte)) (t' := .byte) (by decide) (by decide))))
  have nl31 := ne3 _ (CHr.safe CR3 l12 (hSf _ (List.mem_of_getElem? (i := 0) rfl)))
  have f32 := (((V3.other W11 (Ne.symm nl31.2)).ext E16).other W27 (Ne.symm nl31.2))
  have kp33 : Keep h0 h3 [r0] := (Keep.refl h0 [r0]).ext E3
  have kp34 : Keep h0 h11 [r0] := kp33.wr W11 (Or.inl (List.mem_of_getElem? (i := 0) rfl))
  have kp35 : Keep h0 h16 [r0] := kp34.ext E16
  have kp36 : Keep h0 h27 [r0] := kp35.wr W27 (Or.inl (List.mem_of_getElem? (i := 0) rfl))
  have zs37 := (Nat.le_of_eq W27.size.symm)
  obtain ⟨fs, hr, hrun, hended, hend⟩ := leaveW (s := s) (vm₁ := T16.vm) X27 hS16 (by rw [e27]; exact (Nat.le_trans hk16 zs37)) (v := none) (fun _ => rfl)
  have hCR : CHr Z consts_1 s.vm s.heap T27.vm T27.heap := by rw [hh, e27]; exact CHr.trans R29 (CHv.at (s := s) (vm0 := T16.vm) X27 hZ16 hEL R29.1)
  refine ⟨_, _, pre0 _ ?_, hrun, hended, _, _, rfl, ?_, hCR, hend.1, hend.2.1, hend.2.2.1, hend.2.2.2.mono (by decide) (by decide)⟩
  · show SG p e below s₁ (mkF m 0 #[lR r0, lR r1, lV vI0, lV vI0, .val .null, lU] []) _
    refine qaN X0 hx hby d2_0 ?_
    refine st1 _ ?_
    refine qiN X1 hx hby d2_4 ?_
    refine XS.ifNo X1.here hx rfl (hb hby d2_5) rfl ((if0 _ _).trans (teq (rfl : (0 : Int32) = (0 : Int32))).2) ?_
    refine qaN X1 hx hby d2_8 ?_
    refine st3 _ ?_
    refine st5 _ ?_
    refine st11 _ ?_
    refine qaN X11 hx hby d2_17 ?_
    refine st16 _ ?_
    show SG p e below T16 (mkF m 20 #[lR r0, lR r1, lV vI0, lV vI0, .val .null, lU] [(.ref a16), (.ref r0)]) _
    refine st23 _ ?_
    refine st27 _ ?_
    exact X27.returnOut hx Bd.returns (hb hby d2_26) hr
  · show Q2_1 Z r0 r1 h0 n0 _ T27.heap _
    rw [e27]
    exact ⟨b3, k3, rfl, N27, kp36, f30, Fw27, trivial, f32⟩
theorem pd___CIILjava_lang_Void__V : parseMethodDescriptor "([CIILjava/lang/Void;)V" = some ⟨[(.array .char), .int, .int, (.object "java/lang/Void")], none⟩ := by decide +kernel
theorem d1_9 : DK cB1 9 (.return_) 1 := by decide +kernel
def Q1_1 (Z : State) (r0 r1 : Addr) (c2 : ClassId) (h0 : Heap) (n0 : Nat) (v : Option Value) (h : Heap) (L : List Loc) : Prop := ∃ (b9_0 : Addr) (k9_0 : ClassId), v = none ∧ Fr n0 L ∧ Keep h0 h [r0] ∧ Fld Z h r0 "java/lang/String" "value" "[B" (.ref b9_0) ∧ Fld Z h r0 "java/lang/String" "coder" "B" vI0 ∧ True ∧ Arv Z h b9_0 k9_0 .byte (0 : Int32) [] vI0
theorem rm1_1 (l : Launch) (Z : State) (a0 : Array Value) (hw : own_HW a0 Z) (ws : List Jvm.Cond) (r0 r1 : Addr) (c2 : ClassId) (h0 : Heap) (n0 : Nat) (O0 : Old Z n0 h0) (f1 : Arv Z h0 r1 c2 .char (0 : Int32) [] vI0) (f3 : Exa Z h0 r0 "java/lang/String") (f4 : Fld Z h0 r0 "java/lang/String" "value" "[B" .null) (g5 : n0 ≤ r0) (l6 : r0 < h0.size) (f7 : Fld Z h0 r0 "java/lang/String" "coder" "B" vI0) :
    MetFree l mN1 (head1 (Jvm.Cond.code mN1 jdk_42_method_3_code 2 none :: ws) rR2_4_8_29) (fun a U => a = #[(.ref r0), (.ref r1)] ∧ Z.Warmed39 U.vm ∧ U.heap = h0 ∧ CHv Z consts_1 U.vm h0 ∧ ∀ x ∈ [r0], Safe Z consts_1 U.vm h0 x) (fun _ _ _ _ _ => True) (fun _ U o U' => ∃ v L, o = .returned v ∧ Q1_1 Z r0 r1 c2 h0 n0 v U'.heap L ∧ CHr Z consts_1 U.vm U.heap U'.vm U'.heap ∧ ReturnedEndW U o U' L rR2_4_8_29.cells rR2_4_8_29.slots) := by
  refine MetFree.of_bodySF (plainFor_of_name pn_java_lang_String) hisR ?_
  intro p e s m args below meth c s₁ Bd hml0 hP hK
  obtain ⟨rfl, hZ, hh, hC, hSf⟩ := hP
  have hx := Bd.exec
  have hby := Bd.bytes
  have hml : c.maxLocals = 2 := hml0
  have hown : s.vm.findClass "java/lang/String" = some m.cls := findClass_of_methodNamed Bd.named
  have X0 : Stand p l e rR2_4_8_29 s m #[(.ref r0), (.ref r1)] below meth c s₁ [] 0 0 := Stand.of_body Bd
  have e0 : s₁.heap = h0 := by rw [← hh, Bd.state]; rfl
  have N0 := Fr.nil n0; have w := @ww Z a0 hw
  have pre0 : ∀ t, Steps p.tables e below (s₁.setTop (mkF m 0 #[lR r0, lR r1] [])) t → Steps p.tables e below (s₁.setTop (entryFrame m #[(.ref r0), (.ref r1)] 2)) t := fun t k => castTop (by first | (simp [entryFrame, mkF, argsToLocals, Value.category]; done) | rfl) k
  have hEL : EW Z a0 consts_1 := own_EW hw
  have R0 := CHr.refl hC
  obtain ⟨clq2, Arq2, qq2, Sq2, Nq2, Hq2, Gq2⟩ := id f1
  have hS8 := (State.WarmedH.refl s).since 0
  obtain ⟨_, _, ⟨T9, L9, k9, n9⟩, -, X9, hs9, hg9, ⟨Lc9, hQ9, l9, y9, z9, cr9⟩, st9⟩ := X0.specialBackS hx (y := mN0) rfl hown (mvT hZ (w 8 rfl)) (mvT hZ (w 9 rfl)) (mvT hZ (w 11 rfl)) (by decide) (own_backSafe (s := s) (vm0 := s.vm) (W := 0) (rm2_1 l Z a0 hw [] r0 r1 h0 n0 O0 f3 f4 g5 l6 f7) hZ (w 11 rfl) (w 4 rfl) (by decide) (by decide) hEL R0.1 (allS ⟨l6, (hSf _ (List.mem_of_getElem? (i := 0) rfl))⟩ all0)) (g := (mkF m 6 #[lR r0, lR r1] [.null, vI0, vI0, (.ref r1), (.ref r0)])) rfl (by rw [hml]; rfl) (Steps.refl _) (a := r0) (argsL := [(.ref r1), vI0, vI0, .null]) (rest := []) (lenOf pd___CIILjava_lang_Void__V rfl) rfl (own_W rfl) (hb hby d1_6) (fun _ _ => ⟨rfl, e0, (by decide : 0 + 4 ≤ _), (by decide : 0 + 8 ≤ _)⟩)
  dsimp only [Pt.U, Pt.locs, Pt.cells, Pt.slots] at X9 l9 y9 z9 st9 hQ9 hs9 hg9 cr9
  subst l9 y9 z9
  obtain ⟨X9, hS9, hZ9, ho9⟩ := rebS (s := s) (vm0 := s.vm) hS8 (by rw [e0]; exact (Nat.zero_le _)) X9 hs9 hg9 hZ hown
  obtain ⟨b9_0, k9_0, rfl, N9q, K9, f10, f11, f12, f13⟩ := hQ9
  have N9 := Fr.app N0 N9q
  have R14 := CHr.trans R0 cr9
  have kp15 : Keep h0 T9.heap [r0] := (Keep.refl h0 [r0]).trans K9 (allS (Or.inl (List.mem_of_getElem? (i := 0) rfl)) all0)
  obtain ⟨fs, hr, hrun, hended, hend⟩ := leaveW (s := s) (vm₁ := T9.vm) X9 hS9 ((Nat.le_refl _)) (v := none) (fun _ => rfl)
  have hCR : CHr Z consts_1 s.vm s.heap T9.vm T9.heap := by rw [hh]; exact CHr.trans R14 (CHv.at (s := s) (vm0 := T9.vm) X9 hZ9 hEL R14.1)
  refine ⟨_, _, pre0 _ ?_, hrun, hended, _, _, rfl, ?_, hCR, hend.1, hend.2.1, hend.2.2.1, hend.2.2.2.mono (by decide) (by decide)⟩
  · show SG p e below s₁ (mkF m 0 #[lR r0, lR r1] []) _
    refine qaN X0 hx hby d1_0 ?_
    refine qaN X0 hx hby d1_1 ?_
    refine qc X0 hx hby d1_2 ?_
    refine qaN X0 hx hby d1_3 ?_
    refine X0.arraylength hx (by rw [e0]; exact Arq2.1) (State.isArrayOf_alike hZ.alike Arq2.2.1) (g := (mkF m 4 #[lR r0, lR r1] [(.ref r1), vI0, (.ref r1), (.ref r0)])) rfl rfl (hb hby d1_4) _ ?_
    rw [len_of Sq2 Nq2]
    refine XS.aconstNull X0.here hx rfl (hb hby d1_5) ?_
    refine st9.trans ?_
    exact X9.returnOut hx Bd.returns (hb hby d1_9) hr
  · show Q1_1 Z r0 r1 c2 h0 n0 _ T9.heap _
    exact ⟨b9_0, k9_0, rfl, N9, kp15, f10, f11, trivial, f13⟩
theorem pd___C_V : parseMethodDescriptor "([C)V" = some ⟨[(.array .char)], none⟩ := by decide +kernel
theorem d4_0 : DK cB4 0 (.new 8) 3 := by decide +kernel
theorem d4_3 : DK cB4 3 (.dup) 1 := by decide +kernel
theorem d4_4 : DK cB4 4 (.new 13) 3 := by decide +kernel
theorem d4_7 : DK cB4 7 (.dup) 1 := by decide +kernel
theorem d4_8 : DK cB4 8 (.invokespecial 15) 3 := by decide +kernel
theorem d5_0 : DK cB5 0 (.aload_n 0) 1 := by decide +kernel
theorem d5_1 : DK cB5 1 (.bipush 16) 2 := by decide +kernel
theorem d5_3 : DK cB5 3 (.invokespecial 1) 3 := by decide +kernel
theorem d6_0 : DK cB6 0 (.aload_n 0) 1 := by decide +kernel
theorem d6_1 : DK cB6 1 (.invokespecial 3) 3 := by decide +kernel
theorem d6_4 : DK cB6 4 (.getstatic 18) 3 := by decide +kernel
theorem d6_7 : DK cB6 7 (.ifCond .eq 18) 3 := by decide +kernel
theorem d6_10 : DK cB6 10 (.aload_n 0) 1 := by decide +kernel
theorem d6_11 : DK cB6 11 (.iload_n 1) 1 := by decide +kernel
theorem d6_12 : DK cB6 12 (.newarray .byte) 2 := by decide +kernel
theorem d6_14 : DK cB6 14 (.putfield 15) 3 := by decide +kernel
theorem d6_17 : DK cB6 17 (.aload_n 0) 1 := by decide +kernel
theorem d6_18 : DK cB6 18 (.iconst 0) 1 := by decide +kernel
theorem d6_19 : DK cB6 19 (.putfield 22) 3 := by decide +kernel
theorem d6_22 : DK cB6 22 (.goto 16) 3 := by decide +kernel
theorem d6_38 : DK cB6 38 (.return_) 1 := by decide +kernel
theorem pn_java_lang_AbstractStringBuilder : plainName cs0 = true := by first | (simp [plainName, overriddenIn]; done) | decide +kernel
def Q6_1 (Z : State) (r0 : Addr) (x1 : Int32) (h0 : Heap) (n0 : Nat) (v : Option Value) (h : Heap) (L : List Loc) : Prop := ∃ (b6 : Addr) (k6 : ClassId), v = none ∧ Fr n0 L ∧ Keep h0 h [r0] ∧ Fld Z h r0 cs0 "value" "[B" (.ref b6) ∧ Fld Z h r0 cs0 "coder" "B" vI0 ∧ Fld Z h r0 cs0 "count" "I" vI0 ∧ Fld Z h r0 cs0 "maybeLatin1" "Z" vI0 ∧ h0.size ≤ b6 ∧ Arv Z h b6 k6 .byte (16 : Int32) [vI0, vI0, vI0, vI0, vI0, vI0, vI0, vI0, vI0, vI0, vI0, vI0, vI0, vI0, vI0, vI0] vI0 ∧ Exa Z h b6 "[B"
theorem rm6_1 (l : Launch) (Z : State) (a0 : Array Value) (hw : own_HW a0 Z) (ws : List Jvm.Cond) (r0 : Addr) (x1 : Int32) (h0 : Heap) (n0 : Nat) (O0 : Old Z n0 h0) (f2 : Sta Z Z.heap "java/lang/String" "COMPACT_STRINGS" "Z" (.int x1)) (hc5 : ¬ (x1 = (0 : Int32))) (f7 : Exa Z h0 r0 "java/lang/StringBuilder") (f9 : Fld Z h0 r0 cs0 "value" "[B" .null) (g11 : n0 ≤ r0) (f14 : Fld Z h0 r0 cs0 "coder" "B" vI0) (f17 : Fld Z h0 r0 cs0 "count" "I" vI0) (f19 : Fld Z h0 r0 cs0 "maybeLatin1" "Z" vI0) (l22 : r0 < h0.size) :
    own_MF l mN2 jdk_68_method_2_code 2 none ws rR1_1_16_12 Z h0 #[(.ref r0), vI16] (Q6_1 Z r0 x1 h0 n0) := by
  refine own_open (plainFor_of_name pn_java_lang_AbstractStringBuilder) (L0 := #[lR r0, lV vI16]) (fun _ => by first | (simp [entryFrame, mkF, argsToLocals, Value.category]; done) | rfl) ?_
  intro p e s m below meth c s₁ hx hby hml hret hnn hZ hown X0 e0
  have N0 := Fr.nil n0; have w := @ww Z a0 hw
  obtain ⟨T1, X1, e1, st1⟩ := initO X0 hx hZ hown (w 41 rfl) (w 13 rfl) (w 14 rfl) e0 (g := (mkF m 1 #[lR r0, lV vI16] [(.ref r0)])) rfl (by rw [hml]; rfl) rfl (hb hby d6_1) (by decide) (W := 0) (own_W rfl) (by decide)
  have f3 := f2.ext O0.2
  obtain ⟨T4, X4, e4, st4⟩ := getS2 X1 hx hZ hown (host := "") (Or.inl (w 42 rfl)) Via.refl e1 f3 (g := (mkF m 4 #[lR r0, lV vI16] [])) rfl (hb hby d6_4)
  obtain ⟨T6, h6, k6, X6, e6, E6, A6, B6, st6⟩ := newPE X4 hx hZ (w 16 rfl) e4 (g := (mkF m 12 #[lR r0, lV vI16] [vI16, (.ref r0)])) rfl (hb hby d6_12) rfl (by decide) (cap := 16) (by decide) (by decide) (by decide) (by decide) (ad := "[B") rfl
  obtain ⟨b6, g6⟩ : ∃ z, z = h0.size := ⟨_, rfl⟩
  rw [← g6] at A6 B6 st6
  have V6 : Arv Z h6 b6 k6 .byte (16 : Int32) [vI0, vI0, vI0, vI0, vI0, vI0, vI0, vI0, vI0, vI0, vI0, vI0, vI0, vI0, vI0, vI0] vI0 := (Arv.new A6 (by decide)).pad (pad_rep [] vI0 16)
  have f8 := (f7.ext E6)
  have f10 := (f9.ext E6)
  obtain ⟨T12, h12, X12, e12, W12, st12⟩ := putF X6 hx hZ hown (host := "") (Or.inl (w 43 rfl)) Via.refl e6 f10 f8 (Or.inl (w 44 rfl)) (w 30 rfl) (ty := (.array .byte)) (by decide) rfl rfl (g := (mkF m 14 #[lR r0, lV vI16] [(.ref b6), (.ref r0)])) rfl rfl (hb hby d6_14)
  have Fw12 := f10.same W12
  have N12 := Fr.snoc X12 N0 g11
  have f13 := (f8.wr W12)
  have f15 := ((f14.ext E6).other W12 (Or.inr (slot_ne (Or.inl (w 46 rfl)) (Or.inl (w 44 rfl)) (by decide) (t := .byte) (t' := (.array .byte)) (by decide) (by decide))))
  obtain ⟨T16, h16, X16, e16, W16, st16⟩ := putFN X12 hx hZ hown (w 45 rfl) Via.refl e12 f15 f13 (Or.inl (w 46 rfl)) (w 30 rfl) (ty := .byte) (v' := vI0) (by decide) rfl (by decide) (g := (mkF m 19 #[lR r0, lV vI16] [vI0, (.ref r0)])) rfl rfl (hb hby d6_19)
  have Fw16 := f15.same W16
  have N16 := Fr.snoc X16 N12 g11
  have f18 := (((f17.ext E6).other W12 (Or.inr (slot_ne (Or.inl (w 70 rfl)) (Or.inl (w 44 rfl)) (by decide) (t := .int) (t' := (.array .byte)) (by decide) (by decide)))).other W16 (Or.inr (slot_ne (Or.inl (w 70 rfl)) (Or.inl (w 46 rfl)) (by decide) (t := .int) (t' := .byte) (by decide) (by decide))))
  have f20 := (((f19.ext E6).other W12 (Or.inr (slot_ne (Or.inl (w 235 rfl)) (Or.inl (w 44 rfl)) (by decide) (t := .boolean) (t' := (.array .byte)) (by decide) (by decide)))).other W16 (Or.inr (slot_ne (Or.inl (w 235 rfl)) (Or.inl (w 46 rfl)) (by decide) (t := .boolean) (t' := .byte) (by decide) (by decide))))
  have f21 := (Fw12.other W16 (Or.inr (slot_ne (Or.inl (w 44 rfl)) (Or.inl (w 46 rfl)) (by decide) (t := (.array .byte)) (t' := .byte) (by decide) (by decide))))
  have n23 := Nat.ne_of_lt (Nat.lt_of_lt_of_le l22 (Nat.le_of_eq g6.symm))
  have f24 := ((V6.other W12 (Ne.symm n23)).other W16 (Ne.symm n23))
  have f25 := ((B6.wr W12).wr W16)
  have kp26 : Keep h0 h6 [r0] := (Keep.refl h0 [r0]).ext E6
  have kp27 : Keep h0 h12 [r0] := kp26.wr W12 (Or.inl (List.mem_of_getElem? (i := 0) rfl))
  have kp28 : Keep h0 h16 [r0] := kp27.wr W16 (Or.inl (List.mem_of_getElem? (i := 0) rfl))
  refine ⟨none, _, _, _, _, (fun _ => rfl), X16, by decide, by decide, ?_, fun fs hr => ?_⟩
  · rw [e16]; exact ⟨b6, k6, rfl, N16, kp28, f21, Fw16, f18, f20, (Nat.le_of_eq g6.symm), f24, f25⟩
  · show SG p e below s₁ (mkF m 0 #[lR r0, lV vI16] []) _
    refine qaN X0 hx hby d6_0 ?_
    refine st1 _ ?_
    refine st4 _ ?_
    refine XS.ifNo X4.here hx rfl (hb hby d6_7) rfl ((if0 _ _).trans (feq hc5).1) ?_
    refine qaN X4 hx hby d6_10 ?_
    refine qiN X4 hx hby d6_11 ?_
    refine st6 _ ?_
    refine st12 _ ?_
    refine qaN X12 hx hby d6_17 ?_
    refine qc X12 hx hby d6_18 ?_
    show SG p e below T12 (mkF m 19 #[lR r0, lV vI16] [vI0, (.ref r0)]) _
    refine st16 _ ?_
    refine XS.goto X16.here hx rfl (pc0 := 22) (pc' := 38) rfl (hb hby d6_22) (by decide) (by decide) ?_
    exact X16.returnOut hx hret (hb hby d6_38) hr
theorem pd__I_V : parseMethodDescriptor "(I)V" = some ⟨[.int], none⟩ := by decide +kernel
theorem d5_6 : DK cB5 6 (.return_) 1 := by decide +kernel
theorem pn_java_lang_StringBuilder : plainName "java/lang/StringBuilder" = true := by first | (simp [plainName, overriddenIn]; done) | decide +kernel
def Q5_1 (Z : State) (r0 : Addr) (x1 : Int32) (h0 : Heap) (n0 : Nat) (v : Option Value) (h : Heap) (L : List Loc) : Prop := ∃ (b10_0 : Addr) (k10_0 : ClassId), v = none ∧ Fr n0 L ∧ Keep h0 h [r0] ∧ Fld Z h r0 cs0 "value" "[B" (.ref b10_0) ∧ Fld Z h r0 cs0 "coder" "B" vI0 ∧ Fld Z h r0 cs0 "count" "I" vI0 ∧ Fld Z h r0 cs0 "maybeLatin1" "Z" vI0 ∧ h0.size ≤ b10_0 ∧ Arv Z h b10_0 k10_0 .byte (16 : Int32) [vI0, vI0, vI0, vI0, vI0, vI0, vI0, vI0, vI0, vI0, vI0, vI0, vI0, vI0, vI0, vI0] vI0 ∧ Exa Z h b10_0 "[B"
theorem rm5_1 (l : Launch) (Z : State) (a0 : Array Value) (hw : own_HW a0 Z) (ws : List Jvm.Cond) (r0 : Addr) (x1 : Int32) (h0 : Heap) (n0 : Nat) (O0 : Old Z n0 h0) (f1 : Sta Z Z.heap "java/lang/String" "COMPACT_STRINGS" "Z" (.int x1)) (hc2 : ¬ (x1 = (0 : Int32))) (f3 : Exa Z h0 r0 "java/lang/StringBuilder") (f4 : Fld Z h0 r0 cs0 "value" "[B" .null) (g5 : n0 ≤ r0) (f6 : Fld Z h0 r0 cs0 "coder" "B" vI0) (f7 : Fld Z h0 r0 cs0 "count" "I" vI0) (f8 : Fld Z h0 r0 cs0 "maybeLatin1" "Z" vI0) (l9 : r0 < h0.size) :
    own_MF l mN3 jdk_67_method_1_code 1 none ws rR2_1_16_25 Z h0 #[(.ref r0)] (Q5_1 Z r0 x1 h0 n0) := by
  refine own_open (plainFor_of_name pn_java_lang_StringBuilder) (L0 := #[lR r0]) (fun _ => by first | (simp [entryFrame, mkF, argsToLocals, Value.category]; done) | rfl) ?_
  intro p e s m below meth c s₁ hx hby hml hret hnn hZ hown X0 e0
  have N0 := Fr.nil n0; have w := @ww Z a0 hw
  obtain ⟨_, T10, Lc10, X10, hQ10, st10⟩ := own_fin (X0.specialBack hx (y := mN2) rfl hown (mvT hZ (w 35 rfl)) (mvT hZ (w 36 rfl)) (mvT hZ (w 40 rfl)) (by decide) (backOf (W := 0) (rm6_1 l Z a0 hw [] r0 x1 h0 n0 O0 f1 hc2 f3 f4 g5 f6 f7 f8 l9) hZ (w 40 rfl) (w 39 rfl) (by decide) (by decide)) (g := (mkF m 3 #[lR r0] [vI16, (.ref r0)])) rfl (by rw [hml]; rfl) (Steps.refl _) (a := r0) (argsL := [vI16]) (rest := []) (lenOf pd__I_V rfl) rfl (own_W rfl) (hb hby d5_3) (fun _ _ => ⟨rfl, e0, (by decide : 0 + 1 ≤ _), (by decide : 0 + 16 ≤ _)⟩))
  obtain ⟨b10_0, k10_0, rfl, N10q, K10, f11, f12, f13, f14, f15, f16, f17⟩ := hQ10
  have N10 := Fr.app N0 N10q
  have kp18 : Keep h0 T10.heap [r0] := (Keep.refl h0 [r0]).trans K10 (allS (Or.inl (List.mem_of_getElem? (i := 0) rfl)) all0)
  refine ⟨none, _, _, _, _, (fun _ => rfl), X10, by decide, by decide, ?_, fun fs hr => ?_⟩
  · exact ⟨b10_0, k10_0, rfl, N10, kp18, f11, f12, f13, f14, f15, f16, f17⟩
  · show SG p e below s₁ (mkF m 0 #[lR r0] []) _
    refine qaN X0 hx hby d5_0 ?_
    refine qb X0 hx hby d5_1 ?_
    refine st10.trans ?_
    exact X10.returnOut hx hret (hb hby d5_6) hr
theorem pd___V : parseMethodDescriptor "()V" = some ⟨[], none⟩ := by decide +kernel
theorem d4_11 : DK cB4 11 (.ldc 16) 2 := by decide +kernel
theorem d4_13 : DK cB4 13 (.invokevirtual 18) 3 := by decide +kernel
theorem d7_0 : DK cB7 0 (.aload_n 0) 1 := by decide +kernel
theorem d7_1 : DK cB7 1 (.aload_n 1) 1 := by decide +kernel
theorem d7_2 : DK cB7 2 (.invokespecial 29) 3 := by decide +kernel
theorem d8_0 : DK cB8 0 (.aload_n 1) 1 := by decide +kernel
theorem d8_1 : DK cB8 1 (.ifnonnull 8) 3 := by decide +kernel
theorem d8_9 : DK cB8 9 (.aload_n 1) 1 := by decide +kernel
theorem d8_10 : DK cB8 10 (.invokevirtual 32) 3 := by decide +kernel
theorem d9_0 : DK cB9 0 (.aload_n 0) 1 := by decide +kernel
theorem d9_1 : DK cB9 1 (.getfield 9) 3 := by decide +kernel
theorem d9_4 : DK cB9 4 (.arraylength) 1 := by decide +kernel
theorem d9_5 : DK cB9 5 (.aload_n 0) 1 := by decide +kernel
theorem d9_6 : DK cB9 6 (.invokevirtual 335) 3 := by decide +kernel
theorem d10_0 : DK cB10 0 (.getstatic 38) 3 := by decide +kernel
theorem d10_3 : DK cB10 3 (.ifCond .eq 10) 3 := by decide +kernel
theorem d10_6 : DK cB10 6 (.aload_n 0) 1 := by decide +kernel
theorem d10_7 : DK cB10 7 (.getfield 15) 3 := by decide +kernel
theorem d10_10 : DK cB10 10 (.goto 4) 3 := by decide +kernel
theorem d10_14 : DK cB10 14 (.ireturn) 1 := by decide +kernel
def Q10_1 (Z : State) (r0 : Addr) (x1 x2 : Int32) (h0 : Heap) (n0 : Nat) (v : Option Value) (h : Heap) (L : List Loc) : Prop := v = some (.int (nar .byte x2)) ∧ Fr n0 L ∧ h = h0
theorem rm10_1 (l : Launch) (Z : State) (a0 : Array Value) (hw : own_HW a0 Z) (ws : List Jvm.Cond) (r0 : Addr) (x1 x2 : Int32) (h0 : Heap) (n0 : Nat) (O0 : Old Z n0 h0) (f1 : Sta Z Z.heap "java/lang/String" "COMPACT_STRINGS" "Z" (.int x1)) (hc4 : ¬ (x1 = (0 : Int32))) (f5 : Fld Z h0 r0 "java/lang/String" "coder" "B" (.int x2)) :
    own_MF l mN4 jdk_42_method_152_code 1 (some .byte) ws rR0_0_0_0 Z h0 #[(.ref r0)] (Q10_1 Z r0 x1 x2 h0 n0) := by
  refine own_open (plainFor_of_name pn_java_lang_String) (L0 := #[lR r0]) (fun _ => by first | (simp [entryFrame, mkF, argsToLocals, Value.category]; done) | rfl) ?_
  intro p e s m below meth c s₁ hx hby hml hret hnn hZ hown X0 e0
  have N0 := Fr.nil n0
  have f2 := f1.ext O0.2
  obtain ⟨T3, X3, e3, st3⟩ := getS2 X0 hx hZ hown (host := "") (Or.inl (ww hw 68 rfl)) Via.refl e0 f2 (g := (mkF m 0 #[lR r0] [])) rfl (hb hby d10_0)
  obtain ⟨T6, X6, e6, st6⟩ := getF X3 hx hZ hown (host := "") (Or.inl (ww hw 22 rfl)) Via.refl e3 f5 (g := (mkF m 7 #[lR r0] [(.ref r0)])) rfl rfl (hb hby d10_7)
  refine ⟨some (.int (nar .byte x2)), _, _, _, _, nofun, X6, by decide, by decide, ?_, fun fs hr => ?_⟩
  · rw [e6]; exact ⟨rfl, N0, rfl⟩
  · show SG p e below s₁ (mkF m 0 #[lR r0] []) _
    refine st3 _ ?_
    refine XS.ifNo X3.here hx rfl (hb hby d10_3) rfl ((if0 _ _).trans (feq hc4).1) ?_
    refine qaN X3 hx hby d10_6 ?_
    refine st6 _ ?_
    refine XS.goto X6.here hx rfl (pc0 := 10) (pc' := 14) rfl (hb hby d10_10) (by decide) (by decide) ?_
    exact retN X6 hx (t := .byte) hret (by simp) (hb hby d10_14) hr
theorem pd___B : parseMethodDescriptor "()B" = some ⟨[], some .byte⟩ := by decide +kernel
theorem d9_9 : DK cB9 9 (.ishr) 1 := by decide +kernel
theorem d9_10 : DK cB9 10 (.ireturn) 1 := by decide +kernel
def Q9_1 (Z : State) (r0 r1 : Addr) (x2 : Int32) (c3 : ClassId) (t4 : List Value) (x5 x6 : Int32) (h0 : Heap) (n0 : Nat) (v : Option Value) (h : Heap) (L : List Loc) : Prop := v = some (.int (x2 >>> ((nar .byte x6) &&& 31))) ∧ Fr n0 L ∧ h = h0
theorem rm9_1 (l : Launch) (Z : State) (a0 : Array Value) (hw : own_HW a0 Z) (ws : List Jvm.Cond) (r0 r1 : Addr) (x2 : Int32) (c3 : ClassId) (t4 : List Value) (x5 x6 : Int32) (h0 : Heap) (n0 : Nat) (O0 : Old Z n0 h0) (f1 : Fld Z h0 r0 "java/lang/String" "value" "[B" (.ref r1)) (f3 : Arv Z h0 r1 c3 .byte x2 t4 vI0) (f5 : Exa Z h0 r0 "java/lang/String") (f6 : Sta Z Z.heap "java/lang/String" "COMPACT_STRINGS" "Z" (.int x5)) (hc7 : ¬ (x5 = (0 : Int32))) (f8 : Fld Z h0 r0 "java/lang/String" "coder" "B" (.int x6)) :
    own_MF l mN5 jdk_42_method_54_code 1 (some .int) ws rR1_0_0_13 Z h0 #[(.ref r0)] (Q9_1 Z r0 r1 x2 c3 t4 x5 x6 h0 n0) := by
  refine own_open (plainFor_of_name pn_java_lang_String) (L0 := #[lR r0]) (fun _ => by first | (simp [entryFrame, mkF, argsToLocals, Value.category]; done) | rfl) ?_
  intro p e s m below meth c s₁ hx hby hml hret hnn hZ hown X0 e0
  have N0 := Fr.nil n0; have w := @ww Z a0 hw
  obtain ⟨T2, X2, e2, st2⟩ := getF X0 hx hZ hown (host := "") (Or.inl (w 21 rfl)) Via.refl e0 f1 (g := (mkF m 1 #[lR r0] [(.ref r0)])) rfl rfl (hb hby d9_1)
  obtain ⟨clq4, Arq4, qq4, Sq4, Nq4, Hq4, Gq4⟩ := id f3
  obtain ⟨_, T9, Lc9, X9, hQ9, st9⟩ := own_cV X2 hx hZ hown e2 (rm10_1 l Z a0 hw [] r0 x5 x6 h0 n0 O0 f6 hc7 f8) f5 (w 63 rfl) (w 64 rfl) (w 66 rfl) (w 65 rfl) (w 67 rfl) (w 4 rfl) (by decide) (W := 1) (by decide) (by decide) (by decide) (by decide) (g := (mkF m 6 #[lR r0] [(.ref r0), (.int x2)])) rfl (by rw [hml]; rfl) (argsL := []) (rest := [(.int x2)]) (lenOf pd___B rfl) rfl (own_W rfl) (hb hby d9_6)
  obtain ⟨rfl, N9q, E9⟩ := hQ9
  have N9 := Fr.app N0 N9q
  refine ⟨some (.int (x2 >>> ((nar .byte x6) &&& 31))), _, _, _, _, nofun, X9, by decide, by decide, ?_, fun fs hr => ?_⟩
  · rw [E9]; exact ⟨rfl, N9, rfl⟩
  · show SG p e below s₁ (mkF m 0 #[lR r0] []) _
    refine qaN X0 hx hby d9_0 ?_
    refine st2 _ ?_
    refine X2.arraylength hx (by rw [e2]; exact Arq4.1) (State.isArrayOf_alike hZ.alike Arq4.2.1) (g := (mkF m 4 #[lR r0] [(.ref r1)])) rfl rfl (hb hby d9_4) _ ?_
    rw [len_of Sq4 Nq4]
    refine qaN X2 hx hby d9_5 ?_
    refine st9 _ ?_
    refine XS.ishr X9.here hx rfl (hb hby d9_9) rfl ?_
    exact retOut X9 hx (i := .ireturn) hret rfl (Or.inl ⟨rfl, Or.inl rfl, _, rfl⟩) (hb hby d9_10) hr
theorem pd___I : parseMethodDescriptor "()I" = some ⟨[], some .int⟩ := by decide +kernel
theorem d8_13 : DK cB8 13 (.istore_n 2) 1 := by decide +kernel
theorem d8_14 : DK cB8 14 (.aload_n 0) 1 := by decide +kernel
theorem d8_15 : DK cB8 15 (.aload_n 0) 1 := by decide +kernel
theorem d8_16 : DK cB8 16 (.getfield 79) 3 := by decide +kernel
theorem d8_19 : DK cB8 19 (.iload_n 2) 1 := by decide +kernel
theorem d8_20 : DK cB8 20 (.iadd) 1 := by decide +kernel
theorem d8_21 : DK cB8 21 (.invokevirtual 100) 3 := by decide +kernel
theorem d11_0 : DK cB11 0 (.aload_n 0) 1 := by decide +kernel
theorem d11_1 : DK cB11 1 (.getfield 15) 3 := by decide +kernel
theorem d11_4 : DK cB11 4 (.arraylength) 1 := by decide +kernel
theorem d11_5 : DK cB11 5 (.aload_n 0) 1 := by decide +kernel
theorem d11_6 : DK cB11 6 (.getfield 22) 3 := by decide +kernel
theorem d11_9 : DK cB11 9 (.ishr) 1 := by decide +kernel
theorem d11_10 : DK cB11 10 (.istore_n 2) 1 := by decide +kernel
theorem d11_11 : DK cB11 11 (.iload_n 1) 1 := by decide +kernel
theorem d11_12 : DK cB11 12 (.iload_n 2) 1 := by decide +kernel
theorem d11_13 : DK cB11 13 (.isub) 1 := by decide +kernel
theorem d11_14 : DK cB11 14 (.ifCond .le 24) 3 := by decide +kernel
theorem d11_38 : DK cB11 38 (.return_) 1 := by decide +kernel
def Q11_1 (Z : State) (r0 : Addr) (x1 : Int32) (r2 : Addr) (x3 : Int32) (c4 : ClassId) (t5 : List Value) (x6 : Int32) (h0 : Heap) (n0 : Nat) (v : Option Value) (h : Heap) (L : List Loc) : Prop := v = none ∧ Fr n0 L ∧ h = h0
theorem rm11_1 (l : Launch) (Z : State) (a0 : Array Value) (hw : own_HW a0 Z) (ws : List Jvm.Cond) (r0 : Addr) (x1 : Int32) (r2 : Addr) (x3 : Int32) (c4 : ClassId) (t5 : List Value) (x6 : Int32) (h0 : Heap) (n0 : Nat) (O0 : Old Z n0 h0) (f1 : Fld Z h0 r0 cs0 "value" "[B" (.ref r2)) (f3 : Arv Z h0 r2 c4 .byte x3 t5 vI0) (f5 : Fld Z h0 r0 cs0 "coder" "B" (.int x6)) (hc7 : ¬ ((0 : Int32) < (x1 - (x3 >>> (x6 &&& 31))))) :
    own_MF l mN6 jdk_68_method_9_code 3 none ws rR0_0_0_0 Z h0 #[(.ref r0), (.int x1)] (Q11_1 Z r0 x1 r2 x3 c4 t5 x6 h0 n0) := by
  refine own_open (plainFor_of_name pn_java_lang_AbstractStringBuilder) (L0 := #[lR r0, lI x1, lU]) (fun _ => by first | (simp [entryFrame, mkF, argsToLocals, Value.category]; done) | rfl) ?_
  intro p e s m below meth c s₁ hx hby hml hret hnn hZ hown X0 e0
  have N0 := Fr.nil n0
  obtain ⟨T2, X2, e2, st2⟩ := getF X0 hx hZ hown (host := "") (Or.inl (ww hw 43 rfl)) Via.refl e0 f1 (g := (mkF m 1 #[lR r0, lI x1, lU] [(.ref r0)])) rfl rfl (hb hby d11_1)
  obtain ⟨clq4, Arq4, qq4, Sq4, Nq4, Hq4, Gq4⟩ := id f3
  obtain ⟨T6, X6, e6, st6⟩ := getF X2 hx hZ hown (host := "") (Or.inl (ww hw 45 rfl)) Via.refl e2 f5 (g := (mkF m 6 #[lR r0, lI x1, lU] [(.ref r0), (.int x3)])) rfl rfl (hb hby d11_6)
  refine ⟨none, _, _, _, _, (fun _ => rfl), X6, by decide, by decide, ?_, fun fs hr => ?_⟩
  · rw [e6]; exact ⟨rfl, N0, rfl⟩
  · show SG p e below s₁ (mkF m 0 #[lR r0, lI x1, lU] []) _
    refine qaN X0 hx hby d11_0 ?_
    refine st2 _ ?_
    refine X2.arraylength hx (by rw [e2]; exact Arq4.1) (State.isArrayOf_alike hZ.alike Arq4.2.1) (g := (mkF m 4 #[lR r0, lI x1, lU] [(.ref r2)])) rfl rfl (hb hby d11_4) _ ?_
    rw [len_of Sq4 Nq4]
    refine qaN X2 hx hby d11_5 ?_
    refine st6 _ ?_
    refine XS.ishr X6.here hx rfl (hb hby d11_9) rfl ?_
    refine XS.istoreN X6.here hx rfl (hb hby d11_10) rfl (l' := #[lR r0, lI x1, .val (.int (x3 >>> (x6 &&& 31)))]) rfl ?_
    refine qiN X6 hx hby d11_11 ?_
    refine qiN X6 hx hby d11_12 ?_
    refine XS.isub X6.here hx rfl (hb hby d11_13) rfl ?_
    show SG p e below T6 (mkF m 14 #[lR r0, lI x1, .val (.int (x3 >>> (x6 &&& 31)))] [(.int (x1 - (x3 >>> (x6 &&& 31))))]) _
    refine XS.ifYes X6.here hx rfl (pc0 := 14) (pc' := 38) rfl (hb hby d11_14) rfl ((if0 _ _).trans (flt hc7).2.2.2) (by decide) (by decide) ?_
    exact X6.returnOut hx hret (hb hby d11_38) hr
theorem own_selfsel {s : State} {args : Array Value} {C : String} {y : MethodName} (hsel : (Jvm.Cond.selects C y y).before args s = true) (hpriv : s.PrivateAt y) (hinst : (Jvm.Cond.instanceMethod y).before args s = true) (hy : y.cls ≠ "java/lang/invoke/MethodHandle" ∧ y.cls ≠ "java/lang/invoke/VarHandle") : (Jvm.Cond.selects y.cls y y).before args s = true := by
  obtain ⟨c2, r2, m2, -, -, q3, -, kP, hkP, hkPi⟩ := Cond.selects_spec hsel
  exact selects_self_of_private (findClass_of_methodNamed q3) hkP hkPi hpriv hinst hy
theorem d8_24 : DK cB8 24 (.aload_n 0) 1 := by decide +kernel
theorem d8_25 : DK cB8 25 (.aload_n 0) 1 := by decide +kernel
theorem d8_26 : DK cB8 26 (.getfield 79) 3 := by decide +kernel
theorem d8_29 : DK cB8 29 (.aload_n 1) 1 := by decide +kernel
theorem d8_30 : DK cB8 30 (.invokevirtual 208) 3 := by decide +kernel
theorem d12_0 : DK cB12 0 (.aload_n 0) 1 := by decide +kernel
theorem d12_1 : DK cB12 1 (.aload_n 2) 1 := by decide +kernel
theorem d12_2 : DK cB12 2 (.invokevirtual 397) 3 := by decide +kernel
theorem d13_0 : DK cB13 0 (.getstatic 18) 3 := by decide +kernel
theorem d13_3 : DK cB13 3 (.ifCond .eq 18) 3 := by decide +kernel
theorem d13_6 : DK cB13 6 (.aload_n 0) 1 := by decide +kernel
theorem d13_7 : DK cB13 7 (.getfield 22) 3 := by decide +kernel
theorem d13_10 : DK cB13 10 (.aload_n 1) 1 := by decide +kernel
theorem d13_11 : DK cB13 11 (.invokevirtual 40) 3 := by decide +kernel
theorem d13_14 : DK cB13 14 (.if_icmp .eq 7) 3 := by decide +kernel
theorem d13_21 : DK cB13 21 (.return_) 1 := by decide +kernel
def Q13_1 (Z : State) (r0 r1 : Addr) (x2 x3 x4 : Int32) (h0 : Heap) (n0 : Nat) (v : Option Value) (h : Heap) (L : List Loc) : Prop := v = none ∧ Fr n0 L ∧ h = h0
theorem rm13_1 (l : Launch) (Z : State) (a0 : Array Value) (hw : own_HW a0 Z) (ws : List Jvm.Cond) (r0 r1 : Addr) (x2 x3 x4 : Int32) (h0 : Heap) (n0 : Nat) (O0 : Old Z n0 h0) (f1 : Sta Z Z.heap "java/lang/String" "COMPACT_STRINGS" "Z" (.int x2)) (hc4 : ¬ (x2 = (0 : Int32))) (f5 : Fld Z h0 r0 cs0 "coder" "B" (.int x3)) (f7 : Exa Z h0 r1 "java/lang/String") (f8 : Fld Z h0 r1 "java/lang/String" "coder" "B" (.int x4)) (hc10 : x3 = (nar .byte x4)) :
    own_MF l mN7 jdk_68_method_71_code 2 none ws rR1_0_0_13 Z h0 #[(.ref r0), (.ref r1)] (Q13_1 Z r0 r1 x2 x3 x4 h0 n0) := by
  refine own_open (plainFor_of_name pn_java_lang_AbstractStringBuilder) (L0 := #[lR r0, lR r1]) (fun _ => by first | (simp [entryFrame, mkF, argsToLocals, Value.category]; done) | rfl) ?_
  intro p e s m below meth c s₁ hx hby hml hret hnn hZ hown X0 e0
  have N0 := Fr.nil n0; have w := @ww Z a0 hw
  have f2 := f1.ext O0.2
  obtain ⟨T3, X3, e3, st3⟩ := getS2 X0 hx hZ hown (host := "") (Or.inl (w 42 rfl)) Via.refl e0 f2 (g := (mkF m 0 #[lR r0, lR r1] [])) rfl (hb hby d13_0)
  obtain ⟨T6, X6, e6, st6⟩ := getF X3 hx hZ hown (host := "") (Or.inl (w 45 rfl)) Via.refl e3 f5 (g := (mkF m 7 #[lR r0, lR r1] [(.ref r0)])) rfl rfl (hb hby d13_7)
  obtain ⟨_, T9, Lc9, X9, hQ9, st9⟩ := own_cV X6 hx hZ hown e6 (rm10_1 l Z a0 hw [] r1 x2 x4 h0 n0 O0 f1 hc4 f8) f7 (w 86 rfl) (w 64 rfl) (w 66 rfl) (w 65 rfl) (w 67 rfl) (w 4 rfl) (by decide) (W := 1) (by decide) (by decide) (by decide) (by decide) (g := (mkF m 11 #[lR r0, lR r1] [(.ref r1), (.int x3)])) rfl (by rw [hml]; rfl) (argsL := []) (rest := [(.int x3)]) (lenOf pd___B rfl) rfl (own_W rfl) (hb hby d13_11)
  obtain ⟨rfl, N9q, E9⟩ := hQ9
  have N9 := Fr.app N0 N9q
  refine ⟨none, _, _, _, _, (fun _ => rfl), X9, by decide, by decide, ?_, fun fs hr => ?_⟩
  · rw [E9]; exact ⟨rfl, N9, rfl⟩
  · show SG p e below s₁ (mkF m 0 #[lR r0, lR r1] []) _
    refine st3 _ ?_
    refine XS.ifNo X3.here hx rfl (hb hby d13_3) rfl ((if0 _ _).trans (feq hc4).1) ?_
    refine qaN X3 hx hby d13_6 ?_
    refine st6 _ ?_
    refine qaN X6 hx hby d13_10 ?_
    refine st9 _ ?_
    refine XS.icmpYes X9.here hx rfl (pc0 := 14) (pc' := 21) rfl (hb hby d13_14) rfl (teq hc10).1 (by decide) (by decide) ?_
    exact X9.returnOut hx hret (hb hby d13_21) hr
theorem pd__Ljava_lang_String__V : parseMethodDescriptor "(Ljava/lang/String;)V" = some ⟨[(.object "java/lang/String")], none⟩ := by decide +kernel
theorem d12_5 : DK cB12 5 (.aload_n 2) 1 := by decide +kernel
theorem d12_6 : DK cB12 6 (.aload_n 0) 1 := by decide +kernel
theorem d12_7 : DK cB12 7 (.getfield 15) 3 := by decide +kernel
theorem d12_10 : DK cB12 10 (.iload_n 1) 1 := by decide +kernel
theorem d12_11 : DK cB12 11 (.aload_n 0) 1 := by decide +kernel
theorem d12_12 : DK cB12 12 (.getfield 22) 3 := by decide +kernel
theorem d12_15 : DK cB12 15 (.invokevirtual 399) 3 := by decide +kernel
theorem d14_0 : DK cB14 0 (.aload_n 0) 1 := by decide +kernel
theorem d14_1 : DK cB14 1 (.invokevirtual 335) 3 := by decide +kernel
theorem d14_4 : DK cB14 4 (.iload_n 3) 1 := by decide +kernel
theorem d14_5 : DK cB14 5 (.if_icmp .ne 23) 3 := by decide +kernel
theorem d14_8 : DK cB14 8 (.aload_n 0) 1 := by decide +kernel
theorem d14_9 : DK cB14 9 (.getfield 9) 3 := by decide +kernel
theorem d14_12 : DK cB14 12 (.iconst 0) 1 := by decide +kernel
theorem d14_13 : DK cB14 13 (.aload_n 1) 1 := by decide +kernel
theorem d14_14 : DK cB14 14 (.iload_n 2) 1 := by decide +kernel
theorem d14_15 : DK cB14 15 (.iload_n 3) 1 := by decide +kernel
theorem d14_16 : DK cB14 16 (.ishl) 1 := by decide +kernel
theorem d14_17 : DK cB14 17 (.aload_n 0) 1 := by decide +kernel
theorem d14_18 : DK cB14 18 (.getfield 9) 3 := by decide +kernel
theorem d14_21 : DK cB14 21 (.arraylength) 1 := by decide +kernel
theorem d14_22 : DK cB14 22 (.invokestatic 212) 3 := by decide +kernel
theorem own_usAll {vs : List Value} {dv : Value} {nn : Int32} (h : vs.length = nn.toNatClampNeg) : vs = (List.range nn.toNatClampNeg).map fun i => vs.getD ((0 : Int32).toNatClampNeg + i) dv := by
  rw [← h]
  refine List.ext_getElem? fun i => ?_
  by_cases hi : i < vs.length
  · simp [List.getElem?_range hi, show (0 : Int32).toNatClampNeg = 0 from rfl, hi]
  · rw [List.getElem?_eq_none (by omega), List.getElem?_eq_none (by rw [List.length_map, List.length_range]; omega)]
theorem own_cpx {Z : State} {h : Heap} {a : Addr} {k : ClassId} {ty : FieldType} {z : Int32} {A B : List Value} {d : Value} {p q n m : Nat} (h1 : p = n) (h2 : p + q = m) (V : Arv Z h a k ty z (A.take p ++ B ++ A.drop (p + q)) d) : Arv Z h a k ty z (A.take n ++ B ++ A.drop m) d := by
  subst h1 h2; exact V
theorem d14_25 : DK cB14 25 (.goto 18) 3 := by decide +kernel
theorem d14_43 : DK cB14 43 (.return_) 1 := by decide +kernel
def Q14_1 (Z : State) (r0 r1 : Addr) (x2 x3 : Int32) (x4 x5 : Int32) (r6 : Addr) (x7 : Int32) (c8 : ClassId) (t9 : List Value) (x10 : Int32) (c11 : ClassId) (t12 : List Value) (h0 : Heap) (n0 : Nat) (v : Option Value) (h : Heap) (L : List Loc) : Prop := v = none ∧ Fr n0 L ∧ Keep h0 h [r1] ∧ Arv Z h r1 c11 .byte x10 (t12.take ((x2 <<< (x3 &&& 31))).toNatClampNeg ++ t9 ++ t12.drop (((x2 <<< (x3 &&& 31))).toNatClampNeg + (x7).toNatClampNeg)) vI0
theorem rm14_1 (l : Launch) (Z : State) (a0 : Array Value) (hw : own_HW a0 Z) (ws : List Jvm.Cond) (r0 r1 : Addr) (x2 x3 : Int32) (x4 x5 : Int32) (r6 : Addr) (x7 : Int32) (c8 : ClassId) (t9 : List Value) (x10 : Int32) (c11 : ClassId) (t12 : List Value) (h0 : Heap) (n0 : Nat) (O0 : Old Z n0 h0) (f1 : Exa Z h0 r0 "java/lang/String") (f2 : Sta Z Z.heap "java/lang/String" "COMPACT_STRINGS" "Z" (.int x4)) (hc3 : ¬ (x4 = (0 : Int32))) (f4 : Fld Z h0 r0 "java/lang/String" "coder" "B" (.int x5)) (hc6 : (nar .byte x5) = x3) (f7 : Fld Z h0 r0 "java/lang/String" "value" "[B" (.ref r6)) (f10 : Arv Z h0 r6 c8 .byte x7 t9 vI0) (f12 : Arv Z h0 r1 c11 .byte x10 t12 vI0) (hc13 : t9.length = (x7).toNatClampNeg) (hc14 : t12.length = (x10).toNatClampNeg) (hc15 : ¬ ((x2 <<< (x3 &&& 31)) < 0)) (hc16 : ¬ (x7 < 0)) (hc17 : ((x2 <<< (x3 &&& 31))).toNatClampNeg + (x7).toNatClampNeg ≤ (x10).toNatClampNeg) (g18 : n0 ≤ r1) :
    own_MF l mN8 jdk_42_method_147_code 4 none ws rR1_0_0_24 Z h0 #[(.ref r0), (.ref r1), (.int x2), (.int x3)] (Q14_1 Z r0 r1 x2 x3 x4 x5 r6 x7 c8 t9 x10 c11 t12 h0 n0) := by
  refine own_open (plainFor_of_name pn_java_lang_String) (L0 := #[lR r0, lR r1, lI x2, lI x3]) (fun _ => by first | (simp [entryFrame, mkF, argsToLocals, Value.category]; done) | rfl) ?_
  intro p e s m below meth c s₁ hx hby hml hret hnn hZ hown X0 e0
  have N0 := Fr.nil n0; have w := @ww Z a0 hw
  obtain ⟨_, T5, Lc5, X5, hQ5, st5⟩ := own_cV X0 hx hZ hown e0 (rm10_1 l Z a0 hw [] r0 x4 x5 h0 n0 O0 f2 hc3 f4) f1 (w 63 rfl) (w 64 rfl) (w 66 rfl) (w 65 rfl) (w 67 rfl) (w 4 rfl) (by decide) (W := 0) (by decide) (by decide) (by decide) (by decide) (g := (mkF m 1 #[lR r0, lR r1, lI x2, lI x3] [(.ref r0)])) rfl (by rw [hml]; rfl) (argsL := []) (rest := []) (lenOf pd___B rfl) rfl (own_W rfl) (hb hby d14_1)
  obtain ⟨rfl, N5q, E5⟩ := hQ5
  have N5 := Fr.app N0 N5q
  obtain ⟨T8, X8, e8, st8⟩ := getF X5 hx hZ hown (host := "") (Or.inl (w 21 rfl)) Via.refl E5 f7 (g := (mkF m 9 #[lR r0, lR r1, lI x2, lI x3] [(.ref r0)])) rfl rfl (hb hby d14_9)
  obtain ⟨T9, X9, e9, st9⟩ := getF X8 hx hZ hown (host := "") (Or.inl (w 21 rfl)) Via.refl e8 f7 (g := (mkF m 18 #[lR r0, lR r1, lI x2, lI x3] [(.ref r0), (.int (x2 <<< (x3 &&& 31))), (.ref r1), vI0, (.ref r6)])) rfl rfl (hb hby d14_18)
  obtain ⟨clq11, Arq11, qq11, Sq11, Nq11, Hq11, Gq11⟩ := id f10
  obtain ⟨T19, h19, L19, X19, e19, N19, K19, B19, st19⟩ := cpA X9 hx hZ hown (w 92 rfl) (w 95 rfl) (w 93 rfl) (w 94 rfl) e9 f10 f12 (us := t9) (Or.inl ⟨rfl, rfl⟩) (by decide) hc15 hc16 (Nat.le_of_eq (Nat.zero_add _)) hc17 (own_usAll hc13) (by rw [hc14]; exact hc17) N5 g18 (g := (mkF m 22 #[lR r0, lR r1, lI x2, lI x3] [(.int x7), (.int (x2 <<< (x3 &&& 31))), (.ref r1), vI0, (.ref r6)])) rfl (by rw [hml]; rfl) rfl (hb hby d14_22) (by decide) (W := 0) (own_W rfl) (by decide)
  have V19 : Arv Z h19 r1 c11 .byte x10 (t12.take ((x2 <<< (x3 &&& 31))).toNatClampNeg ++ t9 ++ t12.drop (((x2 <<< (x3 &&& 31))).toNatClampNeg + (x7).toNatClampNeg)) vI0 := B19
  have kp20 : Keep h0 h19 [r1] := (Keep.refl h0 [r1]).trans K19 (allS (Or.inl (List.mem_of_getElem? (i := 0) rfl)) all0)
  refine ⟨none, _, _, _, _, (fun _ => rfl), X19, by decide, by decide, ?_, fun fs hr => ?_⟩
  · rw [e19]; exact ⟨rfl, N19, kp20, V19⟩
  · show SG p e below s₁ (mkF m 0 #[lR r0, lR r1, lI x2, lI x3] []) _
    refine qaN X0 hx hby d14_0 ?_
    refine st5 _ ?_
    refine qiN X5 hx hby d14_4 ?_
    refine XS.icmpNo X5.here hx rfl (hb hby d14_5) rfl (teq hc6).2 ?_
    refine qaN X5 hx hby d14_8 ?_
    refine st8 _ ?_
    refine qc X8 hx hby d14_12 ?_
    refine qaN X8 hx hby d14_13 ?_
    refine qiN X8 hx hby d14_14 ?_
    refine qiN X8 hx hby d14_15 ?_
    show SG p e below T8 (mkF m 16 #[lR r0, lR r1, lI x2, lI x3] [(.int x3), (.int x2), (.ref r1), vI0, (.ref r6)]) _
    refine XS.ishl X8.here hx rfl (hb hby d14_16) rfl ?_
    refine qaN X8 hx hby d14_17 ?_
    refine st9 _ ?_
    refine X9.arraylength hx (by rw [e9]; exact Arq11.1) (State.isArrayOf_alike hZ.alike Arq11.2.1) (g := (mkF m 21 #[lR r0, lR r1, lI x2, lI x3] [(.ref r6), (.int (x2 <<< (x3 &&& 31))), (.ref r1), vI0, (.ref r6)])) rfl rfl (hb hby d14_21) _ ?_
    rw [len_of Sq11 Nq11]
    refine st19 _ ?_
    refine XS.goto X19.here hx rfl (pc0 := 25) (pc' := 43) rfl (hb hby d14_25) (by decide) (by decide) ?_
    exact X19.returnOut hx hret (hb hby d14_43) hr
theorem pd___BIB_V : parseMethodDescriptor "([BIB)V" = some ⟨[(.array .byte), .int, .byte], none⟩ := by decide +kernel
theorem d12_18 : DK cB12 18 (.return_) 1 := by decide +kernel
def Q12_1 (Z : State) (r0 : Addr) (x1 : Int32) (r2 : Addr) (x3 x4 x5 : Int32) (r6 r7 : Addr) (x8 : Int32) (c9 : ClassId) (t10 : List Value) (x11 : Int32) (c12 : ClassId) (t13 : List Value) (h0 : Heap) (n0 : Nat) (v : Option Value) (h : Heap) (L : List Loc) : Prop := v = none ∧ Fr n0 L ∧ Keep h0 h [r6] ∧ Arv Z h r6 c12 .byte x11 (t13.take ((x1 <<< (x4 &&& 31))).toNatClampNeg ++ t10 ++ t13.drop (((x1 <<< (x4 &&& 31))).toNatClampNeg + (x8).toNatClampNeg)) vI0
theorem rm12_1 (l : Launch) (Z : State) (a0 : Array Value) (hw : own_HW a0 Z) (ws : List Jvm.Cond) (r0 : Addr) (x1 : Int32) (r2 : Addr) (x3 x4 x5 : Int32) (r6 r7 : Addr) (x8 : Int32) (c9 : ClassId) (t10 : List Value) (x11 : Int32) (c12 : ClassId) (t13 : List Value) (h0 : Heap) (n0 : Nat) (O0 : Old Z n0 h0) (f1 : Exa Z h0 r0 "java/lang/StringBuilder") (f2 : Sta Z Z.heap "java/lang/String" "COMPACT_STRINGS" "Z" (.int x3)) (hc3 : ¬ (x3 = (0 : Int32))) (f4 : Fld Z h0 r0 cs0 "coder" "B" (.int x4)) (f5 : Exa Z h0 r2 "java/lang/String") (f6 : Fld Z h0 r2 "java/lang/String" "coder" "B" (.int x5)) (hc7 : x4 = (nar .byte x5)) (f10 : Fld Z h0 r0 cs0 "value" "[B" (.ref r6)) (hc13 : (nar .byte x5) = x4) (f14 : Fld Z h0 r2 "java/lang/String" "value" "[B" (.ref r7)) (f15 : Arv Z h0 r7 c9 .byte x8 t10 vI0) (f16 : Arv Z h0 r6 c12 .byte x11 t13 vI0) (hc17 : t10.length = (x8).toNatClampNeg) (hc18 : t13.length = (x11).toNatClampNeg) (hc19 : ¬ ((x1 <<< (x4 &&& 31)) < 0)) (hc20 : ¬ (x8 < 0)) (hc21 : ((x1 <<< (x4 &&& 31))).toNatClampNeg + (x8).toNatClampNeg ≤ (x11).toNatClampNeg) (g22 : n0 ≤ r6) :
    own_MF l mN9 jdk_68_method_73_code 3 none ws rR2_0_0_39 Z h0 #[(.ref r0), (.int x1), (.ref r2)] (Q12_1 Z r0 x1 r2 x3 x4 x5 r6 r7 x8 c9 t10 x11 c12 t13 h0 n0) := by
  refine own_open (plainFor_of_name pn_java_lang_AbstractStringBuilder) (L0 := #[lR r0, lI x1, lR r2]) (fun _ => by first | (simp [entryFrame, mkF, argsToLocals, Value.category]; done) | rfl) ?_
  intro p e s m below meth c s₁ hx hby hml hret hnn hZ hown X0 e0
  have N0 := Fr.nil n0; have w := @ww Z a0 hw
  obtain ⟨cqq9, qq9, qq9'⟩ := f1.cell
  obtain ⟨_, T8, Lc8, X8, hQ8, st8⟩ := own_fin (X0.privateBack hx (y := mN7) hown (mvT hZ (w 81 rfl)) (mvT hZ (w 82 rfl)) (own_selfsel (mvT hZ (w 84 rfl)) (Cond.privateMethod_at (mvP hZ (w 83 rfl) (args := #[]))) (mvT hZ (w 82 rfl)) (by decide)) (Cond.privateMethod_at (mvP hZ (w 83 rfl) (args := #[]))) (mvT hZ (w 85 rfl)) (by decide) (backOf (W := 0) (rm13_1 l Z a0 hw [] r0 r2 x3 x4 x5 h0 n0 O0 f2 hc3 f4 f5 f6 hc7) hZ (w 85 rfl) (w 39 rfl) (by decide) (by decide)) (g := (mkF m 2 #[lR r0, lI x1, lR r2] [(.ref r2), (.ref r0)])) rfl (by rw [hml]; rfl) (Steps.refl _) (a := r0) (by rw [e0]; exact qq9) qq9' (argsL := [(.ref r2)]) (rest := []) (lenOf pd__Ljava_lang_String__V rfl) rfl (own_W rfl) (hb hby d12_2) (fun _ _ => ⟨rfl, e0, (by decide : 0 + 0 ≤ _), (by decide : 0 + 0 ≤ _)⟩))
  obtain ⟨rfl, N8q, E8⟩ := hQ8
  have N8 := Fr.app N0 N8q
  obtain ⟨T11, X11, e11, st11⟩ := getF X8 hx hZ hown (host := "") (Or.inl (w 43 rfl)) Via.refl E8 f10 (g := (mkF m 7 #[lR r0, lI x1, lR r2] [(.ref r0), (.ref r2)])) rfl rfl (hb hby d12_7)
  obtain ⟨T12, X12, e12, st12⟩ := getF X11 hx hZ hown (host := "") (Or.inl (w 45 rfl)) Via.refl e11 f4 (g := (mkF m 12 #[lR r0, lI x1, lR r2] [(.ref r0), (.int x1), (.ref r6), (.ref r2)])) rfl rfl (hb hby d12_12)
  obtain ⟨_, T23, Lc23, X23, hQ23, st23⟩ := own_cV X12 hx hZ hown e12 (rm14_1 l Z a0 hw [] r2 r6 x1 x4 x3 x5 r7 x8 c9 t10 x11 c12 t13 h0 n0 O0 f5 f2 hc3 f6 hc13 f14 f15 f16 hc17 hc18 hc19 hc20 hc21 g22) f5 (w 87 rfl) (w 88 rfl) (w 90 rfl) (w 89 rfl) (w 91 rfl) (w 4 rfl) (by decide) (W := 0) (by decide) (by decide) (by decide) (by decide) (g := (mkF m 15 #[lR r0, lI x1, lR r2] [(.int x4), (.int x1), (.ref r6), (.ref r2)])) rfl (by rw [hml]; rfl) (argsL := [(.ref r6), (.int x1), (.int x4)]) (rest := []) (lenOf pd___BIB_V rfl) rfl (own_W rfl) (hb hby d12_15)
  obtain ⟨rfl, N23q, K23, f24⟩ := hQ23
  have N23 := Fr.app N8 N23q
  have kp25 : Keep h0 T23.heap [r6] := (Keep.refl h0 [r6]).trans K23 (allS (Or.inl (List.mem_of_getElem? (i := 0) rfl)) all0)
  refine ⟨none, _, _, _, _, (fun _ => rfl), X23, by decide, by decide, ?_, fun fs hr => ?_⟩
  · exact ⟨rfl, N23, kp25, f24⟩
  · show SG p e below s₁ (mkF m 0 #[lR r0, lI x1, lR r2] []) _
    refine qaN X0 hx hby d12_0 ?_
    refine qaN X0 hx hby d12_1 ?_
    refine st8.trans ?_
    refine qaN X8 hx hby d12_5 ?_
    refine qaN X8 hx hby d12_6 ?_
    refine st11 _ ?_
    refine qiN X11 hx hby d12_10 ?_
    refine qaN X11 hx hby d12_11 ?_
    refine st12 _ ?_
    refine st23 _ ?_
    show SG p e below T23 (mkF m 18 #[lR r0, lI x1, lR r2] []) _
    exact X23.returnOut hx hret (hb hby d12_18) hr
theorem pd__ILjava_lang_String__V : parseMethodDescriptor "(ILjava/lang/String;)V" = some ⟨[.int, (.object "java/lang/String")], none⟩ := by decide +kernel
theorem d8_33 : DK cB8 33 (.aload_n 0) 1 := by decide +kernel
theorem d8_34 : DK cB8 34 (.dup) 1 := by decide +kernel
theorem d8_35 : DK cB8 35 (.getfield 79) 3 := by decide +kernel
theorem d8_38 : DK cB8 38 (.iload_n 2) 1 := by decide +kernel
theorem d8_39 : DK cB8 39 (.iadd) 1 := by decide +kernel
theorem d8_40 : DK cB8 40 (.putfield 79) 3 := by decide +kernel
theorem d8_43 : DK cB8 43 (.aload_n 0) 1 := by decide +kernel
theorem d8_44 : DK cB8 44 (.areturn) 1 := by decide +kernel
def Q8_1 (Z : State) (r0 r1 r2 : Addr) (x3 : Int32) (c4 : ClassId) (t5 : List Value) (x6 x7 x8 : Int32) (r9 : Addr) (x10 : Int32) (c11 : ClassId) (t12 : List Value) (x13 x14 : Int32) (h0 : Heap) (n0 : Nat) (v : Option Value) (h : Heap) (L : List Loc) : Prop := v = some (.ref r0) ∧ Fr n0 L ∧ Keep h0 h [r9, r0] ∧ Arv Z h r9 c11 .byte x10 (t12.take ((x8 <<< (x13 &&& 31))).toNatClampNeg ++ t5 ++ t12.drop (((x8 <<< (x13 &&& 31))).toNatClampNeg + (x3).toNatClampNeg)) vI0 ∧ Fld Z h r0 cs0 "count" "I" (.int (x8 + (x3 >>> ((nar .byte x7) &&& 31)))) ∧ Fld Z h r0 cs0 "value" "[B" (.ref r9) ∧ Fld Z h r0 cs0 "coder" "B" (.int x13) ∧ Fld Z h r0 cs0 "maybeLatin1" "Z" (.int x14)
theorem rm8_1 (l : Launch) (Z : State) (a0 : Array Value) (hw : own_HW a0 Z) (ws : List Jvm.Cond) (r0 r1 r2 : Addr) (x3 : Int32) (c4 : ClassId) (t5 : List Value) (x6 x7 x8 : Int32) (r9 : Addr) (x10 : Int32) (c11 : ClassId) (t12 : List Value) (x13 x14 : Int32) (h0 : Heap) (n0 : Nat) (O0 : Old Z n0 h0) (f1 : Exa Z h0 r1 "java/lang/String") (f2 : Fld Z h0 r1 "java/lang/String" "value" "[B" (.ref r2)) (f3 : Arv Z h0 r2 c4 .byte x3 t5 vI0) (f4 : Sta Z Z.heap "java/lang/String" "COMPACT_STRINGS" "Z" (.int x6)) (hc5 : ¬ (x6 = (0 : Int32))) (f6 : Fld Z h0 r1 "java/lang/String" "coder" "B" (.int x7)) (f8 : Fld Z h0 r0 cs0 "count" "I" (.int x8)) (f10 : Exa Z h0 r0 "java/lang/StringBuilder") (f11 : Fld Z h0 r0 cs0 "value" "[B" (.ref r9)) (f12 : Arv Z h0 r9 c11 .byte x10 t12 vI0) (f13 : Fld Z h0 r0 cs0 "coder" "B" (.int x13)) (hc14 : ¬ ((0 : Int32) < ((x8 + (x3 >>> ((nar .byte x7) &&& 31))) - (x10 >>> (x13 &&& 31))))) (hc18 : x13 = (nar .byte x7)) (hc19 : (nar .byte x7) = x13) (hc20 : t5.length = (x3).toNatClampNeg) (hc21 : t12.length = (x10).toNatClampNeg) (hc22 : ¬ ((x8 <<< (x13 &&& 31)) < 0)) (hc23 : ¬ (x3 < 0)) (hc24 : ((x8 <<< (x13 &&& 31))).toNatClampNeg + (x3).toNatClampNeg ≤ (x10).toNatClampNeg) (g25 : n0 ≤ r9) (n29 : r0 ≠ r9) (g33 : n0 ≤ r0) (f35 : Fld Z h0 r0 cs0 "maybeLatin1" "Z" (.int x14)) :
    own_MF l mN10 jdk_68_method_22_code 3 (some (.object cs0)) ws rR3_0_0_53 Z h0 #[(.ref r0), (.ref r1)] (Q8_1 Z r0 r1 r2 x3 c4 t5 x6 x7 x8 r9 x10 c11 t12 x13 x14 h0 n0) := by
  refine own_open (plainFor_of_name pn_java_lang_AbstractStringBuilder) (L0 := #[lR r0, lR r1, lU]) (fun _ => by first | (simp [entryFrame, mkF, argsToLocals, Value.category]; done) | rfl) ?_
  intro p e s m below meth c s₁ hx hby hml hret hnn hZ hown X0 e0
  have N0 := Fr.nil n0; have w := @ww Z a0 hw
  obtain ⟨_, T7, Lc7, X7, hQ7, st7⟩ := own_cV X0 hx hZ hown e0 (rm9_1 l Z a0 hw [] r1 r2 x3 c4 t5 x6 x7 h0 n0 O0 f2 f3 f1 f4 hc5 f6) f1 (w 58 rfl) (w 59 rfl) (w 61 rfl) (w 60 rfl) (w 62 rfl) (w 4 rfl) (by decide) (W := 0) (by decide) (by decide) (by decide) (by decide) (g := (mkF m 10 #[lR r0, lR r1, lU] [(.ref r1)])) rfl (by rw [hml]; rfl) (argsL := []) (rest := []) (lenOf pd___I rfl) rfl (own_W rfl) (hb hby d8_10)
  obtain ⟨rfl, N7q, E7⟩ := hQ7
  have N7 := Fr.app N0 N7q
  obtain ⟨T9, X9, e9, st9⟩ := getF X7 hx hZ hown (host := "") (Or.inl (w 69 rfl)) Via.refl E7 f8 (g := (mkF m 16 #[lR r0, lR r1, .val (.int (x3 >>> ((nar .byte x7) &&& 31)))] [(.ref r0), (.ref r0)])) rfl rfl (hb hby d8_16)
  obtain ⟨cqq16, qq16, qq16'⟩ := f10.cell
  obtain ⟨_, T15, Lc15, X15, hQ15, st15⟩ := own_fin (X9.privateBack hx (y := mN6) hown (mvT hZ (w 71 rfl)) (mvT hZ (w 72 rfl)) (own_selfsel (mvT hZ (w 74 rfl)) (Cond.privateMethod_at (mvP hZ (w 73 rfl) (args := #[]))) (mvT hZ (w 72 rfl)) (by decide)) (Cond.privateMethod_at (mvP hZ (w 73 rfl) (args := #[]))) (mvT hZ (w 75 rfl)) (by decide) (backOf (W := 0) (rm11_1 l Z a0 hw [] r0 (x8 + (x3 >>> ((nar .byte x7) &&& 31))) r9 x10 c11 t12 x13 h0 n0 O0 f11 f12 f13 hc14) hZ (w 75 rfl) (w 39 rfl) (by decide) (by decide)) (g := (mkF m 21 #[lR r0, lR r1, .val (.int (x3 >>> ((nar .byte x7) &&& 31)))] [(.int (x8 + (x3 >>> ((nar .byte x7) &&& 31)))), (.ref r0)])) rfl (by rw [hml]; rfl) (Steps.refl _) (a := r0) (by rw [e9]; exact qq16) qq16' (argsL := [(.int (x8 + (x3 >>> ((nar .byte x7) &&& 31))))]) (rest := []) (lenOf pd__I_V rfl) rfl (own_W rfl) (hb hby d8_21) (fun _ _ => ⟨rfl, e9, (by decide : 0 + 0 ≤ _), (by decide : 0 + 0 ≤ _)⟩))
  obtain ⟨rfl, N15q, E15⟩ := hQ15
  have N15 := Fr.app N7 N15q
  obtain ⟨T17, X17, e17, st17⟩ := getF X15 hx hZ hown (host := "") (Or.inl (w 69 rfl)) Via.refl E15 f8 (g := (mkF m 26 #[lR r0, lR r1, .val (.int (x3 >>> ((nar .byte x7) &&& 31)))] [(.ref r0), (.ref r0)])) rfl rfl (hb hby d8_26)
  obtain ⟨cqq27, qq27, qq27'⟩ := f10.cell
  obtain ⟨_, T26, Lc26, X26, hQ26, st26⟩ := own_fin (X17.privateBack hx (y := mN9) hown (mvT hZ (w 76 rfl)) (mvT hZ (w 77 rfl)) (own_selfsel (mvT hZ (w 79 rfl)) (Cond.privateMethod_at (mvP hZ (w 78 rfl) (args := #[]))) (mvT hZ (w 77 rfl)) (by decide)) (Cond.privateMethod_at (mvP hZ (w 78 rfl) (args := #[]))) (mvT hZ (w 80 rfl)) (by decide) (backOf (W := 0) (rm12_1 l Z a0 hw [] r0 x8 r1 x6 x13 x7 r9 r2 x3 c4 t5 x10 c11 t12 h0 n0 O0 f10 f4 hc5 f13 f1 f6 hc18 f11 hc19 f2 f3 f12 hc20 hc21 hc22 hc23 hc24 g25) hZ (w 80 rfl) (w 39 rfl) (by decide) (by decide)) (g := (mkF m 30 #[lR r0, lR r1, .val (.int (x3 >>> ((nar .byte x7) &&& 31)))] [(.ref r1), (.int x8), (.ref r0)])) rfl (by rw [hml]; rfl) (Steps.refl _) (a := r0) (by rw [e17]; exact qq27) qq27' (argsL := [(.int x8), (.ref r1)]) (rest := []) (lenOf pd__ILjava_lang_String__V rfl) rfl (own_W rfl) (hb hby d8_30) (fun _ _ => ⟨rfl, e17, (by decide : 0 + 0 ≤ _), (by decide : 0 + 0 ≤ _)⟩))
  obtain ⟨rfl, N26q, K26, f28⟩ := hQ26
  have N26 := Fr.app N15 N26q
  have f30 := (f8.keep K26 (ninS n29 nin0))
  obtain ⟨T31, X31, e31, st31⟩ := getF X26 hx hZ hown (host := "") (Or.inl (w 69 rfl)) Via.refl rfl f30 (g := (mkF m 35 #[lR r0, lR r1, .val (.int (x3 >>> ((nar .byte x7) &&& 31)))] [(.ref r0), (.ref r0)])) rfl rfl (hb hby d8_35)
  have f32 := (f10.keep K26)
  obtain ⟨T34, h34, X34, e34, W34, st34⟩ := putF X31 hx hZ hown (host := "") (Or.inl (w 69 rfl)) Via.refl e31 f30 f32 (Or.inl (w 70 rfl)) (w 30 rfl) (ty := .int) (by decide) rfl rfl (g := (mkF m 40 #[lR r0, lR r1, .val (.int (x3 >>> ((nar .byte x7) &&& 31)))] [(.int (x8 + (x3 >>> ((nar .byte x7) &&& 31)))), (.ref r0)])) rfl rfl (hb hby d8_40)
  have Fw34 := f30.same W34
  have N34 := Fr.snoc X34 N26 g33
  have f36 := ((f35.keep K26 (ninS n29 nin0)).other W34 (Or.inr (slot_ne (Or.inl (w 235 rfl)) (Or.inl (w 70 rfl)) (by decide) (t := .boolean) (t' := .int) (by decide) (by decide))))
  have f37 := (f28.other W34 (Ne.symm n29))
  have f38 := ((f11.keep K26 (ninS n29 nin0)).other W34 (Or.inr (slot_ne (Or.inl (w 44 rfl)) (Or.inl (w 70 rfl)) (by decide) (t := (.array .byte)) (t' := .int) (by decide) (by decide))))
  have f39 := ((f13.keep K26 (ninS n29 nin0)).other W34 (Or.inr (slot_ne (Or.inl (w 46 rfl)) (Or.inl (w 70 rfl)) (by decide) (t := .byte) (t' := .int) (by decide) (by decide))))
  have kp40 : Keep h0 T26.heap [r9, r0] := (Keep.refl h0 [r9, r0]).trans K26 (allS (Or.inl (List.mem_of_getElem? (i := 0) rfl)) all0)
  have kp41 : Keep h0 h34 [r9, r0] := kp40.wr W34 (Or.inl (List.mem_of_getElem? (i := 1) rfl))
  refine ⟨some (.ref r0), _, _, _, _, nofun, X34, by decide, by decide, ?_, fun fs hr => ?_⟩
  · rw [e34]; exact ⟨rfl, N34, kp41, f37, Fw34, f38, f39, f36⟩
  · show SG p e below s₁ (mkF m 0 #[lR r0, lR r1, lU] []) _
    refine qaN X0 hx hby d8_0 ?_
    refine XS.ifnonnullYes X0.here hx rfl (pc0 := 1) (pc' := 9) rfl (hb hby d8_1) rfl (by decide) (by decide) ?_
    refine qaN X0 hx hby d8_9 ?_
    refine st7 _ ?_
    refine XS.istoreN X7.here hx rfl (hb hby d8_13) rfl (l' := #[lR r0, lR r1, .val (.int (x3 >>> ((nar .byte x7) &&& 31)))]) rfl ?_
    refine qaN X7 hx hby d8_14 ?_
    refine qaN X7 hx hby d8_15 ?_
    refine st9 _ ?_
    refine qiN X9 hx hby d8_19 ?_
    refine XS.iadd X9.here hx rfl (hb hby d8_20) rfl ?_
    show SG p e below T9 (mkF m 21 #[lR r0, lR r1, .val (.int (x3 >>> ((nar .byte x7) &&& 31)))] [(.int (x8 + (x3 >>> ((nar .byte x7) &&& 31)))), (.ref r0)]) _
    refine st15.trans ?_
    refine qaN X15 hx hby d8_24 ?_
    refine qaN X15 hx hby d8_25 ?_
    refine st17 _ ?_
    refine qaN X17 hx hby d8_29 ?_
    refine st26.trans ?_
    refine qaN X26 hx hby d8_33 ?_
    refine qd X26 hx hby d8_34 ?_
    refine st31 _ ?_
    refine qiN X31 hx hby d8_38 ?_
    show SG p e below T31 (mkF m 39 #[lR r0, lR r1, .val (.int (x3 >>> ((nar .byte x7) &&& 31)))] [(.int (x3 >>> ((nar .byte x7) &&& 31))), (.int x8), (.ref r0)]) _
    refine XS.iadd X31.here hx rfl (hb hby d8_39) rfl ?_
    refine st34 _ ?_
    refine qaN X34 hx hby d8_43 ?_
    exact retOut X34 hx (i := .areturn) hret rfl (Or.inr (Or.inr (Or.inr (Or.inr ⟨rfl, rfl, rfl⟩)))) (hb hby d8_44) hr
theorem pd__Ljava_lang_String__Ljava_lang_AbstractStringBuilder_ : parseMethodDescriptor cs1 = some ⟨[(.object "java/lang/String")], some (.object cs0)⟩ := by decide +kernel
theorem own_sameOwn {Z : State} {a0 : Array Value} {C : String} {y0 y' y : MethodName} (hsel : (Jvm.Cond.selects C y0 y').before a0 Z = true) (hc : y'.cls = y.cls) (hinst : (Jvm.Cond.instanceMethod y).before a0 Z = true) (hy : y.cls ≠ "java/lang/invoke/MethodHandle" ∧ y.cls ≠ "java/lang/invoke/VarHandle") : (Jvm.Cond.sameMethod y.cls y.cls y.name y.desc).before a0 Z = true := by
  obtain ⟨c2, r2, m2, -, -, q3, -, kP, hkP, hkPi⟩ := Cond.selects_spec hsel
  obtain ⟨mk, methM, hnamed, hmethM, -, -⟩ := Cond.instanceMethod_spec hinst
  have hfound : Z.methodFound? y.cls y.name y.desc = some mk := State.methodFound?_of_named hnamed hy
  have f1 := findClass_of_methodNamed hnamed
  have f2 := findClass_of_methodNamed q3
  rw [hc, f1] at f2
  have e : mk.cls = m2.cls := Option.some.inj f2
  rw [← e] at hkP
  have hn2 : Z.methodNamed? ⟨y.cls, y.name, y.desc⟩ = some mk := hnamed
  simp only [Cond.before, Cond.holds, Cond.value, f1, hfound, hn2, hkP]
  simp [hkPi]
theorem d7_5 : DK cB7 5 (.pop) 1 := by decide +kernel
theorem d7_6 : DK cB7 6 (.aload_n 0) 1 := by decide +kernel
theorem d7_7 : DK cB7 7 (.areturn) 1 := by decide +kernel
def Q7_1 (Z : State) (r0 r1 r2 : Addr) (x3 : Int32) (c4 : ClassId) (t5 : List Value) (x6 x7 x8 : Int32) (r9 : Addr) (x10 : Int32) (c11 : ClassId) (t12 : List Value) (x13 x14 : Int32) (h0 : Heap) (n0 : Nat) (v : Option Value) (h : Heap) (L : List Loc) : Prop := v = some (.ref r0) ∧ Fr n0 L ∧ Keep h0 h [r9, r0] ∧ Arv Z h r9 c11 .byte x10 (t12.take ((x8 <<< (x13 &&& 31))).toNatClampNeg ++ t5 ++ t12.drop (((x8 <<< (x13 &&& 31))).toNatClampNeg + (x3).toNatClampNeg)) vI0 ∧ Fld Z h r0 cs0 "count" "I" (.int (x8 + (x3 >>> ((nar .byte x7) &&& 31)))) ∧ Fld Z h r0 cs0 "value" "[B" (.ref r9) ∧ Fld Z h r0 cs0 "coder" "B" (.int x13) ∧ Fld Z h r0 cs0 "maybeLatin1" "Z" (.int x14)
theorem rm7_1 (l : Launch) (Z : State) (a0 : Array Value) (hw : own_HW a0 Z) (ws : List Jvm.Cond) (r0 r1 r2 : Addr) (x3 : Int32) (c4 : ClassId) (t5 : List Value) (x6 x7 x8 : Int32) (r9 : Addr) (x10 : Int32) (c11 : ClassId) (t12 : List Value) (x13 x14 : Int32) (h0 : Heap) (n0 : Nat) (O0 : Old Z n0 h0) (f1 : Exa Z h0 r1 "java/lang/String") (f2 : Fld Z h0 r1 "java/lang/String" "value" "[B" (.ref r2)) (f3 : Arv Z h0 r2 c4 .byte x3 t5 vI0) (f4 : Sta Z Z.heap "java/lang/String" "COMPACT_STRINGS" "Z" (.int x6)) (hc5 : ¬ (x6 = (0 : Int32))) (f6 : Fld Z h0 r1 "java/lang/String" "coder" "B" (.int x7)) (f7 : Fld Z h0 r0 cs0 "count" "I" (.int x8)) (f8 : Exa Z h0 r0 "java/lang/StringBuilder") (f9 : Fld Z h0 r0 cs0 "value" "[B" (.ref r9)) (f10 : Arv Z h0 r9 c11 .byte x10 t12 vI0) (f11 : Fld Z h0 r0 cs0 "coder" "B" (.int x13)) (hc12 : ¬ ((0 : Int32) < ((x8 + (x3 >>> ((nar .byte x7) &&& 31))) - (x10 >>> (x13 &&& 31))))) (hc13 : x13 = (nar .byte x7)) (hc14 : (nar .byte x7) = x13) (hc15 : t5.length = (x3).toNatClampNeg) (hc16 : t12.length = (x10).toNatClampNeg) (hc17 : ¬ ((x8 <<< (x13 &&& 31)) < 0)) (hc18 : ¬ (x3 < 0)) (hc19 : ((x8 <<< (x13 &&& 31))).toNatClampNeg + (x3).toNatClampNeg ≤ (x10).toNatClampNeg) (g20 : n0 ≤ r9) (n21 : r0 ≠ r9) (g22 : n0 ≤ r0) (f23 : Fld Z h0 r0 cs0 "maybeLatin1" "Z" (.int x14)) :
    own_MF l mN11 jdk_67_method_7_code 2 (some (.object "java/lang/StringBuilder")) ws rR4_0_0_67 Z h0 #[(.ref r0), (.ref r1)] (Q7_1 Z r0 r1 r2 x3 c4 t5 x6 x7 x8 r9 x10 c11 t12 x13 x14 h0 n0) := by
  refine own_open (plainFor_of_name pn_java_lang_StringBuilder) (L0 := #[lR r0, lR r1]) (fun _ => by first | (simp [entryFrame, mkF, argsToLocals, Value.category]; done) | rfl) ?_
  intro p e s m below meth c s₁ hx hby hml hret hnn hZ hown X0 e0
  have N0 := Fr.nil n0; have w := @ww Z a0 hw
  obtain ⟨_, T24, Lc24, X24, hQ24, st24⟩ := own_fin (superBack X0 hx hZ (y := mN10) hown (w 53 rfl) (own_sameOwn (y := mN10) (w 74 rfl) rfl (w 54 rfl) (by decide)) (w 54 rfl) (w 55 rfl) (by decide) (backOf (W := 0) (rm8_1 l Z a0 hw [] r0 r1 r2 x3 c4 t5 x6 x7 x8 r9 x10 c11 t12 x13 x14 h0 n0 O0 f1 f2 f3 f4 hc5 f6 f7 f8 f9 f10 f11 hc12 hc13 hc14 hc15 hc16 hc17 hc18 hc19 g20 n21 g22 f23) hZ (w 57 rfl) (w 39 rfl) (by decide) (by decide)) e0 (Ins.self f8) (g := (mkF m 2 #[lR r0, lR r1] [(.ref r1), (.ref r0)])) rfl (by rw [hml]; rfl) (w 57 rfl) (argsL := [(.ref r1)]) (rest := []) (lenOf pd__Ljava_lang_String__Ljava_lang_AbstractStringBuilder_ rfl) rfl (own_W rfl) (hb hby d7_2) (fun _ _ => ⟨rfl, e0, (by decide : 0 + 0 ≤ _), (by decide : 0 + 0 ≤ _)⟩))
  obtain ⟨rfl, N24q, K24, f25, f26, f27, f28, f29⟩ := hQ24
  have N24 := Fr.app N0 N24q
  have kp30 : Keep h0 T24.heap [r9, r0] := (Keep.refl h0 [r9, r0]).trans K24 (allS (Or.inl (List.mem_of_getElem? (i := 0) rfl)) (allS (Or.inl (List.mem_of_getElem? (i := 1) rfl)) all0))
  refine ⟨some (.ref r0), _, _, _, _, nofun, X24, by decide, by decide, ?_, fun fs hr => ?_⟩
  · exact ⟨rfl, N24, kp30, f25, f26, f27, f28, f29⟩
  · show SG p e below s₁ (mkF m 0 #[lR r0, lR r1] []) _
    refine qaN X0 hx hby d7_0 ?_
    refine qaN X0 hx hby d7_1 ?_
    refine st24.trans ?_
    refine XS.pop X24.here hx rfl (hb hby d7_5) rfl rfl ?_
    refine qaN X24 hx hby d7_6 ?_
    exact retOut X24 hx (i := .areturn) hret rfl (Or.inr (Or.inr (Or.inr (Or.inr ⟨rfl, rfl, rfl⟩)))) (hb hby d7_7) hr
theorem pd__Ljava_lang_String__Ljava_lang_StringBuilder_ : parseMethodDescriptor cs2 = some ⟨[(.object "java/lang/String")], some (.object "java/lang/StringBuilder")⟩ := by decide +kernel
theorem d4_16 : DK cB4 16 (.aload_n 0) 1 := by decide +kernel
theorem d4_17 : DK cB4 17 (.invokevirtual 18) 3 := by decide +kernel
theorem d4_20 : DK cB4 20 (.invokevirtual 22) 3 := by decide +kernel
theorem d15_0 : DK cB15 0 (.new 18) 3 := by decide +kernel
theorem d15_3 : DK cB15 3 (.dup) 1 := by decide +kernel
theorem d15_4 : DK cB15 4 (.aload_n 0) 1 := by decide +kernel
theorem d15_5 : DK cB15 5 (.invokespecial 137) 3 := by decide +kernel
theorem d16_0 : DK cB16 0 (.aload_n 0) 1 := by decide +kernel
theorem d16_1 : DK cB16 1 (.aload_n 1) 1 := by decide +kernel
theorem d16_2 : DK cB16 2 (.aconst_null) 1 := by decide +kernel
theorem d16_3 : DK cB16 3 (.invokespecial 489) 3 := by decide +kernel
theorem d17_0 : DK cB17 0 (.aload_n 0) 1 := by decide +kernel
theorem d17_1 : DK cB17 1 (.invokespecial 1) 3 := by decide +kernel
theorem d17_4 : DK cB17 4 (.aload_n 1) 1 := by decide +kernel
theorem d17_5 : DK cB17 5 (.invokevirtual 552) 3 := by decide +kernel
theorem d18_0 : DK cB18 0 (.aload_n 0) 1 := by decide +kernel
theorem d18_1 : DK cB18 1 (.getfield 15) 3 := by decide +kernel
theorem d18_4 : DK cB18 4 (.areturn) 1 := by decide +kernel
def Q18_1 (Z : State) (r0 r1 : Addr) (h0 : Heap) (n0 : Nat) (v : Option Value) (h : Heap) (L : List Loc) : Prop := v = some (.ref r1) ∧ Fr n0 L ∧ h = h0
theorem rm18_1 (l : Launch) (Z : State) (a0 : Array Value) (hw : own_HW a0 Z) (ws : List Jvm.Cond) (r0 r1 : Addr) (h0 : Heap) (n0 : Nat) (O0 : Old Z n0 h0) (f1 : Fld Z h0 r0 cs0 "value" "[B" (.ref r1)) :
    own_MF l mN12 jdk_68_method_64_code 1 (some (.array .byte)) ws rR0_0_0_0 Z h0 #[(.ref r0)] (Q18_1 Z r0 r1 h0 n0) := by
  refine own_open (plainFor_of_name pn_java_lang_AbstractStringBuilder) (L0 := #[lR r0]) (fun _ => by first | (simp [entryFrame, mkF, argsToLocals, Value.category]; done) | rfl) ?_
  intro p e s m below meth c s₁ hx hby hml hret hnn hZ hown X0 e0
  have N0 := Fr.nil n0
  obtain ⟨T2, X2, e2, st2⟩ := getF X0 hx hZ hown (host := "") (Or.inl (ww hw 43 rfl)) Via.refl e0 f1 (g := (mkF m 1 #[lR r0] [(.ref r0)])) rfl rfl (hb hby d18_1)
  refine ⟨some (.ref r1), _, _, _, _, nofun, X2, by decide, by decide, ?_, fun fs hr => ?_⟩
  · rw [e2]; exact ⟨rfl, N0, rfl⟩
  · show SG p e below s₁ (mkF m 0 #[lR r0] []) _
    refine qaN X0 hx hby d18_0 ?_
    refine st2 _ ?_
    exact retOut X2 hx (i := .areturn) hret rfl (Or.inr (Or.inr (Or.inr (Or.inr ⟨rfl, rfl, rfl⟩)))) (hb hby d18_4) hr
theorem pd____B : parseMethodDescriptor "()[B" = some ⟨[], some (.array .byte)⟩ := by decide +kernel
theorem d17_8 : DK cB17 8 (.astore_n 3) 1 := by decide +kernel
theorem d17_9 : DK cB17 9 (.aload_n 1) 1 := by decide +kernel
theorem d17_10 : DK cB17 10 (.invokevirtual 549) 3 := by decide +kernel
theorem d19_0 : DK cB19 0 (.aload_n 0) 1 := by decide +kernel
theorem d19_1 : DK cB19 1 (.invokespecial 343) 3 := by decide +kernel
theorem d20_0 : DK cB20 0 (.aload_n 0) 1 := by decide +kernel
theorem d20_1 : DK cB20 1 (.getfield 79) 3 := by decide +kernel
theorem d20_4 : DK cB20 4 (.ireturn) 1 := by decide +kernel
def Q20_1 (Z : State) (r0 : Addr) (x1 : Int32) (h0 : Heap) (n0 : Nat) (v : Option Value) (h : Heap) (L : List Loc) : Prop := v = some (.int x1) ∧ Fr n0 L ∧ h = h0
theorem rm20_1 (l : Launch) (Z : State) (a0 : Array Value) (hw : own_HW a0 Z) (ws : List Jvm.Cond) (r0 : Addr) (x1 : Int32) (h0 : Heap) (n0 : Nat) (O0 : Old Z n0 h0) (f1 : Fld Z h0 r0 cs0 "count" "I" (.int x1)) :
    own_MF l mN13 jdk_68_method_6_code 1 (some .int) ws rR0_0_0_0 Z h0 #[(.ref r0)] (Q20_1 Z r0 x1 h0 n0) := by
  refine own_open (plainFor_of_name pn_java_lang_AbstractStringBuilder) (L0 := #[lR r0]) (fun _ => by first | (simp [entryFrame, mkF, argsToLocals, Value.category]; done) | rfl) ?_
  intro p e s m below meth c s₁ hx hby hml hret hnn hZ hown X0 e0
  have N0 := Fr.nil n0
  obtain ⟨T2, X2, e2, st2⟩ := getF X0 hx hZ hown (host := "") (Or.inl (ww hw 69 rfl)) Via.refl e0 f1 (g := (mkF m 1 #[lR r0] [(.ref r0)])) rfl rfl (hb hby d20_1)
  refine ⟨some (.int x1), _, _, _, _, nofun, X2, by decide, by decide, ?_, fun fs hr => ?_⟩
  · rw [e2]; exact ⟨rfl, N0, rfl⟩
  · show SG p e below s₁ (mkF m 0 #[lR r0] []) _
    refine qaN X0 hx hby d20_0 ?_
    refine st2 _ ?_
    exact retOut X2 hx (i := .ireturn) hret rfl (Or.inl ⟨rfl, Or.inl rfl, _, rfl⟩) (hb hby d20_4) hr
theorem d19_4 : DK cB19 4 (.ireturn) 1 := by decide +kernel
def Q19_1 (Z : State) (r0 : Addr) (x1 : Int32) (h0 : Heap) (n0 : Nat) (v : Option Value) (h : Heap) (L : List Loc) : Prop := v = some (.int x1) ∧ Fr n0 L ∧ h = h0
theorem rm19_1 (l : Launch) (Z : State) (a0 : Array Value) (hw : own_HW a0 Z) (ws : List Jvm.Cond) (r0 : Addr) (x1 : Int32) (h0 : Heap) (n0 : Nat) (O0 : Old Z n0 h0) (f1 : Fld Z h0 r0 cs0 "count" "I" (.int x1)) (f3 : Exa Z h0 r0 "java/lang/StringBuilder") :
    own_MF l mN14 jdk_67_method_93_code 1 (some .int) ws rR1_0_0_12 Z h0 #[(.ref r0)] (Q19_1 Z r0 x1 h0 n0) := by
  refine own_open (plainFor_of_name pn_java_lang_StringBuilder) (L0 := #[lR r0]) (fun _ => by first | (simp [entryFrame, mkF, argsToLocals, Value.category]; done) | rfl) ?_
  intro p e s m below meth c s₁ hx hby hml hret hnn hZ hown X0 e0
  have N0 := Fr.nil n0; have w := @ww Z a0 hw
  obtain ⟨_, T2, Lc2, X2, hQ2, st2⟩ := own_fin (superBack X0 hx hZ (y := mN13) hown (w 119 rfl) (own_sameOwn (y := mN13) (w 74 rfl) rfl (w 115 rfl) (by decide)) (w 115 rfl) (w 55 rfl) (by decide) (backOf (W := 0) (rm20_1 l Z a0 hw [] r0 x1 h0 n0 O0 f1) hZ (w 120 rfl) (w 39 rfl) (by decide) (by decide)) e0 (Ins.self f3) (g := (mkF m 1 #[lR r0] [(.ref r0)])) rfl (by rw [hml]; rfl) (w 120 rfl) (argsL := []) (rest := []) (lenOf pd___I rfl) rfl (own_W rfl) (hb hby d19_1) (fun _ _ => ⟨rfl, e0, (by decide : 0 + 0 ≤ _), (by decide : 0 + 0 ≤ _)⟩))
  obtain ⟨rfl, N2q, E2⟩ := hQ2
  have N2 := Fr.app N0 N2q
  refine ⟨some (.int x1), _, _, _, _, nofun, X2, by decide, by decide, ?_, fun fs hr => ?_⟩
  · rw [E2]; exact ⟨rfl, N2, rfl⟩
  · show SG p e below s₁ (mkF m 0 #[lR r0] []) _
    refine qaN X0 hx hby d19_0 ?_
    refine st2.trans ?_
    exact retOut X2 hx (i := .ireturn) hret rfl (Or.inl ⟨rfl, Or.inl rfl, _, rfl⟩) (hb hby d19_4) hr
theorem own_nfSel {s : State} {args : Array Value} {C : String} {y0 y' y : MethodName} (hsel : (Jvm.Cond.selects C y0 y').before args s = true) (hc : y'.cls = y.cls) : NotFace s y := fun r0 h0 => by
  obtain ⟨c2, r2, m2, -, -, q3, -, kP, hkP, hkPi⟩ := Cond.selects_spec hsel
  have f1 := findClass_of_methodNamed h0
  have f2 := findClass_of_methodNamed q3
  rw [hc, f1] at f2
  have e : r0.cls = m2.cls := Option.some.inj f2
  rw [← e] at hkP
  exact ⟨kP, hkP, hkPi⟩
theorem d17_13 : DK cB17 13 (.istore 4) 2 := by decide +kernel
theorem d17_15 : DK cB17 15 (.aload_n 1) 1 := by decide +kernel
theorem d17_16 : DK cB17 16 (.invokevirtual 1047) 3 := by decide +kernel
theorem d21_0 : DK cB21 0 (.getstatic 18) 3 := by decide +kernel
theorem d21_3 : DK cB21 3 (.ifCond .eq 14) 3 := by decide +kernel
theorem d21_6 : DK cB21 6 (.aload_n 0) 1 := by decide +kernel
theorem d21_7 : DK cB21 7 (.getfield 22) 3 := by decide +kernel
theorem d21_10 : DK cB21 10 (.ifCond .ne 7) 3 := by decide +kernel
theorem d21_13 : DK cB21 13 (.iconst 1) 1 := by decide +kernel
theorem d21_14 : DK cB21 14 (.goto 4) 3 := by decide +kernel
theorem d21_18 : DK cB21 18 (.ireturn) 1 := by decide +kernel
def Q21_1 (Z : State) (r0 : Addr) (x1 x2 : Int32) (h0 : Heap) (n0 : Nat) (v : Option Value) (h : Heap) (L : List Loc) : Prop := v = some vI1 ∧ Fr n0 L ∧ h = h0
theorem rm21_1 (l : Launch) (Z : State) (a0 : Array Value) (hw : own_HW a0 Z) (ws : List Jvm.Cond) (r0 : Addr) (x1 x2 : Int32) (h0 : Heap) (n0 : Nat) (O0 : Old Z n0 h0) (f1 : Sta Z Z.heap "java/lang/String" "COMPACT_STRINGS" "Z" (.int x1)) (hc4 : ¬ (x1 = (0 : Int32))) (f5 : Fld Z h0 r0 cs0 "coder" "B" (.int x2)) (hc7 : x2 = (0 : Int32)) :
    own_MF l mN15 jdk_68_method_68_code 1 (some .boolean) ws rR0_0_0_0 Z h0 #[(.ref r0)] (Q21_1 Z r0 x1 x2 h0 n0) := by
  refine own_open (plainFor_of_name pn_java_lang_AbstractStringBuilder) (L0 := #[lR r0]) (fun _ => by first | (simp [entryFrame, mkF, argsToLocals, Value.category]; done) | rfl) ?_
  intro p e s m below meth c s₁ hx hby hml hret hnn hZ hown X0 e0
  have N0 := Fr.nil n0
  have f2 := f1.ext O0.2
  obtain ⟨T3, X3, e3, st3⟩ := getS2 X0 hx hZ hown (host := "") (Or.inl (ww hw 42 rfl)) Via.refl e0 f2 (g := (mkF m 0 #[lR r0] [])) rfl (hb hby d21_0)
  obtain ⟨T6, X6, e6, st6⟩ := getF X3 hx hZ hown (host := "") (Or.inl (ww hw 45 rfl)) Via.refl e3 f5 (g := (mkF m 7 #[lR r0] [(.ref r0)])) rfl rfl (hb hby d21_7)
  refine ⟨some vI1, _, _, _, _, nofun, X6, by decide, by decide, ?_, fun fs hr => ?_⟩
  · rw [e6]; exact ⟨rfl, N0, rfl⟩
  · show SG p e below s₁ (mkF m 0 #[lR r0] []) _
    refine st3 _ ?_
    refine XS.ifNo X3.here hx rfl (hb hby d21_3) rfl ((if0 _ _).trans (feq hc4).1) ?_
    refine qaN X3 hx hby d21_6 ?_
    refine st6 _ ?_
    refine XS.ifNo X6.here hx rfl (hb hby d21_10) rfl ((if0 _ _).trans (teq hc7).2) ?_
    refine qc X6 hx hby d21_13 ?_
    refine XS.goto X6.here hx rfl (pc0 := 14) (pc' := 18) rfl (hb hby d21_14) (by decide) (by decide) ?_
    exact retN X6 hx (t := .boolean) hret (by simp) (hb hby d21_18) hr
theorem pd___Z : parseMethodDescriptor "()Z" = some ⟨[], some .boolean⟩ := by decide +kernel
theorem d17_19 : DK cB17 19 (.ifCond .eq 22) 3 := by decide +kernel
theorem d17_22 : DK cB17 22 (.aload_n 0) 1 := by decide +kernel
theorem d17_23 : DK cB17 23 (.iconst 0) 1 := by decide +kernel
theorem d17_24 : DK cB17 24 (.putfield 15) 3 := by decide +kernel
theorem d17_27 : DK cB17 27 (.aload_n 0) 1 := by decide +kernel
theorem d17_28 : DK cB17 28 (.aload_n 3) 1 := by decide +kernel
theorem d17_29 : DK cB17 29 (.iconst 0) 1 := by decide +kernel
theorem d17_30 : DK cB17 30 (.iload 4) 2 := by decide +kernel
theorem d17_32 : DK cB17 32 (.invokestatic 54) 3 := by decide +kernel
theorem d22_0 : DK cB22 0 (.iload_n 1) 1 := by decide +kernel
theorem d22_1 : DK cB22 1 (.ifCond .ne 9) 3 := by decide +kernel
theorem d22_4 : DK cB22 4 (.iload_n 2) 1 := by decide +kernel
theorem d22_5 : DK cB22 5 (.aload_n 0) 1 := by decide +kernel
theorem d22_6 : DK cB22 6 (.arraylength) 1 := by decide +kernel
theorem d22_7 : DK cB22 7 (.if_icmp .eq 10) 3 := by decide +kernel
theorem d22_10 : DK cB22 10 (.aload_n 0) 1 := by decide +kernel
theorem d22_11 : DK cB22 11 (.iload_n 1) 1 := by decide +kernel
theorem d22_12 : DK cB22 12 (.iload_n 2) 1 := by decide +kernel
theorem d22_13 : DK cB22 13 (.invokestatic 339) 3 := by decide +kernel
theorem d23_0 : DK cB23 0 (.iload_n 1) 1 := by decide +kernel
theorem d23_1 : DK cB23 1 (.iload_n 2) 1 := by decide +kernel
theorem d23_2 : DK cB23 2 (.invokestatic 343) 3 := by decide +kernel
theorem d24_0 : DK cB24 0 (.iload_n 1) 1 := by decide +kernel
theorem d24_1 : DK cB24 1 (.iload_n 0) 1 := by decide +kernel
theorem d24_2 : DK cB24 2 (.if_icmp .ge 35) 3 := by decide +kernel
theorem d24_37 : DK cB24 37 (.return_) 1 := by decide +kernel
theorem pn_java_util_Arrays : plainName "java/util/Arrays" = true := by first | (simp [plainName, overriddenIn]; done) | decide +kernel
def Q24_1 (Z : State) (x0 x1 : Int32) (h0 : Heap) (n0 : Nat) (v : Option Value) (h : Heap) (L : List Loc) : Prop := v = none ∧ Fr n0 L ∧ h = h0
theorem rm24_1 (l : Launch) (Z : State) (a0 : Array Value) (hw : own_HW a0 Z) (ws : List Jvm.Cond) (x0 x1 : Int32) (h0 : Heap) (n0 : Nat) (O0 : Old Z n0 h0) (hc1 : ¬ (x1 < x0)) :
    own_MF l mN16 jdk_65_method_131_code 2 none ws rR0_0_0_0 Z h0 #[(.int x0), (.int x1)] (Q24_1 Z x0 x1 h0 n0) := by
  refine own_open (plainFor_of_name pn_java_util_Arrays) (L0 := #[lI x0, lI x1]) (fun _ => by first | (simp [entryFrame, mkF, argsToLocals, Value.category]; done) | rfl) ?_
  intro p e s m below meth c s₁ hx hby hml hret hnn hZ hown X0 e0
  have N0 := Fr.nil n0
  refine ⟨none, _, _, _, _, (fun _ => rfl), X0, by decide, by decide, ?_, fun fs hr => ?_⟩
  · rw [e0]; exact ⟨rfl, N0, rfl⟩
  · show SG p e below s₁ (mkF m 0 #[lI x0, lI x1] []) _
    refine qiN X0 hx hby d24_0 ?_
    refine qiN X0 hx hby d24_1 ?_
    refine XS.icmpYes X0.here hx rfl (pc0 := 2) (pc' := 37) rfl (hb hby d24_2) rfl (flt hc1).2.1 (by decide) (by decide) ?_
    exact X0.returnOut hx hret (hb hby d24_37) hr
theorem pd__II_V : parseMethodDescriptor "(II)V" = some ⟨[.int, .int], none⟩ := by decide +kernel
theorem d23_5 : DK cB23 5 (.iload_n 2) 1 := by decide +kernel
theorem d23_6 : DK cB23 6 (.iload_n 1) 1 := by decide +kernel
theorem d23_7 : DK cB23 7 (.isub) 1 := by decide +kernel
theorem d23_8 : DK cB23 8 (.istore_n 3) 1 := by decide +kernel
theorem d23_9 : DK cB23 9 (.iload_n 3) 1 := by decide +kernel
theorem d23_10 : DK cB23 10 (.newarray .byte) 2 := by decide +kernel
theorem d23_12 : DK cB23 12 (.astore 4) 2 := by decide +kernel
theorem d23_14 : DK cB23 14 (.aload_n 0) 1 := by decide +kernel
theorem d23_15 : DK cB23 15 (.iload_n 1) 1 := by decide +kernel
theorem d23_16 : DK cB23 16 (.aload 4) 2 := by decide +kernel
theorem d23_18 : DK cB23 18 (.iconst 0) 1 := by decide +kernel
theorem d23_19 : DK cB23 19 (.aload_n 0) 1 := by decide +kernel
theorem d23_20 : DK cB23 20 (.arraylength) 1 := by decide +kernel
theorem d23_21 : DK cB23 21 (.iload_n 1) 1 := by decide +kernel
theorem d23_22 : DK cB23 22 (.isub) 1 := by decide +kernel
theorem d23_23 : DK cB23 23 (.iload_n 3) 1 := by decide +kernel
theorem d23_24 : DK cB23 24 (.invokestatic 304) 3 := by decide +kernel
theorem d25_0 : DK cB25 0 (.iload_n 0) 1 := by decide +kernel
theorem d25_1 : DK cB25 1 (.iload_n 1) 1 := by decide +kernel
theorem d25_2 : DK cB25 2 (.if_icmp .gt 7) 3 := by decide +kernel
theorem d25_9 : DK cB25 9 (.iload_n 1) 1 := by decide +kernel
theorem d25_10 : DK cB25 10 (.ireturn) 1 := by decide +kernel
def Q25_1 (Z : State) (x0 x1 : Int32) (h0 : Heap) (n0 : Nat) (v : Option Value) (h : Heap) (L : List Loc) : Prop := v = some (.int x1) ∧ Fr n0 L ∧ h = h0
theorem rm25_1 (l : Launch) (Z : State) (a0 : Array Value) (hw : own_HW a0 Z) (ws : List Jvm.Cond) (x0 x1 : Int32) (h0 : Heap) (n0 : Nat) (O0 : Old Z n0 h0) (hc1 : x1 < x0) :
    own_MF l mN17 jdk_29_method_69_code 2 (some .int) ws rR0_0_0_0 Z h0 #[(.int x0), (.int x1)] (Q25_1 Z x0 x1 h0 n0) := by
  refine own_open (Jvm.Free.JP.mathPlain rfl (by decide +kernel)) (L0 := #[lI x0, lI x1]) (fun _ => by first | (simp [entryFrame, mkF, argsToLocals, Value.category]; done) | rfl) ?_
  intro p e s m below meth c s₁ hx hby hml hret hnn hZ hown X0 e0
  have N0 := Fr.nil n0
  refine ⟨some (.int x1), _, _, _, _, nofun, X0, by decide, by decide, ?_, fun fs hr => ?_⟩
  · rw [e0]; exact ⟨rfl, N0, rfl⟩
  · show SG p e below s₁ (mkF m 0 #[lI x0, lI x1] []) _
    refine qiN X0 hx hby d25_0 ?_
    refine qiN X0 hx hby d25_1 ?_
    refine XS.icmpYes X0.here hx rfl (pc0 := 2) (pc' := 9) rfl (hb hby d25_2) rfl (tlt hc1).2.2.1 (by decide) (by decide) ?_
    refine qiN X0 hx hby d25_9 ?_
    exact retOut X0 hx (i := .ireturn) hret rfl (Or.inl ⟨rfl, Or.inl rfl, _, rfl⟩) (hb hby d25_10) hr
theorem pd__II_I : parseMethodDescriptor "(II)I" = some ⟨[.int, .int], some .int⟩ := by decide +kernel
theorem d23_27 : DK cB23 27 (.invokestatic 150) 3 := by decide +kernel
theorem d23_30 : DK cB23 30 (.aload 4) 2 := by decide +kernel
theorem d23_32 : DK cB23 32 (.areturn) 1 := by decide +kernel
def Q23_1 (Z : State) (r0 : Addr) (x1 x2 : Int32) (c3 : ClassId) (t4 : List Value) (h0 : Heap) (n0 : Nat) (v : Option Value) (h : Heap) (L : List Loc) : Prop := ∃ (b5 : Addr) (k5 : ClassId), v = some (.ref b5) ∧ Fr n0 L ∧ Keep h0 h [] ∧ h0.size ≤ b5 ∧ Arv Z h b5 k5 .byte (x1 - (0 : Int32)) t4 vI0 ∧ Exa Z h b5 "[B"
theorem rm23_1 (l : Launch) (Z : State) (a0 : Array Value) (hw : own_HW a0 Z) (ws : List Jvm.Cond) (r0 : Addr) (x1 x2 : Int32) (c3 : ClassId) (t4 : List Value) (h0 : Heap) (n0 : Nat) (O0 : Old Z n0 h0) (hc1 : ¬ (x1 < (0 : Int32))) (hc3 : ¬ ((x1 - (0 : Int32)) < 0)) (hc4 : ((x1 - (0 : Int32))).toNatClampNeg ≤ 16) (f6 : Arv Z h0 r0 c3 .byte x2 t4 vI0) (hc9 : (x1 - (0 : Int32)) < (x2 - (0 : Int32))) (hc12 : ((x1 - (0 : Int32))).toNatClampNeg ≤ (x2).toNatClampNeg) :
    own_MF l mN18 jdk_65_method_133_code 5 (some (.array .byte)) ws rR1_1_16_24 Z h0 #[(.ref r0), vI0, (.int x1)] (Q23_1 Z r0 x1 x2 c3 t4 h0 n0) := by
  refine own_open (plainFor_of_name pn_java_util_Arrays) (L0 := #[lR r0, lV vI0, lI x1, lU, lU]) (fun _ => by first | (simp [entryFrame, mkF, argsToLocals, Value.category]; done) | rfl) ?_
  intro p e s m below meth c s₁ hx hby hml hret hnn hZ hown X0 e0
  have N0 := Fr.nil n0; have w := @ww Z a0 hw
  obtain ⟨_, T2, Lc2, X2, hQ2, st2⟩ := own_cS X0 hx hZ hown e0 (rm24_1 l Z a0 hw [] (0 : Int32) x1 h0 n0 O0 hc1) (w 133 rfl) (w 134 rfl) (w 128 rfl) (w 135 rfl) (by decide) (W := 0) (by decide) (by decide) (by decide) (by decide) (g := (mkF m 2 #[lR r0, lV vI0, lI x1, lU, lU] [(.int x1), vI0])) rfl (by rw [hml]; rfl) (argsL := [vI0, (.int x1)]) (rest := []) (lenOf pd__II_V rfl) rfl (own_W rfl) (hb hby d23_2)
  obtain ⟨rfl, N2q, E2⟩ := hQ2
  have N2 := Fr.app N0 N2q
  obtain ⟨T5, h5, k5, X5, e5, E5, A5, B5, st5⟩ := newPE X2 hx hZ (w 16 rfl) E2 (g := (mkF m 10 #[lR r0, lV vI0, lI x1, .val (.int (x1 - (0 : Int32))), lU] [(.int (x1 - (0 : Int32)))])) rfl (hb hby d23_10) rfl hc3 (cap := 16) hc4 (by decide) (by decide) (by decide) (ad := "[B") rfl
  obtain ⟨b5, g5⟩ : ∃ z, z = h0.size := ⟨_, rfl⟩
  rw [← g5] at A5 B5 st5
  have V5 : Arv Z h5 b5 k5 .byte (x1 - (0 : Int32)) [] vI0 := Arv.new A5 hc3
  have f7 := (f6.ext E5)
  obtain ⟨clq8, Arq8, qq8, Sq8, Nq8, Hq8, Gq8⟩ := id f7
  have o10 := Old.ext O0 E5
  obtain ⟨_, T11, Lc11, X11, hQ11, st11⟩ := own_cS X5 hx hZ hown e5 (rm25_1 l Z a0 hw [] (x2 - (0 : Int32)) (x1 - (0 : Int32)) h5 n0 o10 hc9) (w 136 rfl) (w 137 rfl) (w 138 rfl) (w 139 rfl) (by decide) (W := 4) (by decide) (by decide) (by decide) (by decide) (g := (mkF m 24 #[lR r0, lV vI0, lI x1, .val (.int (x1 - (0 : Int32))), lR b5] [(.int (x1 - (0 : Int32))), (.int (x2 - (0 : Int32))), vI0, (.ref b5), vI0, (.ref r0)])) rfl (by rw [hml]; rfl) (argsL := [(.int (x2 - (0 : Int32))), (.int (x1 - (0 : Int32)))]) (rest := [vI0, (.ref b5), vI0, (.ref r0)]) (lenOf pd__II_I rfl) rfl (own_W rfl) (hb hby d23_24)
  obtain ⟨rfl, N11q, E11⟩ := hQ11
  have N11 := Fr.app N2 N11q
  have zz13 : n0 ≤ h0.size := by rw [← O0.1]; exact O0.2.1
  have g14 := Nat.le_trans zz13 (Nat.le_of_eq g5.symm)
  obtain ⟨T15, h15, L15, X15, e15, N15, K15, B15, st15⟩ := cpA X11 hx hZ hown (w 140 rfl) (w 95 rfl) (w 93 rfl) (w 94 rfl) E11 f7 (own_padZ V5 ((x1 - (0 : Int32))).toNatClampNeg) (Or.inl ⟨rfl, rfl⟩) (by decide) (by decide) hc3 (by rw [show (0 : Int32).toNatClampNeg = 0 from rfl, Nat.zero_add]; exact hc12) (by rw [show (0 : Int32).toNatClampNeg = 0 from rfl, Nat.zero_add]; exact Nat.le_of_eq rfl) rfl (by rw [show (0 : Int32).toNatClampNeg = 0 from rfl, Nat.zero_add, List.length_replicate]; exact Nat.le_refl _) N11 g14 (g := (mkF m 27 #[lR r0, lV vI0, lI x1, .val (.int (x1 - (0 : Int32))), lR b5] [(.int (x1 - (0 : Int32))), vI0, (.ref b5), vI0, (.ref r0)])) rfl (by rw [hml]; rfl) rfl (hb hby d23_27) (by decide) (W := 0) (own_W rfl) (by decide)
  have V15 : Arv Z h15 b5 k5 .byte (x1 - (0 : Int32)) t4 vI0 := own_cpAll rfl B15
  have f16 := (B5.keep K15)
  have kp17 : Keep h0 h5 [] := (Keep.refl h0 []).ext E5
  have kp18 : Keep h0 h15 [] := kp17.trans K15 (allS (Or.inr (Nat.le_of_eq g5.symm)) all0)
  refine ⟨some (.ref b5), _, _, _, _, nofun, X15, by decide, by decide, ?_, fun fs hr => ?_⟩
  · rw [e15]; exact ⟨b5, k5, rfl, N15, kp18, (Nat.le_of_eq g5.symm), V15, f16⟩
  · show SG p e below s₁ (mkF m 0 #[lR r0, lV vI0, lI x1, lU, lU] []) _
    refine qiN X0 hx hby d23_0 ?_
    refine qiN X0 hx hby d23_1 ?_
    refine st2 _ ?_
    refine qiN X2 hx hby d23_5 ?_
    refine qiN X2 hx hby d23_6 ?_
    refine XS.isub X2.here hx rfl (hb hby d23_7) rfl ?_
    refine XS.istoreN X2.here hx rfl (hb hby d23_8) rfl (l' := #[lR r0, lV vI0, lI x1, .val (.int (x1 - (0 : Int32))), lU]) rfl ?_
    refine qiN X2 hx hby d23_9 ?_
    refine st5 _ ?_
    refine XS.astore X5.here hx rfl (hb hby d23_12) rfl rfl (l' := #[lR r0, lV vI0, lI x1, .val (.int (x1 - (0 : Int32))), lR b5]) rfl ?_
    show SG p e below T5 (mkF m 14 #[lR r0, lV vI0, lI x1, .val (.int (x1 - (0 : Int32))), lR b5] []) _
    refine qaN X5 hx hby d23_14 ?_
    refine qiN X5 hx hby d23_15 ?_
    refine qa X5 hx hby d23_16 ?_
    refine qc X5 hx hby d23_18 ?_
    refine qaN X5 hx hby d23_19 ?_
    refine X5.arraylength hx (by rw [e5]; exact Arq8.1) (State.isArrayOf_alike hZ.alike Arq8.2.1) (g := (mkF m 20 #[lR r0, lV vI0, lI x1, .val (.int (x1 - (0 : Int32))), lR b5] [(.ref r0), vI0, (.ref b5), vI0, (.ref r0)])) rfl rfl (hb hby d23_20) _ ?_
    rw [len_of Sq8 Nq8]
    refine qiN X5 hx hby d23_21 ?_
    refine XS.isub X5.here hx rfl (hb hby d23_22) rfl ?_
    refine qiN X5 hx hby d23_23 ?_
    refine st11 _ ?_
    show SG p e below T11 (mkF m 27 #[lR r0, lV vI0, lI x1, .val (.int (x1 - (0 : Int32))), lR b5] [(.int (x1 - (0 : Int32))), vI0, (.ref b5), vI0, (.ref r0)]) _
    refine st15 _ ?_
    refine qa X15 hx hby d23_30 ?_
    exact retOut X15 hx (i := .areturn) hret rfl (Or.inr (Or.inr (Or.inr (Or.inr ⟨rfl, rfl, rfl⟩)))) (hb hby d23_32) hr
theorem pd___BII__B : parseMethodDescriptor "([BII)[B" = some ⟨[(.array .byte), .int, .int], some (.array .byte)⟩ := by decide +kernel
theorem d22_16 : DK cB22 16 (.areturn) 1 := by decide +kernel
def Q22_1 (Z : State) (r0 : Addr) (x1 x2 : Int32) (c3 : ClassId) (t4 : List Value) (h0 : Heap) (n0 : Nat) (v : Option Value) (h : Heap) (L : List Loc) : Prop := ∃ (b9_0 : Addr) (k9_0 : ClassId), v = some (.ref b9_0) ∧ Fr n0 L ∧ Keep h0 h [] ∧ h0.size ≤ b9_0 ∧ Arv Z h b9_0 k9_0 .byte (x1 - (0 : Int32)) t4 vI0 ∧ Exa Z h b9_0 "[B"
theorem rm22_1 (l : Launch) (Z : State) (a0 : Array Value) (hw : own_HW a0 Z) (ws : List Jvm.Cond) (r0 : Addr) (x1 x2 : Int32) (c3 : ClassId) (t4 : List Value) (h0 : Heap) (n0 : Nat) (O0 : Old Z n0 h0) (f1 : Arv Z h0 r0 c3 .byte x2 t4 vI0) (hc3 : ¬ (x1 = x2)) (hc4 : ¬ (x1 < (0 : Int32))) (hc5 : ¬ ((x1 - (0 : Int32)) < 0)) (hc6 : ((x1 - (0 : Int32))).toNatClampNeg ≤ 16) (hc7 : (x1 - (0 : Int32)) < (x2 - (0 : Int32))) (hc8 : ((x1 - (0 : Int32))).toNatClampNeg ≤ (x2).toNatClampNeg) :
    own_MF l mN19 jdk_65_method_132_code 3 (some (.array .byte)) ws rR2_1_16_40 Z h0 #[(.ref r0), vI0, (.int x1)] (Q22_1 Z r0 x1 x2 c3 t4 h0 n0) := by
  refine own_open (plainFor_of_name pn_java_util_Arrays) (L0 := #[lR r0, lV vI0, lI x1]) (fun _ => by first | (simp [entryFrame, mkF, argsToLocals, Value.category]; done) | rfl) ?_
  intro p e s m below meth c s₁ hx hby hml hret hnn hZ hown X0 e0
  have N0 := Fr.nil n0
  obtain ⟨clq2, Arq2, qq2, Sq2, Nq2, Hq2, Gq2⟩ := id f1
  obtain ⟨_, T9, Lc9, X9, hQ9, st9⟩ := own_cS X0 hx hZ hown e0 (rm23_1 l Z a0 hw [] r0 x1 x2 c3 t4 h0 n0 O0 hc4 hc5 hc6 f1 hc7 hc8) (ww hw 130 rfl) (ww hw 131 rfl) (ww hw 128 rfl) (ww hw 132 rfl) (by decide) (W := 0) (by decide) (by decide) (by decide) (by decide) (g := (mkF m 13 #[lR r0, lV vI0, lI x1] [(.int x1), vI0, (.ref r0)])) rfl (by rw [hml]; rfl) (argsL := [(.ref r0), vI0, (.int x1)]) (rest := []) (lenOf pd___BII__B rfl) rfl (own_W rfl) (hb hby d22_13)
  obtain ⟨b9_0, k9_0, rfl, N9q, K9, f10, f11, f12⟩ := hQ9
  have N9 := Fr.app N0 N9q
  have kp13 : Keep h0 T9.heap [] := (Keep.refl h0 []).trans K9 all0
  refine ⟨some (.ref b9_0), _, _, _, _, nofun, X9, by decide, by decide, ?_, fun fs hr => ?_⟩
  · exact ⟨b9_0, k9_0, rfl, N9, kp13, f10, f11, f12⟩
  · show SG p e below s₁ (mkF m 0 #[lR r0, lV vI0, lI x1] []) _
    refine qiN X0 hx hby d22_0 ?_
    refine XS.ifNo X0.here hx rfl (hb hby d22_1) rfl ((if0 _ _).trans (teq (rfl : (0 : Int32) = (0 : Int32))).2) ?_
    refine qiN X0 hx hby d22_4 ?_
    refine qaN X0 hx hby d22_5 ?_
    refine X0.arraylength hx (by rw [e0]; exact Arq2.1) (State.isArrayOf_alike hZ.alike Arq2.2.1) (g := (mkF m 6 #[lR r0, lV vI0, lI x1] [(.ref r0), (.int x1)])) rfl rfl (hb hby d22_6) _ ?_
    rw [len_of Sq2 Nq2]
    refine XS.icmpNo X0.here hx rfl (hb hby d22_7) rfl (feq hc3).1 ?_
    refine qaN X0 hx hby d22_10 ?_
    refine qiN X0 hx hby d22_11 ?_
    refine qiN X0 hx hby d22_12 ?_
    refine st9 _ ?_
    show SG p e below T9 (mkF m 16 #[lR r0, lV vI0, lI x1] [(.ref b9_0)]) _
    exact retOut X9 hx (i := .areturn) hret rfl (Or.inr (Or.inr (Or.inr (Or.inr ⟨rfl, rfl, rfl⟩)))) (hb hby d22_16) hr
theorem d17_35 : DK cB17 35 (.putfield 9) 3 := by decide +kernel
theorem d17_38 : DK cB17 38 (.goto 59) 3 := by decide +kernel
theorem d17_97 : DK cB17 97 (.return_) 1 := by decide +kernel
def Q17_1 (Z : State) (r0 r1 r2 : Addr) (x3 x4 : Int32) (x5 x6 x7 : Int32) (c8 : ClassId) (t9 : List Value) (h0 : Heap) (n0 : Nat) (v : Option Value) (h : Heap) (L : List Loc) : Prop := ∃ (b27_0 : Addr) (k27_0 : ClassId), v = none ∧ Fr n0 L ∧ Keep h0 h [r0] ∧ Fld Z h r0 "java/lang/String" "coder" "B" vI0 ∧ Fld Z h r0 "java/lang/String" "value" "[B" (.ref b27_0) ∧ h0.size ≤ b27_0 ∧ Arv Z h b27_0 k27_0 .byte (x3 - (0 : Int32)) t9 vI0 ∧ Exa Z h b27_0 "[B"
theorem rm17_1 (l : Launch) (Z : State) (a0 : Array Value) (hw : own_HW a0 Z) (ws : List Jvm.Cond) (r0 r1 r2 : Addr) (x3 x4 : Int32) (x5 x6 x7 : Int32) (c8 : ClassId) (t9 : List Value) (h0 : Heap) (n0 : Nat) (O0 : Old Z n0 h0) (f2 : Exa Z h0 r1 "java/lang/StringBuilder") (f3 : Fld Z h0 r1 cs0 "value" "[B" (.ref r2)) (f5 : Fld Z h0 r1 cs0 "count" "I" (.int x3)) (f8 : Sta Z Z.heap "java/lang/String" "COMPACT_STRINGS" "Z" (.int x4)) (hc9 : ¬ (x4 = (0 : Int32))) (f10 : Fld Z h0 r1 cs0 "coder" "B" (.int x5)) (hc11 : x5 = (0 : Int32)) (f13 : Exa Z h0 r0 "java/lang/String") (f14 : Fld Z h0 r0 "java/lang/String" "coder" "B" (.int x6)) (g15 : n0 ≤ r0) (f17 : Arv Z h0 r2 c8 .byte x7 t9 vI0) (n18 : r2 ≠ r0) (hc20 : ¬ (x3 = x7)) (hc21 : ¬ (x3 < (0 : Int32))) (hc22 : ¬ ((x3 - (0 : Int32)) < 0)) (hc23 : ((x3 - (0 : Int32))).toNatClampNeg ≤ 16) (hc24 : (x3 - (0 : Int32)) < (x7 - (0 : Int32))) (hc25 : ((x3 - (0 : Int32))).toNatClampNeg ≤ (x7).toNatClampNeg) (f32 : Fld Z h0 r0 "java/lang/String" "value" "[B" .null) (l37 : r0 < h0.size) :
    own_MF l mN20 jdk_42_method_150_code 5 none ws rR3_1_16_55 Z h0 #[(.ref r0), (.ref r1), .null] (Q17_1 Z r0 r1 r2 x3 x4 x5 x6 x7 c8 t9 h0 n0) := by
  refine own_open (plainFor_of_name pn_java_lang_String) (L0 := #[lR r0, lR r1, .val .null, lU, lU]) (fun _ => by first | (simp [entryFrame, mkF, argsToLocals, Value.category]; done) | rfl) ?_
  intro p e s m below meth c s₁ hx hby hml hret hnn hZ hown X0 e0
  have N0 := Fr.nil n0; have w := @ww Z a0 hw
  have hnm := (name_of_methodNamed hnn.1 hnn.2).1
  obtain ⟨T1, X1, e1, st1⟩ := initO X0 hx hZ hown (w 12 rfl) (w 13 rfl) (w 14 rfl) e0 (g := (mkF m 1 #[lR r0, lR r1, .val .null, lU, lU] [(.ref r0)])) rfl (by rw [hml]; rfl) rfl (hb hby d17_1) (by decide) (W := 0) (own_W rfl) (by decide)
  obtain ⟨_, T4, Lc4, X4, hQ4, st4⟩ := own_cV X1 hx hZ hown e1 (rm18_1 l Z a0 hw [] r1 r2 h0 n0 O0 f3) f2 (w 108 rfl) (w 109 rfl) (w 111 rfl) (w 110 rfl) (w 112 rfl) (w 39 rfl) (by decide) (W := 0) (by decide) (by decide) (by decide) (by decide) (g := (mkF m 5 #[lR r0, lR r1, .val .null, lU, lU] [(.ref r1)])) rfl (by rw [hml]; rfl) (argsL := []) (rest := []) (lenOf pd____B rfl) rfl (own_W rfl) (hb hby d17_5)
  obtain ⟨rfl, N4q, E4⟩ := hQ4
  have N4 := Fr.app N0 N4q
  obtain ⟨cqq7, kqq7, qq7a, qq7b, qq7c⟩ := isOf hZ E4 f2
  obtain ⟨_, T6, Lc6, X6, hQ6, st6⟩ := own_fin (X4.virtualBack hx (y := mN13) (z := mN14) hown (mvT hZ (w 113 rfl)) (mvT hZ (w 114 rfl)) (own_nfSel (args := #[]) (mvT hZ (w 74 rfl)) rfl) (mvT hZ (w 116 rfl)) (mvT hZ (w 117 rfl)) (by decide) (backOf (W := 0) (rm19_1 l Z a0 hw [] r1 x3 h0 n0 O0 f5 f2) hZ (w 118 rfl) (w 31 rfl) (by decide) (by decide)) qq7a qq7c (g := (mkF m 10 #[lR r0, lR r1, .val .null, lR r2, lU] [(.ref r1)])) rfl (by rw [hml]; rfl) (Steps.refl _) (argsL := []) (rest := []) (lenOf pd___I rfl) rfl (own_W rfl) (hb hby d17_10) (fun _ _ => ⟨rfl, E4, (by decide : 0 + 0 ≤ _), (by decide : 0 + 0 ≤ _)⟩))
  obtain ⟨rfl, N6q, E6⟩ := hQ6
  have N6 := Fr.app N4 N6q
  obtain ⟨_, T12, Lc12, X12, hQ12, st12⟩ := own_cV X6 hx hZ hown E6 (rm21_1 l Z a0 hw [] r1 x4 x5 h0 n0 O0 f8 hc9 f10 hc11) f2 (w 121 rfl) (w 122 rfl) (w 124 rfl) (w 123 rfl) (w 125 rfl) (w 39 rfl) (by decide) (W := 0) (by decide) (by decide) (by decide) (by decide) (g := (mkF m 16 #[lR r0, lR r1, .val .null, lR r2, lI x3] [(.ref r1)])) rfl (by rw [hml]; rfl) (argsL := []) (rest := []) (lenOf pd___Z rfl) rfl (own_W rfl) (hb hby d17_16)
  obtain ⟨rfl, N12q, E12⟩ := hQ12
  have N12 := Fr.app N6 N12q
  obtain ⟨T16, h16, X16, e16, W16, st16⟩ := putFN X12 hx hZ hown (w 22 rfl) Via.refl E12 f14 f13 (Or.inr ⟨(w 18 rfl), rfl, hnm⟩) (w 3 rfl) (ty := .byte) (v' := vI0) (by decide) rfl (by decide) (g := (mkF m 24 #[lR r0, lR r1, .val .null, lR r2, lI x3] [vI0, (.ref r0)])) rfl rfl (hb hby d17_24)
  have Fw16 := f14.same W16
  have N16 := Fr.snoc X16 N12 g15
  have f19 := (f17.other W16 n18)
  have o26 := Old.wr O0 W16 g15
  obtain ⟨_, T27, Lc27, X27, hQ27, st27⟩ := own_cS X16 hx hZ hown e16 (rm22_1 l Z a0 hw [] r2 x3 x7 c8 t9 h16 n0 o26 f19 hc20 hc21 hc22 hc23 hc24 hc25) (w 126 rfl) (w 127 rfl) (w 128 rfl) (w 129 rfl) (by decide) (W := 1) (by decide) (by decide) (by decide) (by decide) (g := (mkF m 32 #[lR r0, lR r1, .val .null, lR r2, lI x3] [(.int x3), vI0, (.ref r2), (.ref r0)])) rfl (by rw [hml]; rfl) (argsL := [(.ref r2), vI0, (.int x3)]) (rest := [(.ref r0)]) (lenOf pd___BII__B rfl) rfl (own_W rfl) (hb hby d17_32)
  obtain ⟨b27_0, k27_0, rfl, N27q, K27, f28, f29, f30⟩ := hQ27
  have N27 := Fr.app N16 N27q
  have f31 := ((f13.wr W16).keep K27)
  have f33 := ((f32.other W16 (Or.inr (slot_ne (Or.inr (w 17 rfl)) (Or.inr (w 18 rfl)) (by decide) (t := (.array .byte)) (t' := .byte) (by decide) (by decide)))).keep K27 nin0)
  obtain ⟨T34, h34, X34, e34, W34, st34⟩ := putF X27 hx hZ hown (host := "") (Or.inl (w 21 rfl)) Via.refl rfl f33 f31 (Or.inr ⟨(w 17 rfl), rfl, hnm⟩) (w 3 rfl) (ty := (.array .byte)) (by decide) rfl rfl (g := (mkF m 35 #[lR r0, lR r1, .val .null, lR r2, lI x3] [(.ref b27_0), (.ref r0)])) rfl rfl (hb hby d17_35)
  have Fw34 := f33.same W34
  have N34 := Fr.snoc X34 N27 g15
  have f35 := ((Fw16.keep K27 nin0).other W34 (Or.inr (slot_ne (Or.inr (w 18 rfl)) (Or.inr (w 17 rfl)) (by decide) (t := .byte) (t' := (.array .byte)) (by decide) (by decide))))
  have zs36 := (Nat.le_of_eq W16.size.symm)
  have n38 := Nat.ne_of_lt (Nat.lt_of_lt_of_le (Nat.lt_of_lt_of_le l37 zs36) f28)
  have f39 := (f29.other W34 (Ne.symm n38))
  have f40 := (f30.wr W34)
  have kp41 : Keep h0 h16 [r0] := (Keep.refl h0 [r0]).wr W16 (Or.inl (List.mem_of_getElem? (i := 0) rfl))
  have kp42 : Keep h0 T27.heap [r0] := kp41.trans K27 all0
  have kp43 : Keep h0 h34 [r0] := kp42.wr W34 (Or.inl (List.mem_of_getElem? (i := 0) rfl))
  refine ⟨none, _, _, _, _, (fun _ => rfl), X34, by decide, by decide, ?_, fun fs hr => ?_⟩
  · rw [e34]; exact ⟨b27_0, k27_0, rfl, N34, kp43, f35, Fw34, (Nat.le_trans zs36 f28), f39, f40⟩
  · show SG p e below s₁ (mkF m 0 #[lR r0, lR r1, .val .null, lU, lU] []) _
    refine qaN X0 hx hby d17_0 ?_
    refine st1 _ ?_
    refine qaN X1 hx hby d17_4 ?_
    refine st4 _ ?_
    refine XS.astoreN X4.here hx rfl (hb hby d17_8) rfl rfl (l' := #[lR r0, lR r1, .val .null, lR r2, lU]) rfl ?_
    refine qaN X4 hx hby d17_9 ?_
    refine st6.trans ?_
    refine XS.istore X6.here hx rfl (hb hby d17_13) rfl (l' := #[lR r0, lR r1, .val .null, lR r2, lI x3]) rfl ?_
    refine qaN X6 hx hby d17_15 ?_
    refine st12 _ ?_
    show SG p e below T12 (mkF m 19 #[lR r0, lR r1, .val .null, lR r2, lI x3] [vI1]) _
    refine XS.ifNo X12.here hx rfl (hb hby d17_19) rfl ((if0 _ _).trans (feq (by decide : ¬ ((1 : Int32) = (0 : Int32)))).1) ?_
    refine qaN X12 hx hby d17_22 ?_
    refine qc X12 hx hby d17_23 ?_
    refine st16 _ ?_
    refine qaN X16 hx hby d17_27 ?_
    refine qaN X16 hx hby d17_28 ?_
    refine qc X16 hx hby d17_29 ?_
    refine qi X16 hx hby d17_30 ?_
    refine st27 _ ?_
    refine st34 _ ?_
    show SG p e below T34 (mkF m 38 #[lR r0, lR r1, .val .null, lR r2, lI x3] []) _
    refine XS.goto X34.here hx rfl (pc0 := 38) (pc' := 97) rfl (hb hby d17_38) (by decide) (by decide) ?_
    exact X34.returnOut hx hret (hb hby d17_97) hr
theorem pd__Ljava_lang_AbstractStringBuilder_Ljava_lang_Void__V : parseMethodDescriptor cs3 = some ⟨[(.object cs0), (.object "java/lang/Void")], none⟩ := by decide +kernel
theorem d16_6 : DK cB16 6 (.return_) 1 := by decide +kernel
def Q16_1 (Z : State) (r0 r1 r2 : Addr) (x3 x4 : Int32) (x5 x6 x7 : Int32) (c8 : ClassId) (t9 : List Value) (h0 : Heap) (n0 : Nat) (v : Option Value) (h : Heap) (L : List Loc) : Prop := ∃ (b21_0 : Addr) (k21_0 : ClassId), v = none ∧ Fr n0 L ∧ Keep h0 h [r0] ∧ Fld Z h r0 "java/lang/String" "coder" "B" vI0 ∧ Fld Z h r0 "java/lang/String" "value" "[B" (.ref b21_0) ∧ h0.size ≤ b21_0 ∧ Arv Z h b21_0 k21_0 .byte (x3 - (0 : Int32)) t9 vI0 ∧ Exa Z h b21_0 "[B"
theorem rm16_1 (l : Launch) (Z : State) (a0 : Array Value) (hw : own_HW a0 Z) (ws : List Jvm.Cond) (r0 r1 r2 : Addr) (x3 x4 : Int32) (x5 x6 x7 : Int32) (c8 : ClassId) (t9 : List Value) (h0 : Heap) (n0 : Nat) (O0 : Old Z n0 h0) (f1 : Exa Z h0 r1 "java/lang/StringBuilder") (f2 : Fld Z h0 r1 cs0 "value" "[B" (.ref r2)) (f3 : Fld Z h0 r1 cs0 "count" "I" (.int x3)) (f4 : Sta Z Z.heap "java/lang/String" "COMPACT_STRINGS" "Z" (.int x4)) (hc5 : ¬ (x4 = (0 : Int32))) (f6 : Fld Z h0 r1 cs0 "coder" "B" (.int x5)) (hc7 : x5 = (0 : Int32)) (f8 : Exa Z h0 r0 "java/lang/String") (f9 : Fld Z h0 r0 "java/lang/String" "coder" "B" (.int x6)) (g10 : n0 ≤ r0) (f11 : Arv Z h0 r2 c8 .byte x7 t9 vI0) (n12 : r2 ≠ r0) (hc13 : ¬ (x3 = x7)) (hc14 : ¬ (x3 < (0 : Int32))) (hc15 : ¬ ((x3 - (0 : Int32)) < 0)) (hc16 : ((x3 - (0 : Int32))).toNatClampNeg ≤ 16) (hc17 : (x3 - (0 : Int32)) < (x7 - (0 : Int32))) (hc18 : ((x3 - (0 : Int32))).toNatClampNeg ≤ (x7).toNatClampNeg) (f19 : Fld Z h0 r0 "java/lang/String" "value" "[B" .null) (l20 : r0 < h0.size) :
    own_MF l mN21 jdk_42_method_53_code 2 none ws rR4_1_16_71 Z h0 #[(.ref r0), (.ref r1)] (Q16_1 Z r0 r1 r2 x3 x4 x5 x6 x7 c8 t9 h0 n0) := by
  refine own_open (plainFor_of_name pn_java_lang_String) (L0 := #[lR r0, lR r1]) (fun _ => by first | (simp [entryFrame, mkF, argsToLocals, Value.category]; done) | rfl) ?_
  intro p e s m below meth c s₁ hx hby hml hret hnn hZ hown X0 e0
  have N0 := Fr.nil n0; have w := @ww Z a0 hw
  obtain ⟨_, T21, Lc21, X21, hQ21, st21⟩ := own_fin (X0.specialBack hx (y := mN20) rfl hown (mvT hZ (w 105 rfl)) (mvT hZ (w 106 rfl)) (mvT hZ (w 107 rfl)) (by decide) (backOf (W := 0) (rm17_1 l Z a0 hw [] r0 r1 r2 x3 x4 x5 x6 x7 c8 t9 h0 n0 O0 f1 f2 f3 f4 hc5 f6 hc7 f8 f9 g10 f11 n12 hc13 hc14 hc15 hc16 hc17 hc18 f19 l20) hZ (w 107 rfl) (w 4 rfl) (by decide) (by decide)) (g := (mkF m 3 #[lR r0, lR r1] [.null, (.ref r1), (.ref r0)])) rfl (by rw [hml]; rfl) (Steps.refl _) (a := r0) (argsL := [(.ref r1), .null]) (rest := []) (lenOf pd__Ljava_lang_AbstractStringBuilder_Ljava_lang_Void__V rfl) rfl (own_W rfl) (hb hby d16_3) (fun _ _ => ⟨rfl, e0, (by decide : 0 + 1 ≤ _), (by decide : 0 + 16 ≤ _)⟩))
  obtain ⟨b21_0, k21_0, rfl, N21q, K21, f22, f23, f24, f25, f26⟩ := hQ21
  have N21 := Fr.app N0 N21q
  have kp27 : Keep h0 T21.heap [r0] := (Keep.refl h0 [r0]).trans K21 (allS (Or.inl (List.mem_of_getElem? (i := 0) rfl)) all0)
  refine ⟨none, _, _, _, _, (fun _ => rfl), X21, by decide, by decide, ?_, fun fs hr => ?_⟩
  · exact ⟨b21_0, k21_0, rfl, N21, kp27, f22, f23, f24, f25, f26⟩
  · show SG p e below s₁ (mkF m 0 #[lR r0, lR r1] []) _
    refine qaN X0 hx hby d16_0 ?_
    refine qaN X0 hx hby d16_1 ?_
    refine XS.aconstNull X0.here hx rfl (hb hby d16_2) ?_
    refine st21.trans ?_
    exact X21.returnOut hx hret (hb hby d16_6) hr
theorem pd__Ljava_lang_StringBuilder__V : parseMethodDescriptor cs4 = some ⟨[(.object "java/lang/StringBuilder")], none⟩ := by decide +kernel
theorem d15_8 : DK cB15 8 (.areturn) 1 := by decide +kernel
def Q15_1 (Z : State) (r0 r1 : Addr) (x2 x3 : Int32) (x4 x5 : Int32) (c6 : ClassId) (t7 : List Value) (h0 : Heap) (n0 : Nat) (v : Option Value) (h : Heap) (L : List Loc) : Prop := ∃ (b1 b28_0 : Addr) (k28_0 : ClassId), v = some (.ref b1) ∧ Fr n0 L ∧ Keep h0 h [] ∧ h0.size ≤ b1 ∧ Exa Z h b1 "java/lang/String" ∧ Fld Z h b1 "java/lang/String" "coder" "B" vI0 ∧ Fld Z h b1 "java/lang/String" "value" "[B" (.ref b28_0) ∧ h0.size ≤ b28_0 ∧ Arv Z h b28_0 k28_0 .byte (x2 - (0 : Int32)) t7 vI0 ∧ Exa Z h b28_0 "[B" ∧ b1 ≠ b28_0
theorem rm15_1 (l : Launch) (Z : State) (a0 : Array Value) (hw : own_HW a0 Z) (ws : List Jvm.Cond) (r0 r1 : Addr) (x2 x3 : Int32) (x4 x5 : Int32) (c6 : ClassId) (t7 : List Value) (h0 : Heap) (n0 : Nat) (O0 : Old Z n0 h0) (f4 : Exa Z h0 r0 "java/lang/StringBuilder") (f6 : Fld Z h0 r0 cs0 "value" "[B" (.ref r1)) (f8 : Fld Z h0 r0 cs0 "count" "I" (.int x2)) (f10 : Sta Z Z.heap "java/lang/String" "COMPACT_STRINGS" "Z" (.int x3)) (hc11 : ¬ (x3 = (0 : Int32))) (f12 : Fld Z h0 r0 cs0 "coder" "B" (.int x4)) (hc14 : x4 = (0 : Int32)) (f17 : Arv Z h0 r1 c6 .byte x5 t7 vI0) (l19 : r1 < h0.size) (hc21 : ¬ (x2 = x5)) (hc22 : ¬ (x2 < (0 : Int32))) (hc23 : ¬ ((x2 - (0 : Int32)) < 0)) (hc24 : ((x2 - (0 : Int32))).toNatClampNeg ≤ 16) (hc25 : (x2 - (0 : Int32)) < (x5 - (0 : Int32))) (hc26 : ((x2 - (0 : Int32))).toNatClampNeg ≤ (x5).toNatClampNeg) :
    own_MF l mN22 jdk_67_method_42_code 1 (some (.object "java/lang/String")) ws rR5_2_20_85 Z h0 #[(.ref r0)] (Q15_1 Z r0 r1 x2 x3 x4 x5 c6 t7 h0 n0) := by
  refine own_open (plainFor_of_name pn_java_lang_StringBuilder) (L0 := #[lR r0]) (fun _ => by first | (simp [entryFrame, mkF, argsToLocals, Value.category]; done) | rfl) ?_
  intro p e s m below meth c s₁ hx hby hml hret hnn hZ hown X0 e0
  have N0 := Fr.nil n0; have w := @ww Z a0 hw
  obtain ⟨T1, h1, X1, e1, E1, A1, D1, -, st1⟩ := newO X0 hx hZ hown (w 101 rfl) (w 3 rfl) (w 4 rfl) e0 (g := (mkF m 0 #[lR r0] [])) rfl (hb hby d15_0) (by decide) (by decide)
  obtain ⟨b1, g1⟩ : ∃ z, z = h0.size := ⟨_, rfl⟩
  rw [← g1] at A1 D1 st1
  have f2 : Fld Z h1 b1 "java/lang/String" "value" "[B" .null := D1 (Or.inr (w 17 rfl)) (ty := (.array .byte)) (by decide)
  have f3 : Fld Z h1 b1 "java/lang/String" "coder" "B" vI0 := D1 (Or.inr (w 18 rfl)) (ty := .byte) (by decide)
  have f5 := (f4.ext E1)
  have f7 := (f6.ext E1)
  have f9 := (f8.ext E1)
  have f13 := (f12.ext E1)
  have zz15 : n0 ≤ h0.size := by rw [← O0.1]; exact O0.2.1
  have g16 := Nat.le_trans zz15 (Nat.le_of_eq g1.symm)
  have f18 := (f17.ext E1)
  have n20 := Nat.ne_of_lt (Nat.lt_of_lt_of_le l19 (Nat.le_of_eq g1.symm))
  have o27 := Old.ext O0 E1
  obtain ⟨_, T28, Lc28, X28, hQ28, st28⟩ := own_fin (X1.specialBack hx (y := mN21) rfl hown (mvT hZ (w 102 rfl)) (mvT hZ (w 103 rfl)) (mvT hZ (w 104 rfl)) (by decide) (backOf (W := 1) (rm16_1 l Z a0 hw [] b1 r0 r1 x2 x3 x4 (0 : Int32) x5 c6 t7 h1 n0 o27 f5 f7 f9 f10 hc11 f13 hc14 A1 f3 g16 f18 n20 hc21 hc22 hc23 hc24 hc25 hc26 f2 A1.lt) hZ (w 104 rfl) (w 4 rfl) (by decide) (by decide)) (g := (mkF m 5 #[lR r0] [(.ref r0), (.ref b1), (.ref b1)])) rfl (by rw [hml]; rfl) (Steps.refl _) (a := b1) (argsL := [(.ref r0)]) (rest := [(.ref b1)]) (lenOf pd__Ljava_lang_StringBuilder__V rfl) rfl (own_W rfl) (hb hby d15_5) (fun _ _ => ⟨rfl, e1, (by decide : 1 + 1 ≤ _), (by decide : 4 + 16 ≤ _)⟩))
  obtain ⟨b28_0, k28_0, rfl, N28q, K28, f29, f30, f31, f32, f33⟩ := hQ28
  have N28 := Fr.app N0 N28q
  have f34 := (A1.keep K28)
  have zs35 := E1.1
  have n36 := Nat.ne_of_lt (Nat.lt_of_lt_of_le A1.lt f31)
  have kp37 : Keep h0 h1 [] := (Keep.refl h0 []).ext E1
  have kp38 : Keep h0 T28.heap [] := kp37.trans K28 (allS (Or.inr (Nat.le_of_eq g1.symm)) all0)
  refine ⟨some (.ref b1), _, _, _, _, nofun, X28, by decide, by decide, ?_, fun fs hr => ?_⟩
  · exact ⟨b1, b28_0, k28_0, rfl, N28, kp38, (Nat.le_of_eq g1.symm), f34, f29, f30, (Nat.le_trans zs35 f31), f32, f33, n36⟩
  · show SG p e below s₁ (mkF m 0 #[lR r0] []) _
    refine st1 _ ?_
    refine qd X1 hx hby d15_3 ?_
    refine qaN X1 hx hby d15_4 ?_
    refine st28.trans ?_
    exact retOut X28 hx (i := .areturn) hret rfl (Or.inr (Or.inr (Or.inr (Or.inr ⟨rfl, rfl, rfl⟩)))) (hb hby d15_8) hr
theorem pd___Ljava_lang_String_ : parseMethodDescriptor "()Ljava/lang/String;" = some ⟨[], some (.object "java/lang/String")⟩ := by decide +kernel
theorem d4_23 : DK cB4 23 (.invokespecial 26) 3 := by decide +kernel
theorem d26_0 : DK cB26 0 (.aload_n 0) 1 := by decide +kernel
theorem d26_1 : DK cB26 1 (.invokespecial 1) 3 := by decide +kernel
theorem d27_0 : DK cB27 0 (.aload_n 0) 1 := by decide +kernel
theorem d27_1 : DK cB27 1 (.invokespecial 1) 3 := by decide +kernel
theorem d27_4 : DK cB27 4 (.return_) 1 := by decide +kernel
theorem pn_java_lang_Record : plainName "java/lang/Record" = true := by first | (simp [plainName, overriddenIn]; done) | decide +kernel
def Q27_1 (Z : State) (r0 : Addr) (h0 : Heap) (n0 : Nat) (v : Option Value) (h : Heap) (L : List Loc) : Prop := v = none ∧ Fr n0 L ∧ h = h0
theorem rm27_1 (l : Launch) (Z : State) (a0 : Array Value) (hw : own_HW a0 Z) (ws : List Jvm.Cond) (r0 : Addr) (h0 : Heap) (n0 : Nat) (O0 : Old Z n0 h0) :
    own_MF l mN23 jdk_30_method_1_code 1 none ws rR1_0_0_12 Z h0 #[(.ref r0)] (Q27_1 Z r0 h0 n0) := by
  refine own_open (plainFor_of_name pn_java_lang_Record) (L0 := #[lR r0]) (fun _ => by first | (simp [entryFrame, mkF, argsToLocals, Value.category]; done) | rfl) ?_
  intro p e s m below meth c s₁ hx hby hml hret hnn hZ hown X0 e0
  have N0 := Fr.nil n0
  obtain ⟨T1, X1, e1, st1⟩ := initO X0 hx hZ hown (ww hw 149 rfl) (ww hw 13 rfl) (ww hw 14 rfl) e0 (g := (mkF m 1 #[lR r0] [(.ref r0)])) rfl (by rw [hml]; rfl) rfl (hb hby d27_1) (by decide) (W := 0) (own_W rfl) (by decide)
  refine ⟨none, _, _, _, _, (fun _ => rfl), X1, by decide, by decide, ?_, fun fs hr => ?_⟩
  · rw [e1]; exact ⟨rfl, N0, rfl⟩
  · show SG p e below s₁ (mkF m 0 #[lR r0] []) _
    refine qaN X0 hx hby d27_0 ?_
    refine st1 _ ?_
    exact X1.returnOut hx hret (hb hby d27_4) hr
theorem d26_4 : DK cB26 4 (.aload_n 0) 1 := by decide +kernel
theorem d26_5 : DK cB26 5 (.aload_n 1) 1 := by decide +kernel
theorem d26_6 : DK cB26 6 (.putfield 7) 3 := by decide +kernel
theorem d26_9 : DK cB26 9 (.return_) 1 := by decide +kernel
theorem pn_com_example_manojo_manojo_QueryTree_Parameter : plainName cs5 = true := by first | (simp [plainName, overriddenIn]; done) | decide +kernel
def Q26_1 (Z : State) (r0 r1 : Addr) (h0 : Heap) (n0 : Nat) (v : Option Value) (h : Heap) (L : List Loc) : Prop := v = none ∧ Fr n0 L ∧ Keep h0 h [r0] ∧ Fld Z h r0 cs5 "name" "Ljava/lang/String;" (.ref r1)
theorem rm26_1 (l : Launch) (Z : State) (a0 : Array Value) (hw : own_HW a0 Z) (ws : List Jvm.Cond) (r0 r1 : Addr) (h0 : Heap) (n0 : Nat) (O0 : Old Z n0 h0) (f2 : Exa Z h0 r0 cs5) (f3 : Fld Z h0 r0 cs5 "name" "Ljava/lang/String;" .null) (g4 : n0 ≤ r0) :
    own_MF l mN24 prog_22_method_1_code 2 none ws rR2_0_0_24 Z h0 #[(.ref r0), (.ref r1)] (Q26_1 Z r0 r1 h0 n0) := by
  refine own_open (plainFor_of_name pn_com_example_manojo_manojo_QueryTree_Parameter) (L0 := #[lR r0, lR r1]) (fun _ => by first | (simp [entryFrame, mkF, argsToLocals, Value.category]; done) | rfl) ?_
  intro p e s m below meth c s₁ hx hby hml hret hnn hZ hown X0 e0
  have N0 := Fr.nil n0; have w := @ww Z a0 hw
  have hnm := (name_of_methodNamed hnn.1 hnn.2).1
  obtain ⟨_, T1, Lc1, X1, hQ1, st1⟩ := own_fin (X0.specialBack hx (y := mN23) rfl hown (mvT hZ (w 144 rfl)) (mvT hZ (w 145 rfl)) (mvT hZ (w 148 rfl)) (by decide) (backOf (W := 0) (rm27_1 l Z a0 hw [] r0 h0 n0 O0) hZ (w 148 rfl) (w 147 rfl) (by decide) (by decide)) (g := (mkF m 1 #[lR r0, lR r1] [(.ref r0)])) rfl (by rw [hml]; rfl) (Steps.refl _) (a := r0) (argsL := []) (rest := []) (lenOf pd___V rfl) rfl (own_W rfl) (hb hby d26_1) (fun _ _ => ⟨rfl, e0, (by decide : 0 + 0 ≤ _), (by decide : 0 + 0 ≤ _)⟩))
  obtain ⟨rfl, N1q, E1⟩ := hQ1
  have N1 := Fr.app N0 N1q
  obtain ⟨T5, h5, X5, e5, W5, st5⟩ := putF X1 hx hZ hown (host := "") (Or.inl (w 150 rfl)) Via.refl E1 f3 f2 (Or.inr ⟨(w 151 rfl), rfl, hnm⟩) (w 28 rfl) (ty := (.object "java/lang/String")) (by decide) rfl rfl (g := (mkF m 6 #[lR r0, lR r1] [(.ref r1), (.ref r0)])) rfl rfl (hb hby d26_6)
  have Fw5 := f3.same W5
  have N5 := Fr.snoc X5 N1 g4
  have kp6 : Keep h0 h5 [r0] := (Keep.refl h0 [r0]).wr W5 (Or.inl (List.mem_of_getElem? (i := 0) rfl))
  refine ⟨none, _, _, _, _, (fun _ => rfl), X5, by decide, by decide, ?_, fun fs hr => ?_⟩
  · rw [e5]; exact ⟨rfl, N5, kp6, Fw5⟩
  · show SG p e below s₁ (mkF m 0 #[lR r0, lR r1] []) _
    refine qaN X0 hx hby d26_0 ?_
    refine st1.trans ?_
    refine qaN X1 hx hby d26_4 ?_
    refine qaN X1 hx hby d26_5 ?_
    refine st5 _ ?_
    exact X5.returnOut hx hret (hb hby d26_9) hr
theorem d4_26 : DK cB4 26 (.areturn) 1 := by decide +kernel
def Q4_1 (Z : State) (r0 : Addr) (x1 : Int32) (r2 : Addr) (c3 : ClassId) (h0 : Heap) (n0 : Nat) (v : Option Value) (h : Heap) (L : List Loc) : Prop := ∃ (b1 b87_0 b87_1 : Addr) (k87_0 : ClassId), v = some (.ref b1) ∧ Fr n0 L ∧ Keep h0 h [] ∧ h0.size ≤ b1 ∧ Exa Z h b1 cs5 ∧ Fld Z h b1 cs5 "name" "Ljava/lang/String;" (.ref b87_0) ∧ h0.size ≤ b87_0 ∧ Exa Z h b87_0 "java/lang/String" ∧ Fld Z h b87_0 "java/lang/String" "coder" "B" vI0 ∧ Fld Z h b87_0 "java/lang/String" "value" "[B" (.ref b87_1) ∧ h0.size ≤ b87_1 ∧ Arv Z h b87_1 k87_0 .byte (1 : Int32) [vI58] vI0 ∧ Exa Z h b87_1 "[B" ∧ b1 ≠ b87_0 ∧ b1 ≠ b87_1 ∧ b87_0 ≠ b87_1
theorem rm4_1 (l : Launch) (Z : State) (a0 : Array Value) (hw : own_HW a0 Z) (ws : List Jvm.Cond) (r0 : Addr) (x1 : Int32) (r2 : Addr) (c3 : ClassId) (h0 : Heap) (n0 : Nat) (O0 : Old Z n0 h0) (f12 : Sta Z Z.heap "java/lang/String" "COMPACT_STRINGS" "Z" (.int x1)) (hc13 : ¬ (x1 = (0 : Int32))) (f55 : Exa Z h0 r0 "java/lang/String") (f57 : Fld Z h0 r0 "java/lang/String" "value" "[B" (.ref r2)) (l58 : r0 < h0.size) (f64 : Arv Z h0 r2 c3 .byte (0 : Int32) [] vI0) (l65 : r2 < h0.size) (f69 : Fld Z h0 r0 "java/lang/String" "coder" "B" vI0) :
    own_MH l mN25 prog_22_method_2_code 1 (some (.object cs5)) ws rR6_7_49_99 Z h0 #[(.ref r0)] (Q4_1 Z r0 x1 r2 c3 h0 n0) := by
  have hEL : EW Z a0 consts_1 := own_EW hw
  refine own_openH hEL (plainFor_of_name pn_com_example_manojo_manojo_QueryTree_Parameter) (L0 := #[lR r0]) (fun _ => by first | (simp [entryFrame, mkF, argsToLocals, Value.category]; done) | rfl) ?_
  intro p e s m below meth c s₁ hx hby hml hret hnn hZ hown X0 e0 R0
  have N0 := Fr.nil n0; have w := @ww Z a0 hw
  obtain ⟨T1, h1, X1, e1, E1, A1, D1, -, st1⟩ := newO X0 hx hZ hown (w 27 rfl) (w 28 rfl) (w 25 rfl) e0 (g := (mkF m 0 #[lR r0] [])) rfl (hb hby d4_0) (by decide) (by decide)
  obtain ⟨b1, g1⟩ : ∃ z, z = h0.size := ⟨_, rfl⟩
  have sf2 : Safe Z consts_1 s.vm h0 b1 := Safe.new (Nat.le_of_eq g1.symm)
  rw [← g1] at A1 D1 st1
  have R3 := CHr.trans R0 (CHr.ext E1 R0.1)
  have f4 : Fld Z h1 b1 cs5 "name" "Ljava/lang/String;" .null := D1 (Or.inr (w 151 rfl)) (ty := (.object "java/lang/String")) (by decide)
  obtain ⟨T5, h5, X5, e5, E5, A5, D5, -, st5⟩ := newO X1 hx hZ hown (w 29 rfl) (w 30 rfl) (w 31 rfl) e1 (g := (mkF m 4 #[lR r0] [(.ref b1), (.ref b1)])) rfl (hb hby d4_4) (by decide) (by decide)
  obtain ⟨b5, g5⟩ : ∃ z, z = h1.size := ⟨_, rfl⟩
  have sf6 : Safe Z consts_1 s.vm h1 b5 := Safe.new (Nat.le_of_eq g5.symm)
  rw [← g5] at A5 D5 st5
  have R7 := CHr.trans R3 (CHr.ext E5 R3.1)
  have f8 : Fld Z h5 b5 cs0 "value" "[B" .null := D5 (Or.inl (w 44 rfl)) (ty := (.array .byte)) (by decide)
  have f9 : Fld Z h5 b5 cs0 "coder" "B" vI0 := D5 (Or.inl (w 46 rfl)) (ty := .byte) (by decide)
  have f10 : Fld Z h5 b5 cs0 "count" "I" vI0 := D5 (Or.inl (w 70 rfl)) (ty := .int) (by decide)
  have f11 : Fld Z h5 b5 cs0 "maybeLatin1" "Z" vI0 := D5 (Or.inl (w 235 rfl)) (ty := .boolean) (by decide)
  have o15 := Old.ext O0 E1
  have zz14 : n0 ≤ h1.size := by rw [← o15.1]; exact o15.2.1
  have g16 := Nat.le_trans zz14 (Nat.le_of_eq g5.symm)
  have o17 := Old.ext o15 E5
  obtain ⟨_, T18, Lc18, X18, hQ18, st18⟩ := own_fin (X5.specialBack hx (y := mN3) rfl hown (mvT hZ (w 32 rfl)) (mvT hZ (w 33 rfl)) (mvT hZ (w 34 rfl)) (by decide) (backOf (W := 3) (rm5_1 l Z a0 hw [] b5 x1 h5 n0 o17 f12 hc13 A5 f8 g16 f9 f10 f11 A5.lt) hZ (w 34 rfl) (w 31 rfl) (by decide) (by decide)) (g := (mkF m 8 #[lR r0] [(.ref b5), (.ref b5), (.ref b1), (.ref b1)])) rfl (by rw [hml]; rfl) (Steps.refl _) (a := b5) (argsL := []) (rest := [(.ref b5), (.ref b1), (.ref b1)]) (lenOf pd___V rfl) rfl (own_W rfl) (hb hby d4_8) (fun _ _ => ⟨rfl, e5, (by decide : 2 + 1 ≤ _), (by decide : 5 + 16 ≤ _)⟩))
  obtain ⟨b18_0, k18_0, rfl, N18q, K18, f19, f20, f21, f22, f23, f24, f25⟩ := hQ18
  have N18 := Fr.app N0 N18q
  have R26 := CHr.trans R7 (CHr.keep K18 (sfS (Safe.exa hZ.alike A5 (by decide) (by decide)) sf0) R7.1)
  have sf27 : Safe Z consts_1 s.vm h5 b18_0 := Safe.new f23
  have hS28 := (State.WarmedH.refl s).since 0
  have hstr : ∀ a ∈ Bundle.stringAtoms, a.before a0 Z = true := fun a q => hw a (own_str a q)
  obtain ⟨a29, T29, h29, kk29, b29, k29, X29, e29, E29, hS29, hk29, hZ29, ho29, EE29, C29, F29, V29, l29, m29, CR29, -, ne29, st29⟩ := ldcCH (s := s) (vm0 := s.vm) X18 hx hZ hown (w 47 rfl) hstr rfl hS28 (Nat.zero_le _) hEL (by simp [consts_1]) R26.1 (vs := [vI58]) (z := (1 : Int32)) ⟨by decide, by decide⟩ (by decide) rfl (g := (mkF m 11 #[lR r0] [(.ref b5), (.ref b1), (.ref b1)])) rfl (hb hby d4_11) (n := 4) (by decide) (by decide) (by decide) (by decide)
  have R30 := CHr.trans R26 CR29
  have f31 := (((A1.ext E5).keep K18).ext E29)
  have nl32 := ne29 _ (Safe.exa hZ29.alike f31 (by decide) (by decide))
  have f33 := ((A5.keep K18).ext E29)
  have nl34 := ne29 _ (Safe.exa hZ29.alike f33 (by decide) (by decide))
  have sf35 := (CHr.safe CR29 f24.lt (Safe.keep K18 (sfS (Safe.exa hZ.alike A5 (by decide) (by decide)) sf0) R7.1 sf27))
  have nl36 := ne29 _ sf35
  have f37 := (f21.ext E29)
  have f38 := (f19.ext E29)
  have f39 := (f24.ext E29)
  have f40 := (f20.ext E29)
  have zz41 : n0 ≤ h5.size := by rw [← o17.1]; exact o17.2.1
  have g42 := Nat.le_trans zz41 f23
  have n43 := Nat.ne_of_lt (Nat.lt_of_lt_of_le A5.lt f23)
  have f44 := (f22.ext E29)
  have o45 := Old.keep o17 K18 (allS g16 all0)
  have o46 := Old.ext o45 E29
  obtain ⟨_, T47, Lc47, X47, hQ47, st47⟩ := own_cV X29 hx hZ29 ho29 e29 (rm7_1 l Z a0 hw [] b5 a29 b29 (1 : Int32) k29 ([vI58]) x1 (0 : Int32) (0 : Int32) b18_0 (16 : Int32) k18_0 ([vI0, vI0, vI0, vI0, vI0, vI0, vI0, vI0, vI0, vI0, vI0, vI0, vI0, vI0, vI0, vI0]) (0 : Int32) (0 : Int32) h29 n0 o46 EE29 F29 V29 f12 hc13 C29 f37 f33 f38 f39 f40 (by decide) (by decide) (by decide) (by decide) (by decide) (by decide) (by decide) (by decide) g42 n43 g16 f44) f33 (w 48 rfl) (w 49 rfl) (w 51 rfl) (w 50 rfl) (w 52 rfl) (w 31 rfl) (by decide) (W := 2) (by decide) (by decide) (by decide) (by decide) (g := (mkF m 13 #[lR r0] [(.ref a29), (.ref b5), (.ref b1), (.ref b1)])) rfl (by rw [hml]; rfl) (argsL := [(.ref a29)]) (rest := [(.ref b1), (.ref b1)]) (lenOf pd__Ljava_lang_String__Ljava_lang_StringBuilder_ rfl) rfl (own_W rfl) (hb hby d4_13)
  obtain ⟨rfl, N47q, K47, f48, f49, f50, f51, f52⟩ := hQ47
  have N47 := Fr.app N18 N47q
  have R53 := CHr.trans R30 (CHr.keep K47 (sfS sf35 (sfS (Safe.exa hZ29.alike f33 (by decide) (by decide)) sf0)) R30.1)
  have f54 : Arv Z T47.heap b18_0 k18_0 .byte (16 : Int32) [vI58, vI0, vI0, vI0, vI0, vI0, vI0, vI0, vI0, vI0, vI0, vI0, vI0, vI0, vI0, vI0] vI0 := own_cpx (by decide : (((0 : Int32) <<< ((0 : Int32) &&& 31))).toNatClampNeg = 0) (by decide : (((0 : Int32) <<< ((0 : Int32) &&& 31))).toNatClampNeg + ((1 : Int32)).toNatClampNeg = 1) f48
  have f56 := (((((f55.ext E1).ext E5).keep K18).ext E29).keep K47)
  have zs59 := E1.1
  have n60 := Nat.ne_of_lt (Nat.lt_of_lt_of_le (Nat.lt_of_lt_of_le l58 zs59) (Nat.le_of_eq g5.symm))
  have zs61 := Nat.le_trans zs59 E5.1
  have n62 := Nat.ne_of_lt (Nat.lt_of_lt_of_le (Nat.lt_of_lt_of_le l58 zs61) f23)
  have f63 := (((((f57.ext E1).ext E5).keep K18 (ninS n60 nin0)).ext E29).keep K47 (ninS n62 (ninS n60 nin0)))
  have n66 := Nat.ne_of_lt (Nat.lt_of_lt_of_le (Nat.lt_of_lt_of_le l65 zs59) (Nat.le_of_eq g5.symm))
  have n67 := Nat.ne_of_lt (Nat.lt_of_lt_of_le (Nat.lt_of_lt_of_le l65 zs61) f23)
  have f68 := (((((f64.ext E1).ext E5).keep K18 (ninS n66 nin0)).ext E29).keep K47 (ninS n67 (ninS n66 nin0)))
  have f70 := (((((f69.ext E1).ext E5).keep K18 (ninS n60 nin0)).ext E29).keep K47 (ninS n62 (ninS n60 nin0)))
  have f71 := (f33.keep K47)
  have o72 := Old.keep o46 K47 (allS g42 (allS g16 all0))
  obtain ⟨_, T73, Lc73, X73, hQ73, st73⟩ := own_cV X47 hx hZ29 ho29 rfl (rm7_1 l Z a0 hw [] b5 r0 r2 (0 : Int32) c3 ([]) x1 (0 : Int32) (1 : Int32) b18_0 (16 : Int32) k18_0 ([vI58, vI0, vI0, vI0, vI0, vI0, vI0, vI0, vI0, vI0, vI0, vI0, vI0, vI0, vI0, vI0]) (0 : Int32) (0 : Int32) T47.heap n0 o72 f56 f63 f68 f12 hc13 f70 f49 f71 f50 f54 f51 (by decide) (by decide) (by decide) (by decide) (by decide) (by decide) (by decide) (by decide) g42 n43 g16 f52) f71 (w 48 rfl) (w 49 rfl) (w 51 rfl) (w 50 rfl) (w 52 rfl) (w 31 rfl) (by decide) (W := 2) (by decide) (by decide) (by decide) (by decide) (g := (mkF m 17 #[lR r0] [(.ref r0), (.ref b5), (.ref b1), (.ref b1)])) rfl (by rw [hml]; rfl) (argsL := [(.ref r0)]) (rest := [(.ref b1), (.ref b1)]) (lenOf pd__Ljava_lang_String__Ljava_lang_StringBuilder_ rfl) rfl (own_W rfl) (hb hby d4_17)
  obtain ⟨rfl, N73q, K73, f74, f75, f76, f77, f78⟩ := hQ73
  have N73 := Fr.app N47 N73q
  have sf79 := (Safe.keep K47 (sfS sf35 (sfS (Safe.exa hZ29.alike f33 (by decide) (by decide)) sf0)) R30.1 sf35)
  have R80 := CHr.trans R53 (CHr.keep K73 (sfS sf79 (sfS (Safe.exa hZ29.alike f71 (by decide) (by decide)) sf0)) R53.1)
  have f81 : Arv Z T73.heap b18_0 k18_0 .byte (16 : Int32) [vI58, vI0, vI0, vI0, vI0, vI0, vI0, vI0, vI0, vI0, vI0, vI0, vI0, vI0, vI0, vI0] vI0 := own_cpx (by decide : (((1 : Int32) <<< ((0 : Int32) &&& 31))).toNatClampNeg = 1) (by decide : (((1 : Int32) <<< ((0 : Int32) &&& 31))).toNatClampNeg + ((0 : Int32)).toNatClampNeg = 1) f74
  have f82 := (f71.keep K73)
  have zs83 := E29.1
  have zs84 := Nat.le_trans zs83 K47.1
  have zs85 := Nat.le_trans zs84 K73.1
  have o86 := Old.keep o72 K73 (allS g42 (allS g16 all0))
  obtain ⟨_, T87, Lc87, X87, hQ87, st87⟩ := own_cV X73 hx hZ29 ho29 rfl (rm15_1 l Z a0 hw [] b5 b18_0 (1 : Int32) x1 (0 : Int32) (16 : Int32) k18_0 ([vI58, vI0, vI0, vI0, vI0, vI0, vI0, vI0, vI0, vI0, vI0, vI0, vI0, vI0, vI0, vI0]) T73.heap n0 o86 f82 f76 f75 f12 hc13 f77 (by decide) f81 (Nat.lt_of_lt_of_le f24.lt zs85) (by decide) (by decide) (by decide) (by decide) (by decide) (by decide)) f82 (w 96 rfl) (w 97 rfl) (w 99 rfl) (w 98 rfl) (w 100 rfl) (w 31 rfl) (by decide) (W := 2) (by decide) (by decide) (by decide) (by decide) (g := (mkF m 20 #[lR r0] [(.ref b5), (.ref b1), (.ref b1)])) rfl (by rw [hml]; rfl) (argsL := []) (rest := [(.ref b1), (.ref b1)]) (lenOf pd___Ljava_lang_String_ rfl) rfl (own_W rfl) (hb hby d4_20)
  obtain ⟨b87_0, b87_1, k87_0, rfl, N87q, K87, f88, f89, f90, f91, f92, f93, f94, f95⟩ := hQ87
  have N87 := Fr.app N73 N87q
  have R96 := CHr.trans R80 (CHr.keep K87 sf0 R80.1)
  have sf97 : Safe Z consts_1 T29.vm T73.heap b87_0 := Safe.new f88
  have sf98 : Safe Z consts_1 T29.vm T73.heap b87_1 := Safe.new f92
  have f99 : Arv Z T87.heap b87_1 k87_0 .byte (1 : Int32) [vI58] vI0 := own_trunc (ws := [vI58]) (rest := [vI0, vI0, vI0, vI0, vI0, vI0, vI0, vI0, vI0, vI0, vI0, vI0, vI0, vI0, vI0]) (own_lenK (n := 1) rfl (by decide)) f93
  have f100 := (((f31.keep K47).keep K73).keep K87)
  have n101 := Nat.ne_of_lt (Nat.lt_of_lt_of_le A1.lt (Nat.le_of_eq g5.symm))
  have zs102 := E5.1
  have n103 := Nat.ne_of_lt (Nat.lt_of_lt_of_le (Nat.lt_of_lt_of_le A1.lt zs102) f23)
  have f104 := ((((((f4.ext E5).keep K18 (ninS n101 nin0)).ext E29).keep K47 (ninS n103 (ninS n101 nin0))).keep K73 (ninS n103 (ninS n101 nin0))).keep K87 nin0)
  have zz105 : n0 ≤ h0.size := by rw [← O0.1]; exact O0.2.1
  have g106 := Nat.le_trans zz105 (Nat.le_of_eq g1.symm)
  have o107 := Old.keep o86 K87 all0
  obtain ⟨_, T108, Lc108, X108, hQ108, st108⟩ := own_fin (X87.specialBack hx (y := mN24) rfl ho29 (mvT hZ29 (w 141 rfl)) (mvT hZ29 (w 142 rfl)) (mvT hZ29 (w 143 rfl)) (by decide) (backOf (W := 1) (rm26_1 l Z a0 hw [] b1 b87_0 T87.heap n0 o107 f100 f104 g106) hZ29 (w 143 rfl) (w 25 rfl) (by decide) (by decide)) (g := (mkF m 23 #[lR r0] [(.ref b87_0), (.ref b1), (.ref b1)])) rfl (by rw [hml]; rfl) (Steps.refl _) (a := b1) (argsL := [(.ref b87_0)]) (rest := [(.ref b1)]) (lenOf pd__Ljava_lang_String__V rfl) rfl (own_W rfl) (hb hby d4_23) (fun _ _ => ⟨rfl, rfl, (by decide : 7 + 0 ≤ _), (by decide : 49 + 0 ≤ _)⟩))
  obtain ⟨rfl, N108q, K108, f109⟩ := hQ108
  have N108 := Fr.app N87 N108q
  have R110 := CHr.trans R96 (CHr.keep K108 (sfS (Safe.exa hZ29.alike f100 (by decide) (by decide)) sf0) R96.1)
  have f111 := (f100.keep K108)
  have zs112 := Nat.le_trans zs61 K18.1
  have zs113 := Nat.le_trans zs112 E29.1
  have zs114 := Nat.le_trans zs113 K47.1
  have zs115 := Nat.le_trans zs114 K73.1
  have f116 := (f89.keep K108)
  have zs117 := Nat.le_trans zs102 K18.1
  have zs118 := Nat.le_trans zs117 E29.1
  have zs119 := Nat.le_trans zs118 K47.1
  have zs120 := Nat.le_trans zs119 K73.1
  have n121 := Nat.ne_of_lt (Nat.lt_of_lt_of_le (Nat.lt_of_lt_of_le A1.lt zs120) f88)
  have f122 := (f90.keep K108 (ninS (Ne.symm n121) nin0))
  have f123 := (f91.keep K108 (ninS (Ne.symm n121) nin0))
  have n124 := Nat.ne_of_lt (Nat.lt_of_lt_of_le (Nat.lt_of_lt_of_le A1.lt zs120) f92)
  have f125 := (f99.keep K108 (ninS (Ne.symm n124) nin0))
  have f126 := (f94.keep K108)
  have kp127 : Keep h0 h1 [] := (Keep.refl h0 []).ext E1
  have kp128 : Keep h0 h5 [] := kp127.ext E5
  have kp129 : Keep h0 T18.heap [] := kp128.trans K18 (allS (Or.inr (Nat.le_trans zs59 (Nat.le_of_eq g5.symm))) all0)
  have kp130 : Keep h0 h29 [] := kp129.ext E29
  have kp131 : Keep h0 T47.heap [] := kp130.trans K47 (allS (Or.inr (Nat.le_trans zs61 f23)) (allS (Or.inr (Nat.le_trans zs59 (Nat.le_of_eq g5.symm))) all0))
  have kp132 : Keep h0 T73.heap [] := kp131.trans K73 (allS (Or.inr (Nat.le_trans zs61 f23)) (allS (Or.inr (Nat.le_trans zs59 (Nat.le_of_eq g5.symm))) all0))
  have kp133 : Keep h0 T87.heap [] := kp132.trans K87 all0
  have kp134 : Keep h0 T108.heap [] := kp133.trans K108 (allS (Or.inr (Nat.le_of_eq g1.symm)) all0)
  have zs135 := K47.1
  have zs136 := Nat.le_trans zs135 K73.1
  have zs137 := Nat.le_trans zs136 K87.1
  have zs138 := Nat.le_trans zs137 K108.1
  refine ⟨some (.ref b1), _, _, _, _, _, _, _, nofun, X108, by decide, by decide, hS29, ((Nat.le_trans hk29 zs138)), hZ29, rfl, R110, ?_, fun fs hr => ?_⟩
  · exact ⟨b1, b87_0, b87_1, k87_0, rfl, N108, kp134, (Nat.le_of_eq g1.symm), f111, f109, (Nat.le_trans zs115 f88), f116, f122, f123, (Nat.le_trans zs115 f92), f125, f126, n121, n124, f95⟩
  · show SG p e below s₁ (mkF m 0 #[lR r0] []) _
    refine st1 _ ?_
    refine qd X1 hx hby d4_3 ?_
    refine st5 _ ?_
    refine qd X5 hx hby d4_7 ?_
    refine st18.trans ?_
    refine st29 _ ?_
    refine st47 _ ?_
    refine qaN X47 hx hby d4_16 ?_
    refine st73 _ ?_
    refine st87 _ ?_
    show SG p e below T87 (mkF m 23 #[lR r0] [(.ref b87_0), (.ref b1), (.ref b1)]) _
    refine st108.trans ?_
    exact retOut X108 hx (i := .areturn) hret rfl (Or.inr (Or.inr (Or.inr (Or.inr ⟨rfl, rfl, rfl⟩)))) (hb hby d4_26) hr
theorem pd__Ljava_lang_String__Lcom_example_manojo_manojo_QueryTree_Parameter_ : parseMethodDescriptor cs6 = some ⟨[(.object "java/lang/String")], some (.object cs5)⟩ := by decide +kernel
theorem d28_0 : DK cB28 0 (.aload_n 0) 1 := by decide +kernel
theorem d28_1 : DK cB28 1 (.getfield 7) 3 := by decide +kernel
theorem d28_4 : DK cB28 4 (.areturn) 1 := by decide +kernel
def Q28_1 (Z : State) (r0 r1 : Addr) (h0 : Heap) (n0 : Nat) (v : Option Value) (h : Heap) (L : List Loc) : Prop := v = some (.ref r1) ∧ Fr n0 L ∧ h = h0
theorem rm28_1 (l : Launch) (Z : State) (a0 : Array Value) (hw : own_HW a0 Z) (ws : List Jvm.Cond) (r0 r1 : Addr) (h0 : Heap) (n0 : Nat) (O0 : Old Z n0 h0) (f1 : Fld Z h0 r0 cs5 "name" "Ljava/lang/String;" (.ref r1)) :
    own_MF l mN26 prog_22_method_7_code 1 (some (.object "java/lang/String")) ws rR0_0_0_0 Z h0 #[(.ref r0)] (Q28_1 Z r0 r1 h0 n0) := by
  refine own_open (plainFor_of_name pn_com_example_manojo_manojo_QueryTree_Parameter) (L0 := #[lR r0]) (fun _ => by first | (simp [entryFrame, mkF, argsToLocals, Value.category]; done) | rfl) ?_
  intro p e s m below meth c s₁ hx hby hml hret hnn hZ hown X0 e0
  have N0 := Fr.nil n0
  obtain ⟨T2, X2, e2, st2⟩ := getF X0 hx hZ hown (host := "") (Or.inl (ww hw 150 rfl)) Via.refl e0 f1 (g := (mkF m 1 #[lR r0] [(.ref r0)])) rfl rfl (hb hby d28_1)
  refine ⟨some (.ref r1), _, _, _, _, nofun, X2, by decide, by decide, ?_, fun fs hr => ?_⟩
  · rw [e2]; exact ⟨rfl, N0, rfl⟩
  · show SG p e below s₁ (mkF m 0 #[lR r0] []) _
    refine qaN X0 hx hby d28_0 ?_
    refine st2 _ ?_
    exact retOut X2 hx (i := .areturn) hret rfl (Or.inr (Or.inr (Or.inr (Or.inr ⟨rfl, rfl, rfl⟩)))) (hb hby d28_4) hr
theorem d29_0 : DK cB29 0 (.aload_n 0) 1 := by decide +kernel
theorem d29_1 : DK cB29 1 (.invokevirtual 492) 3 := by decide +kernel
theorem d30_0 : DK cB30 0 (.getstatic 38) 3 := by decide +kernel
theorem d30_3 : DK cB30 3 (.ifCond .eq 14) 3 := by decide +kernel
theorem d30_6 : DK cB30 6 (.aload_n 0) 1 := by decide +kernel
theorem d30_7 : DK cB30 7 (.getfield 15) 3 := by decide +kernel
theorem d30_10 : DK cB30 10 (.ifCond .ne 7) 3 := by decide +kernel
theorem d30_13 : DK cB30 13 (.iconst 1) 1 := by decide +kernel
theorem d30_14 : DK cB30 14 (.goto 4) 3 := by decide +kernel
theorem d30_18 : DK cB30 18 (.ireturn) 1 := by decide +kernel
def Q30_1 (Z : State) (r0 : Addr) (x1 x2 : Int32) (h0 : Heap) (n0 : Nat) (v : Option Value) (h : Heap) (L : List Loc) : Prop := v = some vI1 ∧ Fr n0 L ∧ h = h0
theorem rm30_1 (l : Launch) (Z : State) (a0 : Array Value) (hw : own_HW a0 Z) (ws : List Jvm.Cond) (r0 : Addr) (x1 x2 : Int32) (h0 : Heap) (n0 : Nat) (O0 : Old Z n0 h0) (f1 : Sta Z Z.heap "java/lang/String" "COMPACT_STRINGS" "Z" (.int x1)) (hc4 : ¬ (x1 = (0 : Int32))) (f5 : Fld Z h0 r0 "java/lang/String" "coder" "B" (.int x2)) (hc7 : x2 = (0 : Int32)) :
    own_MF l mN27 jdk_42_method_154_code 1 (some .boolean) ws rR0_0_0_0 Z h0 #[(.ref r0)] (Q30_1 Z r0 x1 x2 h0 n0) := by
  refine own_open (plainFor_of_name pn_java_lang_String) (L0 := #[lR r0]) (fun _ => by first | (simp [entryFrame, mkF, argsToLocals, Value.category]; done) | rfl) ?_
  intro p e s m below meth c s₁ hx hby hml hret hnn hZ hown X0 e0
  have N0 := Fr.nil n0
  have f2 := f1.ext O0.2
  obtain ⟨T3, X3, e3, st3⟩ := getS2 X0 hx hZ hown (host := "") (Or.inl (ww hw 68 rfl)) Via.refl e0 f2 (g := (mkF m 0 #[lR r0] [])) rfl (hb hby d30_0)
  obtain ⟨T6, X6, e6, st6⟩ := getF X3 hx hZ hown (host := "") (Or.inl (ww hw 22 rfl)) Via.refl e3 f5 (g := (mkF m 7 #[lR r0] [(.ref r0)])) rfl rfl (hb hby d30_7)
  refine ⟨some vI1, _, _, _, _, nofun, X6, by decide, by decide, ?_, fun fs hr => ?_⟩
  · rw [e6]; exact ⟨rfl, N0, rfl⟩
  · show SG p e below s₁ (mkF m 0 #[lR r0] []) _
    refine st3 _ ?_
    refine XS.ifNo X3.here hx rfl (hb hby d30_3) rfl ((if0 _ _).trans (feq hc4).1) ?_
    refine qaN X3 hx hby d30_6 ?_
    refine st6 _ ?_
    refine XS.ifNo X6.here hx rfl (hb hby d30_10) rfl ((if0 _ _).trans (teq hc7).2) ?_
    refine qc X6 hx hby d30_13 ?_
    refine XS.goto X6.here hx rfl (pc0 := 14) (pc' := 18) rfl (hb hby d30_14) (by decide) (by decide) ?_
    exact retN X6 hx (t := .boolean) hret (by simp) (hb hby d30_18) hr
theorem d29_4 : DK cB29 4 (.ifCond .eq 12) 3 := by decide +kernel
theorem d29_7 : DK cB29 7 (.aload_n 0) 1 := by decide +kernel
theorem d29_8 : DK cB29 8 (.getfield 9) 3 := by decide +kernel
theorem d29_11 : DK cB29 11 (.iload_n 1) 1 := by decide +kernel
theorem d29_12 : DK cB29 12 (.invokestatic 495) 3 := by decide +kernel
theorem d31_0 : DK cB31 0 (.iload_n 1) 1 := by decide +kernel
theorem d31_1 : DK cB31 1 (.aload_n 0) 1 := by decide +kernel
theorem d31_2 : DK cB31 2 (.arraylength) 1 := by decide +kernel
theorem d31_3 : DK cB31 3 (.invokestatic 9) 3 := by decide +kernel
theorem d32_0 : DK cB32 0 (.iload_n 0) 1 := by decide +kernel
theorem d32_1 : DK cB32 1 (.iload_n 1) 1 := by decide +kernel
theorem d32_2 : DK cB32 2 (.getstatic 1053) 3 := by decide +kernel
theorem d32_5 : DK cB32 5 (.invokestatic 1059) 3 := by decide +kernel
theorem d33_0 : DK cB33 0 (.iload_n 0) 1 := by decide +kernel
theorem d33_1 : DK cB33 1 (.ifCond .lt 8) 3 := by decide +kernel
theorem d33_4 : DK cB33 4 (.iload_n 0) 1 := by decide +kernel
theorem d33_5 : DK cB33 5 (.iload_n 1) 1 := by decide +kernel
theorem d33_6 : DK cB33 6 (.if_icmp .lt 10) 3 := by decide +kernel
theorem d33_16 : DK cB33 16 (.iload_n 0) 1 := by decide +kernel
theorem d33_17 : DK cB33 17 (.ireturn) 1 := by decide +kernel
theorem own_catR {v : Value} (h : v.isRef = true) : v = .null ∨ ∃ a, v = .ref a := by cases v <;> simp [Value.isRef] at h ⊢
theorem pn_jdk_internal_util_Preconditions : plainName cs7 = true := by first | (simp [plainName, overriddenIn]; done) | decide +kernel
def Q33_1 (Z : State) (x0 x1 : Int32) (u2 : Value) (h0 : Heap) (n0 : Nat) (v : Option Value) (h : Heap) (L : List Loc) : Prop := v = some (.int x0) ∧ Fr n0 L ∧ h = h0
theorem rm33_1 (l : Launch) (Z : State) (a0 : Array Value) (hw : own_HW a0 Z) (ws : List Jvm.Cond) (x0 x1 : Int32) (u2 : Value) (h0 : Heap) (n0 : Nat) (O0 : Old Z n0 h0) (hc1 : u2.isRef = true) (hc2 : ¬ (x0 < (0 : Int32))) (hc3 : x0 < x1) :
    MetFree l mN28 (head1 (Jvm.Cond.code mN28 jdk_41_method_11_code 3 (some .int) :: ws) rR0_0_0_0) (fun a U => a = #[(.int x0), (.int x1), u2] ∧ Z.Warmed39 U.vm ∧ U.heap = h0) (fun _ _ _ _ _ => True) (fun _ U o U' => ∃ v L, o = .returned v ∧ Q33_1 Z x0 x1 u2 h0 n0 v U'.heap L ∧ FrameEnd U o U' L rR0_0_0_0.cells rR0_0_0_0.slots) := by
  refine MetFree.of_bodySF (plainFor_of_name pn_jdk_internal_util_Preconditions) hisR ?_
  intro p e s m args below meth c s₁ Bd hml0 hP hK
  obtain ⟨rfl, hZ, hh⟩ := hP
  have hx := Bd.exec
  have hby := Bd.bytes
  have hml : c.maxLocals = 3 := hml0
  have hown : s.vm.findClass cs7 = some m.cls := findClass_of_methodNamed Bd.named
  have X0 : Stand p l e rR0_0_0_0 s m #[(.int x0), (.int x1), u2] below meth c s₁ [] 0 0 := Stand.of_body Bd
  have e0 : s₁.heap = h0 := by rw [← hh, Bd.state]; rfl
  have N0 := Fr.nil n0
  have pre0 : ∀ t, Steps p.tables e below (s₁.setTop (mkF m 0 #[lI x0, lI x1, .val u2] [])) t → Steps p.tables e below (s₁.setTop (entryFrame m #[(.int x0), (.int x1), u2] 3)) t := fun t k => castTop (by rcases own_catR hc1 with q | ⟨_, q⟩ <;> rw [q] <;> first | (simp [entryFrame, mkF, argsToLocals, Value.category]; done) | rfl) k
  obtain ⟨fs, hr, hrun, hended, hW, hsame⟩ := X0.leave (v := some (.int x0)) (fun h => by rw [Bd.returns] at h; cases h)
  refine ⟨_, _, pre0 _ ?_, hrun, hended, _, _, rfl, ?_, ⟨_, rfl⟩, hW, hsame.mono (by decide) (by decide)⟩
  · show SG p e below s₁ (mkF m 0 #[lI x0, lI x1, .val u2] []) _
    refine qiN X0 hx hby d33_0 ?_
    refine XS.ifNo X0.here hx rfl (hb hby d33_1) rfl ((if0 _ _).trans (flt hc2).1) ?_
    refine qiN X0 hx hby d33_4 ?_
    refine qiN X0 hx hby d33_5 ?_
    refine XS.icmpYes X0.here hx rfl (pc0 := 6) (pc' := 16) rfl (hb hby d33_6) rfl (tlt hc3).1 (by decide) (by decide) ?_
    refine qiN X0 hx hby d33_16 ?_
    exact retOut X0 hx (i := .ireturn) Bd.returns rfl (Or.inl ⟨rfl, Or.inl rfl, _, rfl⟩) (hb hby d33_17) hr
  · show Q33_1 Z x0 x1 u2 h0 n0 _ s₁.heap _
    rw [e0]
    exact ⟨rfl, N0, rfl⟩
theorem pd__IILjava_util_function_BiFunction__I : parseMethodDescriptor "(IILjava/util/function/BiFunction;)I" = some ⟨[.int, .int, (.object "java/util/function/BiFunction")], some .int⟩ := by decide +kernel
theorem d32_8 : DK cB32 8 (.pop) 1 := by decide +kernel
theorem d32_9 : DK cB32 9 (.return_) 1 := by decide +kernel
def Q32_1 (Z : State) (x0 x1 : Int32) (u2 : Value) (h0 : Heap) (n0 : Nat) (v : Option Value) (h : Heap) (L : List Loc) : Prop := v = none ∧ Fr n0 L ∧ h = h0
theorem rm32_1 (l : Launch) (Z : State) (a0 : Array Value) (hw : own_HW a0 Z) (ws : List Jvm.Cond) (x0 x1 : Int32) (u2 : Value) (h0 : Heap) (n0 : Nat) (O0 : Old Z n0 h0) (f1 : Sta Z Z.heap cs7 "SIOOBE_FORMATTER" cs8 u2) (hc4 : u2.isRef = true) (hc5 : ¬ (x0 < (0 : Int32))) (hc6 : x0 < x1) :
    own_MF l mN29 jdk_42_method_155_code 2 none ws rR1_0_0_14 Z h0 #[(.int x0), (.int x1)] (Q32_1 Z x0 x1 u2 h0 n0) := by
  refine own_open (plainFor_of_name pn_java_lang_String) (L0 := #[lI x0, lI x1]) (fun _ => by first | (simp [entryFrame, mkF, argsToLocals, Value.category]; done) | rfl) ?_
  intro p e s m below meth c s₁ hx hby hml hret hnn hZ hown X0 e0
  have N0 := Fr.nil n0; have w := @ww Z a0 hw
  have f2 := f1.ext O0.2
  obtain ⟨T3, X3, e3, st3⟩ := getS2 X0 hx hZ hown (host := "") (Or.inl (w 175 rfl)) Via.refl e0 f2 (g := (mkF m 2 #[lI x0, lI x1] [(.int x1), (.int x0)])) rfl (hb hby d32_2)
  obtain ⟨_, T7, Lc7, X7, hQ7, st7⟩ := own_cS X3 hx hZ hown e3 (rm33_1 l Z a0 hw [] x0 x1 u2 h0 n0 O0 hc4 hc5 hc6) (w 177 rfl) (w 178 rfl) (w 176 rfl) (w 179 rfl) (by decide) (W := 0) (by decide) (by decide) (by decide) (by decide) (g := (mkF m 5 #[lI x0, lI x1] [u2, (.int x1), (.int x0)])) rfl (by rw [hml]; rfl) (argsL := [(.int x0), (.int x1), u2]) (rest := []) (lenOf pd__IILjava_util_function_BiFunction__I rfl) rfl (own_W rfl) (hb hby d32_5)
  obtain ⟨rfl, N7q, E7⟩ := hQ7
  have N7 := Fr.app N0 N7q
  refine ⟨none, _, _, _, _, (fun _ => rfl), X7, by decide, by decide, ?_, fun fs hr => ?_⟩
  · rw [E7]; exact ⟨rfl, N7, rfl⟩
  · show SG p e below s₁ (mkF m 0 #[lI x0, lI x1] []) _
    refine qiN X0 hx hby d32_0 ?_
    refine qiN X0 hx hby d32_1 ?_
    refine st3 _ ?_
    refine st7 _ ?_
    refine XS.pop X7.here hx rfl (hb hby d32_8) rfl rfl ?_
    exact X7.returnOut hx hret (hb hby d32_9) hr
theorem d31_6 : DK cB31 6 (.aload_n 0) 1 := by decide +kernel
theorem d31_7 : DK cB31 7 (.iload_n 1) 1 := by decide +kernel
theorem d31_8 : DK cB31 8 (.baload) 1 := by decide +kernel
theorem d31_9 : DK cB31 9 (.sipush 255) 3 := by decide +kernel
theorem d31_12 : DK cB31 12 (.iand) 1 := by decide +kernel
theorem d31_13 : DK cB31 13 (.i2c) 1 := by decide +kernel
theorem d31_14 : DK cB31 14 (.ireturn) 1 := by decide +kernel
theorem pn_java_lang_StringLatin1 : plainName "java/lang/StringLatin1" = true := by first | (simp [plainName, overriddenIn]; done) | decide +kernel
def Q31_1 (Z : State) (r0 : Addr) (x1 x2 : Int32) (c3 : ClassId) (t4 : List Value) (u5 : Value) (x6 : Int32) (h0 : Heap) (n0 : Nat) (v : Option Value) (h : Heap) (L : List Loc) : Prop := v = some (.int (nar .char ((x6 &&& (255 : Int32)).toUInt32.toUInt16.toUInt32.toInt32))) ∧ Fr n0 L ∧ h = h0
theorem rm31_1 (l : Launch) (Z : State) (a0 : Array Value) (hw : own_HW a0 Z) (ws : List Jvm.Cond) (r0 : Addr) (x1 x2 : Int32) (c3 : ClassId) (t4 : List Value) (u5 : Value) (x6 : Int32) (h0 : Heap) (n0 : Nat) (O0 : Old Z n0 h0) (f1 : Arv Z h0 r0 c3 .byte x2 t4 vI0) (f3 : Sta Z Z.heap cs7 "SIOOBE_FORMATTER" cs8 u5) (hc4 : u5.isRef = true) (hc5 : ¬ (x1 < (0 : Int32))) (hc6 : x1 < x2) (he9 : t4.getD (x1).toNatClampNeg vI0 = (.int x6)) :
    own_MF l mN30 jdk_43_method_2_code 2 (some .char) ws rR2_0_0_27 Z h0 #[(.ref r0), (.int x1)] (Q31_1 Z r0 x1 x2 c3 t4 u5 x6 h0 n0) := by
  refine own_open (plainFor_of_name pn_java_lang_StringLatin1) (L0 := #[lR r0, lI x1]) (fun _ => by first | (simp [entryFrame, mkF, argsToLocals, Value.category]; done) | rfl) ?_
  intro p e s m below meth c s₁ hx hby hml hret hnn hZ hown X0 e0
  have N0 := Fr.nil n0
  obtain ⟨clq2, Arq2, qq2, Sq2, Nq2, Hq2, Gq2⟩ := id f1
  obtain ⟨_, T7, Lc7, X7, hQ7, st7⟩ := own_cS X0 hx hZ hown e0 (rm32_1 l Z a0 hw [] x1 x2 u5 h0 n0 O0 f3 hc4 hc5 hc6) (ww hw 172 rfl) (ww hw 173 rfl) (ww hw 4 rfl) (ww hw 174 rfl) (by decide) (W := 0) (by decide) (by decide) (by decide) (by decide) (g := (mkF m 3 #[lR r0, lI x1] [(.int x2), (.int x1)])) rfl (by rw [hml]; rfl) (argsL := [(.int x1), (.int x2)]) (rest := []) (lenOf pd__II_V rfl) rfl (own_W rfl) (hb hby d31_3)
  obtain ⟨rfl, N7q, E7⟩ := hQ7
  have N7 := Fr.app N0 N7q
  obtain ⟨clq8, Arq8, qq8, Sq8, Nq8, Hq8, Gq8⟩ := id f1
  refine ⟨some (.int (nar .char ((x6 &&& (255 : Int32)).toUInt32.toUInt16.toUInt32.toInt32))), _, _, _, _, nofun, X7, by decide, by decide, ?_, fun fs hr => ?_⟩
  · rw [E7]; exact ⟨rfl, N7, rfl⟩
  · show SG p e below s₁ (mkF m 0 #[lR r0, lI x1] []) _
    refine qiN X0 hx hby d31_0 ?_
    refine qaN X0 hx hby d31_1 ?_
    refine X0.arraylength hx (by rw [e0]; exact Arq2.1) (State.isArrayOf_alike hZ.alike Arq2.2.1) (g := (mkF m 2 #[lR r0, lI x1] [(.ref r0), (.int x1)])) rfl rfl (hb hby d31_2) _ ?_
    rw [len_of Sq2 Nq2]
    refine st7 _ ?_
    refine qaN X7 hx hby d31_6 ?_
    refine qiN X7 hx hby d31_7 ?_
    refine X7.baloadBytes hx (j := x1) (v := (.int x6)) (by rw [E7]; exact Arq8.1) (State.isArrayOf_alike hZ.alike Arq8.2.1) Arq8.2.2 (inb_of Sq8 ⟨hc5, hc6⟩) (Has.at Hq8 (inb_of Sq8 ⟨hc5, hc6⟩) he9) (g := (mkF m 8 #[lR r0, lI x1] [(.int x1), (.ref r0)])) rfl rfl (hb hby d31_8) _ ?_
    refine XS.sipush X7.here hx rfl (hb hby d31_9) ?_
    refine XS.iand X7.here hx rfl (hb hby d31_12) rfl ?_
    refine XS.i2c X7.here hx rfl (hb hby d31_13) rfl ?_
    show SG p e below T7 (mkF m 14 #[lR r0, lI x1] [(.int ((x6 &&& (255 : Int32)).toUInt32.toUInt16.toUInt32.toInt32))]) _
    exact retN X7 hx (t := .char) hret (by simp) (hb hby d31_14) hr
theorem pd___BI_C : parseMethodDescriptor "([BI)C" = some ⟨[(.array .byte), .int], some .char⟩ := by decide +kernel
theorem d29_15 : DK cB29 15 (.ireturn) 1 := by decide +kernel
def Q29_1 (Z : State) (r0 : Addr) (x1 x2 x3 : Int32) (r4 : Addr) (x5 : Int32) (c6 : ClassId) (t7 : List Value) (u8 : Value) (x9 : Int32) (h0 : Heap) (n0 : Nat) (v : Option Value) (h : Heap) (L : List Loc) : Prop := v = some (.int (nar .char (nar .char ((x9 &&& (255 : Int32)).toUInt32.toUInt16.toUInt32.toInt32)))) ∧ Fr n0 L ∧ h = h0
theorem rm29_1 (l : Launch) (Z : State) (a0 : Array Value) (hw : own_HW a0 Z) (ws : List Jvm.Cond) (r0 : Addr) (x1 x2 x3 : Int32) (r4 : Addr) (x5 : Int32) (c6 : ClassId) (t7 : List Value) (u8 : Value) (x9 : Int32) (h0 : Heap) (n0 : Nat) (O0 : Old Z n0 h0) (f1 : Exa Z h0 r0 "java/lang/String") (f2 : Sta Z Z.heap "java/lang/String" "COMPACT_STRINGS" "Z" (.int x2)) (hc3 : ¬ (x2 = (0 : Int32))) (f4 : Fld Z h0 r0 "java/lang/String" "coder" "B" (.int x3)) (hc5 : x3 = (0 : Int32)) (f7 : Fld Z h0 r0 "java/lang/String" "value" "[B" (.ref r4)) (f9 : Arv Z h0 r4 c6 .byte x5 t7 vI0) (f10 : Sta Z Z.heap cs7 "SIOOBE_FORMATTER" cs8 u8) (hc11 : u8.isRef = true) (hc12 : ¬ (x1 < (0 : Int32))) (hc13 : x1 < x5) (he14 : t7.getD (x1).toNatClampNeg vI0 = (.int x9)) :
    own_MF l mN31 jdk_42_method_56_code 2 (some .char) ws rR3_0_0_40 Z h0 #[(.ref r0), (.int x1)] (Q29_1 Z r0 x1 x2 x3 r4 x5 c6 t7 u8 x9 h0 n0) := by
  refine own_open (plainFor_of_name pn_java_lang_String) (L0 := #[lR r0, lI x1]) (fun _ => by first | (simp [entryFrame, mkF, argsToLocals, Value.category]; done) | rfl) ?_
  intro p e s m below meth c s₁ hx hby hml hret hnn hZ hown X0 e0
  have N0 := Fr.nil n0; have w := @ww Z a0 hw
  obtain ⟨_, T6, Lc6, X6, hQ6, st6⟩ := own_cV X0 hx hZ hown e0 (rm30_1 l Z a0 hw [] r0 x2 x3 h0 n0 O0 f2 hc3 f4 hc5) f1 (w 163 rfl) (w 164 rfl) (w 166 rfl) (w 165 rfl) (w 167 rfl) (w 4 rfl) (by decide) (W := 0) (by decide) (by decide) (by decide) (by decide) (g := (mkF m 1 #[lR r0, lI x1] [(.ref r0)])) rfl (by rw [hml]; rfl) (argsL := []) (rest := []) (lenOf pd___Z rfl) rfl (own_W rfl) (hb hby d29_1)
  obtain ⟨rfl, N6q, E6⟩ := hQ6
  have N6 := Fr.app N0 N6q
  obtain ⟨T8, X8, e8, st8⟩ := getF X6 hx hZ hown (host := "") (Or.inl (w 21 rfl)) Via.refl E6 f7 (g := (mkF m 8 #[lR r0, lI x1] [(.ref r0)])) rfl rfl (hb hby d29_8)
  obtain ⟨_, T15, Lc15, X15, hQ15, st15⟩ := own_cS X8 hx hZ hown e8 (rm31_1 l Z a0 hw [] r4 x1 x5 c6 t7 u8 x9 h0 n0 O0 f9 f10 hc11 hc12 hc13 he14) (w 168 rfl) (w 169 rfl) (w 170 rfl) (w 171 rfl) (by decide) (W := 0) (by decide) (by decide) (by decide) (by decide) (g := (mkF m 12 #[lR r0, lI x1] [(.int x1), (.ref r4)])) rfl (by rw [hml]; rfl) (argsL := [(.ref r4), (.int x1)]) (rest := []) (lenOf pd___BI_C rfl) rfl (own_W rfl) (hb hby d29_12)
  obtain ⟨rfl, N15q, E15⟩ := hQ15
  have N15 := Fr.app N6 N15q
  refine ⟨some (.int (nar .char (nar .char ((x9 &&& (255 : Int32)).toUInt32.toUInt16.toUInt32.toInt32)))), _, _, _, _, nofun, X15, by decide, by decide, ?_, fun fs hr => ?_⟩
  · rw [E15]; exact ⟨rfl, N15, rfl⟩
  · show SG p e below s₁ (mkF m 0 #[lR r0, lI x1] []) _
    refine qaN X0 hx hby d29_0 ?_
    refine st6 _ ?_
    refine XS.ifNo X6.here hx rfl (hb hby d29_4) rfl ((if0 _ _).trans (feq (by decide : ¬ ((1 : Int32) = (0 : Int32)))).1) ?_
    refine qaN X6 hx hby d29_7 ?_
    refine st8 _ ?_
    refine qiN X8 hx hby d29_11 ?_
    refine st15 _ ?_
    exact retN X15 hx (t := .char) hret (by simp) (hb hby d29_15) hr
theorem pd__I_C : parseMethodDescriptor "(I)C" = some ⟨[.int], some .char⟩ := by decide +kernel
theorem pn_com_example_manojo_manojo_ParameterNamedPinLaw : plainName "com/example/manojo/manojo/ParameterNamedPinLaw" = true := by first | (simp [plainName, overriddenIn]; done) | decide +kernel
def Q0_1 (Z : State) (x0 x1 : Int32) (x2 x3 : Int32) (x4 x5 : Int32) (x6 x7 : Int32) (u8 : Value) (h0 : Heap) (n0 : Nat) (v : Option Value) (h : Heap) (L : List Loc) : Prop := v = some vI1 ∧ Fr n0 L
theorem rm0_1 (l : Launch) (Z : State) (a0 : Array Value) (hw : own_HW a0 Z) (ws : List Jvm.Cond) (x0 x1 : Int32) (x2 x3 : Int32) (x4 x5 : Int32) (x6 x7 : Int32) (u8 : Value) (h0 : Heap) (n0 : Nat) (O0 : Old Z n0 h0) (hc1 : (x0 &&& (3 : Int32)) = (0 : Int32)) (hq2 : ((x1 &&& (65535 : Int32)).toUInt32.toUInt16.toUInt32.toInt32) = x4) (hq3 : ((x2 &&& (65535 : Int32)).toUInt32.toUInt16.toUInt32.toInt32) = x5) (hq4 : ((x3 &&& (65535 : Int32)).toUInt32.toUInt16.toUInt32.toInt32) = x6) (f26 : Sta Z Z.heap "java/lang/String" "COMPACT_STRINGS" "Z" (.int x7)) (hc27 : ¬ (x7 = (0 : Int32))) (f49 : Sta Z Z.heap cs7 "SIOOBE_FORMATTER" cs8 u8) (hc50 : u8.isRef = true) :
    own_MH l x code maxLocals ret ws room_1 Z h0 #[(.int x0), (.int x1), (.int x2), (.int x3)] (Q0_1 Z x0 x1 x2 x3 x4 x5 x6 x7 u8 h0 n0) := by
  have hEL : EW Z a0 consts_1 := own_EW hw
  refine own_openH hEL (plainFor_of_name pn_com_example_manojo_manojo_ParameterNamedPinLaw) (L0 := #[lI x0, lI x1, lI x2, lI x3, lU, lU, lU, lU, lU, lU, lU, lU]) (fun _ => by first | (simp [entryFrame, mkF, argsToLocals, Value.category, maxLocals]; done) | rfl) ?_
  intro p e s m below meth c s₁ hx hby hml hret hnn hZ hown X0 e0 R0
  have N0 := Fr.nil n0; have w := @ww Z a0 hw
  obtain ⟨T5, h5, k5, X5, e5, E5, A5, B5, st5⟩ := newPE X0 hx hZ (w 1 rfl) e0 (g := (mkF m 28 #[lI x0, lI x1, lI x2, lI x3, lV vI0, lI x4, lI x5, lI x6, lU, lU, lU, lU] [vI0])) rfl (hb hby at_28) rfl (by decide) (cap := 0) (by decide) (by decide) (by decide) (by decide) (ad := "[C") rfl
  obtain ⟨b5, g5⟩ : ∃ z, z = h0.size := ⟨_, rfl⟩
  have sf6 : Safe Z consts_1 s.vm h0 b5 := Safe.new (Nat.le_of_eq g5.symm)
  rw [← g5] at A5 B5 st5
  have R7 := CHr.trans R0 (CHr.ext E5 R0.1)
  have V5 : Arv Z h5 b5 k5 .char (0 : Int32) [] vI0 := (Arv.new A5 (by decide)).pad (pad_rep [] vI0 0)
  obtain ⟨T8, h8, X8, e8, E8, A8, D8, -, st8⟩ := newO X5 hx hZ hown (w 2 rfl) (w 3 rfl) (w 4 rfl) e5 (g := (mkF m 67 #[lI x0, lI x1, lI x2, lI x3, lV vI0, lI x4, lI x5, lI x6, lR b5, lU, lU, lU] [])) rfl (hb hby at_67) (by decide) (by decide)
  obtain ⟨b8, g8⟩ : ∃ z, z = h5.size := ⟨_, rfl⟩
  have sf9 : Safe Z consts_1 s.vm h5 b8 := Safe.new (Nat.le_of_eq g8.symm)
  rw [← g8] at A8 D8 st8
  have R10 := CHr.trans R7 (CHr.ext E8 R7.1)
  have f11 : Fld Z h8 b8 "java/lang/String" "value" "[B" .null := D8 (Or.inr (w 17 rfl)) (ty := (.array .byte)) (by decide)
  have f12 : Fld Z h8 b8 "java/lang/String" "coder" "B" vI0 := D8 (Or.inr (w 18 rfl)) (ty := .byte) (by decide)
  have f13 := (V5.ext E8)
  have o15 := Old.ext O0 E5
  have zz14 : n0 ≤ h5.size := by rw [← o15.1]; exact o15.2.1
  have g16 := Nat.le_trans zz14 (Nat.le_of_eq g8.symm)
  have o17 := Old.ext o15 E8
  have hS18 := (State.WarmedH.refl s).since 0
  have sf19 := (Safe.ext E8 R7.1 sf9)
  obtain ⟨_, _, ⟨T20, L20, k20, n20⟩, -, X20, hs20, hg20, ⟨Lc20, hQ20, l20, y20, z20, cr20⟩, st20⟩ := X8.specialBackS hx (y := mN1) rfl hown (mvT hZ (w 5 rfl)) (mvT hZ (w 6 rfl)) (mvT hZ (w 7 rfl)) (by decide) (own_backSafe (s := s) (vm0 := s.vm) (W := 1) (rm1_1 l Z a0 hw [] b8 b5 k5 h8 n0 o17 f13 A8 f11 g16 A8.lt f12) hZ (w 7 rfl) (w 4 rfl) (by decide) (by decide) hEL R10.1 (allS ⟨A8.lt, sf19⟩ all0)) (g := (mkF m 73 #[lI x0, lI x1, lI x2, lI x3, lV vI0, lI x4, lI x5, lI x6, lR b5, lU, lU, lU] [(.ref b5), (.ref b8), (.ref b8)])) rfl (by rw [hml]; rfl) (Steps.refl _) (a := b8) (argsL := [(.ref b5)]) (rest := [(.ref b8)]) (lenOf pd___C_V rfl) rfl (own_W rfl) (hb hby at_73) (fun _ _ => ⟨rfl, e8, (by decide : 2 + 4 ≤ _), (by decide : 4 + 8 ≤ _)⟩)
  dsimp only [Pt.U, Pt.locs, Pt.cells, Pt.slots] at X20 l20 y20 z20 st20 hQ20 hs20 hg20 cr20
  subst l20 y20 z20
  obtain ⟨X20, hS20, hZ20, ho20⟩ := rebS (s := s) (vm0 := s.vm) hS18 (by rw [e8]; exact (Nat.zero_le _)) X20 hs20 hg20 hZ hown
  obtain ⟨b20_0, k20_0, rfl, N20q, K20, f21, f22, f23, f24⟩ := hQ20
  have N20 := Fr.app N0 N20q
  have R25 := CHr.trans R10 cr20
  have f28 := (A8.keep K20)
  have zs29 := K20.1
  have o30 := Old.keep o17 K20 (allS g16 all0)
  obtain ⟨_, _, ⟨T31, L31, k31, n31⟩, -, X31, hs31, hg31, ⟨Lc31, hQ31, l31, y31, z31, cr31⟩, st31⟩ := callSS X20 hx (y := mN25) ho20 (mvT hZ20 (w 23 rfl)) (mvT hZ20 (w 24 rfl)) (mvT hZ20 (w 25 rfl)) (mvT hZ20 (w 26 rfl)) (by decide) (backOfSH (s := s) (vm0 := T20.vm) (W := 0) (rm4_1 l Z a0 hw [] b8 x7 b20_0 k20_0 T20.heap n0 o30 f26 hc27 f28 f21 (Nat.lt_of_lt_of_le A8.lt zs29) f24 f24.lt f22) hZ20 (w 26 rfl) (w 25 rfl) (by decide) (by decide) hEL R25.1) (g := (mkF m 80 #[lI x0, lI x1, lI x2, lI x3, lV vI0, lI x4, lI x5, lI x6, lR b5, lR b8, lU, lU] [(.ref b8)])) rfl (by rw [hml]; rfl) (argsL := [(.ref b8)]) (rest := []) (lenOf pd__Ljava_lang_String__Lcom_example_manojo_manojo_QueryTree_Parameter_ rfl) rfl (own_W rfl) (hb hby at_80) (fun _ _ => ⟨rfl, rfl, (by decide : 6 + 7 ≤ _), (by decide : 12 + 49 ≤ _)⟩)
  dsimp only [Pt.U, Pt.locs, Pt.cells, Pt.slots] at X31 l31 y31 z31 st31 hQ31 hs31 hg31 cr31
  subst l31 y31 z31
  obtain ⟨X31, hS31, hZ31, ho31⟩ := rebS (s := s) (vm0 := T20.vm) hS20 ((Nat.le_refl _)) X31 hs31 hg31 hZ20 ho20
  obtain ⟨b31_0, b31_1, b31_2, k31_0, rfl, N31q, K31, f32, f33, f34, f35, f36, f37, f38, f39, f40, f41, f42, f43, f44⟩ := hQ31
  have N31 := Fr.app N20 N31q
  have R45 := CHr.trans R25 cr31
  have o46 := Old.keep o30 K31 all0
  obtain ⟨_, T47, Lc47, X47, hQ47, st47⟩ := own_cV X31 hx hZ31 ho31 rfl (rm28_1 l Z a0 hw [] b31_0 b31_1 T31.heap n0 o46 f34) f33 (w 152 rfl) (w 153 rfl) (w 155 rfl) (w 154 rfl) (w 156 rfl) (w 25 rfl) (by decide) (W := 0) (by decide) (by decide) (by decide) (by decide) (g := (mkF m 87 #[lI x0, lI x1, lI x2, lI x3, lV vI0, lI x4, lI x5, lI x6, lR b5, lR b8, lR b31_0, lU] [(.ref b31_0)])) rfl (by rw [hml]; rfl) (argsL := []) (rest := []) (lenOf pd___Ljava_lang_String_ rfl) rfl (own_W rfl) (hb hby at_87)
  obtain ⟨rfl, N47q, E47⟩ := hQ47
  have N47 := Fr.app N31 N47q
  obtain ⟨_, T48, Lc48, X48, hQ48, st48⟩ := own_cV X47 hx hZ31 ho31 E47 (rm9_1 l Z a0 hw [] b31_1 b31_2 (1 : Int32) k31_0 ([vI58]) x7 (0 : Int32) T31.heap n0 o46 f38 f40 f36 f26 hc27 f37) f36 (w 157 rfl) (w 59 rfl) (w 61 rfl) (w 60 rfl) (w 62 rfl) (w 4 rfl) (by decide) (W := 0) (by decide) (by decide) (by decide) (by decide) (g := (mkF m 99 #[lI x0, lI x1, lI x2, lI x3, lV vI0, lI x4, lI x5, lI x6, lR b5, lR b8, lR b31_0, lR b31_1] [(.ref b31_1)])) rfl (by rw [hml]; rfl) (argsL := []) (rest := []) (lenOf pd___I rfl) rfl (own_W rfl) (hb hby at_99)
  obtain ⟨rfl, N48q, E48⟩ := hQ48
  have N48 := Fr.app N47 N48q
  obtain ⟨_, T51, Lc51, X51, hQ51, st51⟩ := own_cV X48 hx hZ31 ho31 E48 (rm29_1 l Z a0 hw [] b31_1 (0 : Int32) x7 (0 : Int32) b31_2 (1 : Int32) k31_0 ([vI58]) u8 (58 : Int32) T31.heap n0 o46 f36 f26 hc27 f37 (by decide) f38 f40 f49 hc50 (by decide) (by decide) (own_gd (n := 0) rfl rfl)) f36 (w 158 rfl) (w 159 rfl) (w 161 rfl) (w 160 rfl) (w 162 rfl) (w 4 rfl) (by decide) (W := 0) (by decide) (by decide) (by decide) (by decide) (g := (mkF m 114 #[lI x0, lI x1, lI x2, lI x3, lV vI0, lI x4, lI x5, lI x6, lR b5, lR b8, lR b31_0, lR b31_1] [vI0, (.ref b31_1)])) rfl (by rw [hml]; rfl) (argsL := [vI0]) (rest := []) (lenOf pd__I_C rfl) rfl (own_W rfl) (hb hby at_114)
  obtain ⟨rfl, N51q, E51⟩ := hQ51
  have N51 := Fr.app N48 N51q
  refine ⟨some vI1, _, _, _, _, _, _, _, nofun, X51, by decide, by decide, hS31, (by rw [E51]; exact (Nat.le_refl _)), hZ31, E51, R45, ?_, fun fs hr => ?_⟩
  · rw [E51]; exact ⟨rfl, N51⟩
  · show SG p e below s₁ (mkF m 0 #[lI x0, lI x1, lI x2, lI x3, lU, lU, lU, lU, lU, lU, lU, lU] []) _
    refine qiN X0 hx hby at_0 ?_
    refine qc X0 hx hby at_1 ?_
    refine XS.iand X0.here hx rfl (hb hby at_2) rfl ?_
    show SG p e below s₁ (mkF m 3 #[lI x0, lI x1, lI x2, lI x3, lU, lU, lU, lU, lU, lU, lU, lU] [(.int (x0 &&& (3 : Int32)))]) _
    rw [hc1]
    refine XS.istore X0.here hx rfl (hb hby at_3) rfl (l' := #[lI x0, lI x1, lI x2, lI x3, lV vI0, lU, lU, lU, lU, lU, lU, lU]) rfl ?_
    refine qiN X0 hx hby at_5 ?_
    refine X0.ldcInt hx hown (mvT hZ (w 0 rfl)) (g := (mkF m 6 #[lI x0, lI x1, lI x2, lI x3, lV vI0, lU, lU, lU, lU, lU, lU, lU] [(.int x1)])) rfl (hb hby at_6) _ ?_
    refine XS.iand X0.here hx rfl (hb hby at_8) rfl ?_
    refine XS.i2c X0.here hx rfl (hb hby at_9) rfl ?_
    show SG p e below s₁ (mkF m 10 #[lI x0, lI x1, lI x2, lI x3, lV vI0, lU, lU, lU, lU, lU, lU, lU] [(.int ((x1 &&& (65535 : Int32)).toUInt32.toUInt16.toUInt32.toInt32))]) _
    rw [hq2]
    refine XS.istore X0.here hx rfl (hb hby at_10) rfl (l' := #[lI x0, lI x1, lI x2, lI x3, lV vI0, lI x4, lU, lU, lU, lU, lU, lU]) rfl ?_
    refine qiN X0 hx hby at_12 ?_
    show SG p e below s₁ (mkF m 13 #[lI x0, lI x1, lI x2, lI x3, lV vI0, lI x4, lU, lU, lU, lU, lU, lU] [(.int x2)]) _
    refine X0.ldcInt hx hown (mvT hZ (w 0 rfl)) (g := (mkF m 13 #[lI x0, lI x1, lI x2, lI x3, lV vI0, lI x4, lU, lU, lU, lU, lU, lU] [(.int x2)])) rfl (hb hby at_13) _ ?_
    refine XS.iand X0.here hx rfl (hb hby at_15) rfl ?_
    refine XS.i2c X0.here hx rfl (hb hby at_16) rfl ?_
    show SG p e below s₁ (mkF m 17 #[lI x0, lI x1, lI x2, lI x3, lV vI0, lI x4, lU, lU, lU, lU, lU, lU] [(.int ((x2 &&& (65535 : Int32)).toUInt32.toUInt16.toUInt32.toInt32))]) _
    rw [hq3]
    refine XS.istore X0.here hx rfl (hb hby at_17) rfl (l' := #[lI x0, lI x1, lI x2, lI x3, lV vI0, lI x4, lI x5, lU, lU, lU, lU, lU]) rfl ?_
    refine qiN X0 hx hby at_19 ?_
    refine X0.ldcInt hx hown (mvT hZ (w 0 rfl)) (g := (mkF m 20 #[lI x0, lI x1, lI x2, lI x3, lV vI0, lI x4, lI x5, lU, lU, lU, lU, lU] [(.int x3)])) rfl (hb hby at_20) _ ?_
    refine XS.iand X0.here hx rfl (hb hby at_22) rfl ?_
    refine XS.i2c X0.here hx rfl (hb hby at_23) rfl ?_
    show SG p e below s₁ (mkF m 24 #[lI x0, lI x1, lI x2, lI x3, lV vI0, lI x4, lI x5, lU, lU, lU, lU, lU] [(.int ((x3 &&& (65535 : Int32)).toUInt32.toUInt16.toUInt32.toInt32))]) _
    rw [hq4]
    refine XS.istore X0.here hx rfl (hb hby at_24) rfl (l' := #[lI x0, lI x1, lI x2, lI x3, lV vI0, lI x4, lI x5, lI x6, lU, lU, lU, lU]) rfl ?_
    refine qi X0 hx hby at_26 ?_
    show SG p e below s₁ (mkF m 28 #[lI x0, lI x1, lI x2, lI x3, lV vI0, lI x4, lI x5, lI x6, lU, lU, lU, lU] [vI0]) _
    refine st5 _ ?_
    refine XS.astore X5.here hx rfl (hb hby at_30) rfl rfl (l' := #[lI x0, lI x1, lI x2, lI x3, lV vI0, lI x4, lI x5, lI x6, lR b5, lU, lU, lU]) rfl ?_
    refine qi X5 hx hby at_32 ?_
    refine XS.ifYes X5.here hx rfl (pc0 := 34) (pc' := 43) rfl (hb hby at_34) rfl ((if0 _ _).trans (flt (by decide : ¬ ((0 : Int32) < (0 : Int32)))).2.2.2) (by decide) (by decide) ?_
    refine qi X5 hx hby at_43 ?_
    refine qc X5 hx hby at_45 ?_
    refine XS.icmpYes X5.here hx rfl (pc0 := 46) (pc' := 55) rfl (hb hby at_46) rfl (flt (by decide : ¬ ((1 : Int32) < (0 : Int32)))).2.2.2 (by decide) (by decide) ?_
    refine qi X5 hx hby at_55 ?_
    refine qc X5 hx hby at_57 ?_
    refine XS.icmpYes X5.here hx rfl (pc0 := 58) (pc' := 67) rfl (hb hby at_58) rfl (flt (by decide : ¬ ((2 : Int32) < (0 : Int32)))).2.2.2 (by decide) (by decide) ?_
    show SG p e below T5 (mkF m 67 #[lI x0, lI x1, lI x2, lI x3, lV vI0, lI x4, lI x5, lI x6, lR b5, lU, lU, lU] []) _
    refine st8 _ ?_
    refine qd X8 hx hby at_70 ?_
    refine qa X8 hx hby at_71 ?_
    refine st20.trans ?_
    refine XS.astore X20.here hx rfl (hb hby at_76) rfl rfl (l' := #[lI x0, lI x1, lI x2, lI x3, lV vI0, lI x4, lI x5, lI x6, lR b5, lR b8, lU, lU]) rfl ?_
    refine qa X20 hx hby at_78 ?_
    refine st31.trans ?_
    refine XS.astore X31.here hx rfl (hb hby at_83) rfl rfl (l' := #[lI x0, lI x1, lI x2, lI x3, lV vI0, lI x4, lI x5, lI x6, lR b5, lR b8, lR b31_0, lU]) rfl ?_
    refine qa X31 hx hby at_85 ?_
    refine st47 _ ?_
    show SG p e below T47 (mkF m 90 #[lI x0, lI x1, lI x2, lI x3, lV vI0, lI x4, lI x5, lI x6, lR b5, lR b8, lR b31_0, lU] [(.ref b31_1)]) _
    refine XS.astore X47.here hx rfl (hb hby at_90) rfl rfl (l' := #[lI x0, lI x1, lI x2, lI x3, lV vI0, lI x4, lI x5, lI x6, lR b5, lR b8, lR b31_0, lR b31_1]) rfl ?_
    refine qa X47 hx hby at_92 ?_
    refine XS.ifnullNo X47.here hx rfl (hb hby at_94) rfl ?_
    refine qa X47 hx hby at_97 ?_
    refine st48 _ ?_
    refine qi X48 hx hby at_102 ?_
    refine qc X48 hx hby at_104 ?_
    refine XS.iadd X48.here hx rfl (hb hby at_105) rfl ?_
    refine XS.icmpYes X48.here hx rfl (pc0 := 106) (pc' := 111) rfl (hb hby at_106) rfl (teq (rfl : (1 : Int32) = (1 : Int32))).1 (by decide) (by decide) ?_
    refine qa X48 hx hby at_111 ?_
    show SG p e below T48 (mkF m 113 #[lI x0, lI x1, lI x2, lI x3, lV vI0, lI x4, lI x5, lI x6, lR b5, lR b8, lR b31_0, lR b31_1] [(.ref b31_1)]) _
    refine qc X48 hx hby at_113 ?_
    refine st51 _ ?_
    refine qb X51 hx hby at_117 ?_
    refine XS.icmpYes X51.here hx rfl (pc0 := 119) (pc' := 124) rfl (hb hby at_119) rfl (teq (rfl : (58 : Int32) = (58 : Int32))).1 (by decide) (by decide) ?_
    refine qi X51 hx hby at_124 ?_
    refine XS.ifYes X51.here hx rfl (pc0 := 126) (pc' := 142) rfl (hb hby at_126) rfl ((if0 _ _).trans (flt (by decide : ¬ ((0 : Int32) < (0 : Int32)))).2.2.2) (by decide) (by decide) ?_
    refine qi X51 hx hby at_142 ?_
    refine qc X51 hx hby at_144 ?_
    refine XS.icmpYes X51.here hx rfl (pc0 := 145) (pc' := 161) rfl (hb hby at_145) rfl (flt (by decide : ¬ ((1 : Int32) < (0 : Int32)))).2.2.2 (by decide) (by decide) ?_
    refine qi X51 hx hby at_161 ?_
    show SG p e below T51 (mkF m 163 #[lI x0, lI x1, lI x2, lI x3, lV vI0, lI x4, lI x5, lI x6, lR b5, lR b8, lR b31_0, lR b31_1] [vI0]) _
    refine qc X51 hx hby at_163 ?_
    refine XS.icmpYes X51.here hx rfl (pc0 := 164) (pc' := 180) rfl (hb hby at_164) rfl (flt (by decide : ¬ ((2 : Int32) < (0 : Int32)))).2.2.2 (by decide) (by decide) ?_
    refine qc X51 hx hby at_180 ?_
    exact retN X51 hx (t := .boolean) hret (by simp) (hb hby at_181) hr
theorem d2_27 : DK cB2 27 (.getstatic 38) 3 := by decide +kernel
theorem d2_30 : DK cB2 30 (.ifCond .eq 28) 3 := by decide +kernel
theorem d2_33 : DK cB2 33 (.aload_n 1) 1 := by decide +kernel
theorem d2_34 : DK cB2 34 (.iload_n 2) 1 := by decide +kernel
theorem d2_35 : DK cB2 35 (.iload_n 3) 1 := by decide +kernel
theorem d2_36 : DK cB2 36 (.invokestatic 177) 3 := by decide +kernel
theorem d34_0 : DK cB34 0 (.iload_n 2) 1 := by decide +kernel
theorem d34_1 : DK cB34 1 (.newarray .byte) 2 := by decide +kernel
theorem d34_3 : DK cB34 3 (.astore_n 3) 1 := by decide +kernel
theorem d34_4 : DK cB34 4 (.aload_n 0) 1 := by decide +kernel
theorem d34_5 : DK cB34 5 (.iload_n 1) 1 := by decide +kernel
theorem d34_6 : DK cB34 6 (.aload_n 3) 1 := by decide +kernel
theorem d34_7 : DK cB34 7 (.iconst 0) 1 := by decide +kernel
theorem d34_8 : DK cB34 8 (.iload_n 2) 1 := by decide +kernel
theorem d34_9 : DK cB34 9 (.invokestatic 115) 3 := by decide +kernel
theorem d35_0 : DK cB35 0 (.iconst 0) 1 := by decide +kernel
theorem d35_1 : DK cB35 1 (.istore 5) 2 := by decide +kernel
theorem d35_3 : DK cB35 3 (.iload 5) 2 := by decide +kernel
theorem d35_5 : DK cB35 5 (.iload 4) 2 := by decide +kernel
theorem d35_7 : DK cB35 7 (.if_icmp .ge 37) 3 := by decide +kernel
theorem d35_10 : DK cB35 10 (.aload_n 0) 1 := by decide +kernel
theorem d35_11 : DK cB35 11 (.iload_n 1) 1 := by decide +kernel
theorem d35_12 : DK cB35 12 (.caload) 1 := by decide +kernel
theorem d35_13 : DK cB35 13 (.istore 6) 2 := by decide +kernel
theorem d35_15 : DK cB35 15 (.iload 6) 2 := by decide +kernel
theorem d35_17 : DK cB35 17 (.sipush 255) 3 := by decide +kernel
theorem d35_20 : DK cB35 20 (.if_icmp .le 6) 3 := by decide +kernel
theorem d35_23 : DK cB35 23 (.iload 5) 2 := by decide +kernel
theorem d35_25 : DK cB35 25 (.ireturn) 1 := by decide +kernel
theorem pn_java_lang_StringUTF16 : plainName "java/lang/StringUTF16" = true := by first | (simp [plainName, overriddenIn]; done) | decide +kernel
def Q35_1 (Z : State) (r0 r1 : Addr) (c2 : ClassId) (x3 : Int32) (h0 : Heap) (n0 : Nat) (v : Option Value) (h : Heap) (L : List Loc) : Prop := v = some vI0 ∧ Fr n0 L ∧ h = h0
theorem rm35_1 (l : Launch) (Z : State) (a0 : Array Value) (hw : own_HW a0 Z) (ws : List Jvm.Cond) (r0 r1 : Addr) (c2 : ClassId) (x3 : Int32) (h0 : Heap) (n0 : Nat) (O0 : Old Z n0 h0) (f1 : Arv Z h0 r0 c2 .char (1 : Int32) [(.int x3)] vI0) (hc3 : (255 : Int32) < x3) :
    own_MF l mN32 jdk_52_method_21_code 7 (some .int) ws rR0_0_0_0 Z h0 #[(.ref r0), vI0, (.ref r1), vI0, vI1] (Q35_1 Z r0 r1 c2 x3 h0 n0) := by
  refine own_open (plainFor_of_name pn_java_lang_StringUTF16) (L0 := #[lR r0, lV vI0, lR r1, lV vI0, lV vI1, lU, lU]) (fun _ => by first | (simp [entryFrame, mkF, argsToLocals, Value.category]; done) | rfl) ?_
  intro p e s m below meth c s₁ hx hby hml hret hnn hZ hown X0 e0
  have N0 := Fr.nil n0
  obtain ⟨clq2, Arq2, qq2, Sq2, Nq2, Hq2, Gq2⟩ := id f1
  refine ⟨some vI0, _, _, _, _, nofun, X0, by decide, by decide, ?_, fun fs hr => ?_⟩
  · rw [e0]; exact ⟨rfl, N0, rfl⟩
  · show SG p e below s₁ (mkF m 0 #[lR r0, lV vI0, lR r1, lV vI0, lV vI1, lU, lU] []) _
    refine qc X0 hx hby d35_0 ?_
    refine XS.istore X0.here hx rfl (hb hby d35_1) rfl (l' := #[lR r0, lV vI0, lR r1, lV vI0, lV vI1, lV vI0, lU]) rfl ?_
    refine qi X0 hx hby d35_3 ?_
    refine qi X0 hx hby d35_5 ?_
    refine XS.icmpNo X0.here hx rfl (hb hby d35_7) rfl (tlt (by decide : (0 : Int32) < (1 : Int32))).2.1 ?_
    refine qaN X0 hx hby d35_10 ?_
    refine qiN X0 hx hby d35_11 ?_
    refine X0.caload hx (j := (0 : Int32)) (v := (.int x3)) (by rw [e0]; exact Arq2.1) (State.isArrayOf_alike hZ.alike Arq2.2.1) Arq2.2.2 (inb_of Sq2 ⟨(by decide : ¬ ((0 : Int32) < (0 : Int32))), (by decide : (0 : Int32) < (1 : Int32))⟩) (Has.at Hq2 (inb_of Sq2 ⟨(by decide : ¬ ((0 : Int32) < (0 : Int32))), (by decide : (0 : Int32) < (1 : Int32))⟩) rfl) (g := (mkF m 12 #[lR r0, lV vI0, lR r1, lV vI0, lV vI1, lV vI0, lU] [vI0, (.ref r0)])) rfl rfl (hb hby d35_12) _ ?_
    refine XS.istore X0.here hx rfl (hb hby d35_13) rfl (l' := #[lR r0, lV vI0, lR r1, lV vI0, lV vI1, lV vI0, lI x3]) rfl ?_
    refine qi X0 hx hby d35_15 ?_
    show SG p e below s₁ (mkF m 17 #[lR r0, lV vI0, lR r1, lV vI0, lV vI1, lV vI0, lI x3] [(.int x3)]) _
    refine XS.sipush X0.here hx rfl (hb hby d35_17) ?_
    refine XS.icmpNo X0.here hx rfl (hb hby d35_20) rfl (tlt hc3).2.2.2 ?_
    refine qi X0 hx hby d35_23 ?_
    exact retOut X0 hx (i := .ireturn) hret rfl (Or.inl ⟨rfl, Or.inl rfl, _, rfl⟩) (hb hby d35_25) hr
theorem pd___CI_BII_I : parseMethodDescriptor "([CI[BII)I" = some ⟨[(.array .char), .int, (.array .byte), .int, .int], some .int⟩ := by decide +kernel
theorem d34_12 : DK cB34 12 (.istore 4) 2 := by decide +kernel
theorem d34_14 : DK cB34 14 (.iload 4) 2 := by decide +kernel
theorem d34_16 : DK cB34 16 (.iload_n 2) 1 := by decide +kernel
theorem d34_17 : DK cB34 17 (.if_icmp .eq 40) 3 := by decide +kernel
theorem d34_20 : DK cB34 20 (.aload_n 0) 1 := by decide +kernel
theorem d34_21 : DK cB34 21 (.iload_n 1) 1 := by decide +kernel
theorem d34_22 : DK cB34 22 (.iload_n 2) 1 := by decide +kernel
theorem d34_23 : DK cB34 23 (.invokestatic 119) 3 := by decide +kernel
theorem d37_0 : DK cB37 0 (.iload_n 2) 1 := by decide +kernel
theorem d37_1 : DK cB37 1 (.invokestatic 107) 3 := by decide +kernel
theorem d38_0 : DK cB38 0 (.iload_n 0) 1 := by decide +kernel
theorem d38_1 : DK cB38 1 (.invokestatic 11) 3 := by decide +kernel
theorem d39_0 : DK cB39 0 (.iload_n 0) 1 := by decide +kernel
theorem d39_1 : DK cB39 1 (.ifCond .ge 11) 3 := by decide +kernel
theorem d39_12 : DK cB39 12 (.iload_n 0) 1 := by decide +kernel
theorem d39_13 : DK cB39 13 (.ldc 20) 2 := by decide +kernel
theorem d39_15 : DK cB39 15 (.if_icmp .lt 40) 3 := by decide +kernel
theorem d39_55 : DK cB39 55 (.iload_n 0) 1 := by decide +kernel
theorem d39_56 : DK cB39 56 (.iconst 1) 1 := by decide +kernel
theorem d39_57 : DK cB39 57 (.ishl) 1 := by decide +kernel
theorem d39_58 : DK cB39 58 (.ireturn) 1 := by decide +kernel
def Q39_1 (Z : State)  (h0 : Heap) (n0 : Nat) (v : Option Value) (h : Heap) (L : List Loc) : Prop := v = some vI2 ∧ Fr n0 L ∧ h = h0
theorem rm39_1 (l : Launch) (Z : State) (a0 : Array Value) (hw : own_HW a0 Z) (ws : List Jvm.Cond)  (h0 : Heap) (n0 : Nat) (O0 : Old Z n0 h0) :
    own_MF l mN33 jdk_52_method_3_code 1 (some .int) ws rR0_0_0_0 Z h0 #[vI1] (Q39_1 Z  h0 n0) := by
  refine own_open (plainFor_of_name pn_java_lang_StringUTF16) (L0 := #[lV vI1]) (fun _ => by first | (simp [entryFrame, mkF, argsToLocals, Value.category]; done) | rfl) ?_
  intro p e s m below meth c s₁ hx hby hml hret hnn hZ hown X0 e0
  have N0 := Fr.nil n0
  refine ⟨some vI2, _, _, _, _, nofun, X0, by decide, by decide, ?_, fun fs hr => ?_⟩
  · rw [e0]; exact ⟨rfl, N0, rfl⟩
  · show SG p e below s₁ (mkF m 0 #[lV vI1] []) _
    refine qiN X0 hx hby d39_0 ?_
    refine XS.ifYes X0.here hx rfl (pc0 := 1) (pc' := 12) rfl (hb hby d39_1) rfl ((if0 _ _).trans (flt (by decide : ¬ ((1 : Int32) < (0 : Int32)))).2.1) (by decide) (by decide) ?_
    refine qiN X0 hx hby d39_12 ?_
    refine X0.ldcInt hx hown (mvT hZ (ww hw 199 rfl)) (g := (mkF m 13 #[lV vI1] [vI1])) rfl (hb hby d39_13) _ ?_
    refine XS.icmpYes X0.here hx rfl (pc0 := 15) (pc' := 55) rfl (hb hby d39_15) rfl (tlt (by decide : (1 : Int32) < (1073741823 : Int32))).1 (by decide) (by decide) ?_
    refine qiN X0 hx hby d39_55 ?_
    refine qc X0 hx hby d39_56 ?_
    refine XS.ishl X0.here hx rfl (hb hby d39_57) rfl ?_
    exact retOut X0 hx (i := .ireturn) hret rfl (Or.inl ⟨rfl, Or.inl rfl, _, rfl⟩) (hb hby d39_58) hr
theorem pd__I_I : parseMethodDescriptor "(I)I" = some ⟨[.int], some .int⟩ := by decide +kernel
theorem d38_4 : DK cB38 4 (.newarray .byte) 2 := by decide +kernel
theorem d38_6 : DK cB38 6 (.areturn) 1 := by decide +kernel
def Q38_1 (Z : State)  (h0 : Heap) (n0 : Nat) (v : Option Value) (h : Heap) (L : List Loc) : Prop := ∃ (b2 : Addr) (k2 : ClassId), v = some (.ref b2) ∧ Fr n0 L ∧ Keep h0 h [] ∧ h0.size ≤ b2 ∧ Arv Z h b2 k2 .byte (2 : Int32) [vI0, vI0] vI0 ∧ Exa Z h b2 "[B"
theorem rm38_1 (l : Launch) (Z : State) (a0 : Array Value) (hw : own_HW a0 Z) (ws : List Jvm.Cond)  (h0 : Heap) (n0 : Nat) (O0 : Old Z n0 h0) :
    own_MF l mN34 jdk_52_method_2_code 1 (some (.array .byte)) ws rR1_1_2_12 Z h0 #[vI1] (Q38_1 Z  h0 n0) := by
  refine own_open (plainFor_of_name pn_java_lang_StringUTF16) (L0 := #[lV vI1]) (fun _ => by first | (simp [entryFrame, mkF, argsToLocals, Value.category]; done) | rfl) ?_
  intro p e s m below meth c s₁ hx hby hml hret hnn hZ hown X0 e0
  have N0 := Fr.nil n0; have w := @ww Z a0 hw
  obtain ⟨_, T1, Lc1, X1, hQ1, st1⟩ := own_cS X0 hx hZ hown e0 (rm39_1 l Z a0 hw [] h0 n0 O0) (w 196 rfl) (w 197 rfl) (w 182 rfl) (w 198 rfl) (by decide) (W := 0) (by decide) (by decide) (by decide) (by decide) (g := (mkF m 1 #[lV vI1] [vI1])) rfl (by rw [hml]; rfl) (argsL := [vI1]) (rest := []) (lenOf pd__I_I rfl) rfl (own_W rfl) (hb hby d38_1)
  obtain ⟨rfl, N1q, E1⟩ := hQ1
  have N1 := Fr.app N0 N1q
  obtain ⟨T2, h2, k2, X2, e2, E2, A2, B2, st2⟩ := newPE X1 hx hZ (w 16 rfl) E1 (g := (mkF m 4 #[lV vI1] [vI2])) rfl (hb hby d38_4) rfl (by decide) (cap := 2) (by decide) (by decide) (by decide) (by decide) (ad := "[B") rfl
  obtain ⟨b2, g2⟩ : ∃ z, z = h0.size := ⟨_, rfl⟩
  rw [← g2] at A2 B2 st2
  have V2 : Arv Z h2 b2 k2 .byte (2 : Int32) [vI0, vI0] vI0 := (Arv.new A2 (by decide)).pad (pad_rep [] vI0 2)
  have kp3 : Keep h0 h2 [] := (Keep.refl h0 []).ext E2
  refine ⟨some (.ref b2), _, _, _, _, nofun, X2, by decide, by decide, ?_, fun fs hr => ?_⟩
  · rw [e2]; exact ⟨b2, k2, rfl, N1, kp3, (Nat.le_of_eq g2.symm), V2, B2⟩
  · show SG p e below s₁ (mkF m 0 #[lV vI1] []) _
    refine qiN X0 hx hby d38_0 ?_
    refine st1 _ ?_
    refine st2 _ ?_
    exact retOut X2 hx (i := .areturn) hret rfl (Or.inr (Or.inr (Or.inr (Or.inr ⟨rfl, rfl, rfl⟩)))) (hb hby d38_6) hr
theorem pd__I__B : parseMethodDescriptor "(I)[B" = some ⟨[.int], some (.array .byte)⟩ := by decide +kernel
theorem d37_4 : DK cB37 4 (.astore_n 3) 1 := by decide +kernel
theorem d37_5 : DK cB37 5 (.iconst 0) 1 := by decide +kernel
theorem d37_6 : DK cB37 6 (.istore 4) 2 := by decide +kernel
theorem d37_8 : DK cB37 8 (.iload 4) 2 := by decide +kernel
theorem d37_10 : DK cB37 10 (.iload_n 2) 1 := by decide +kernel
theorem d37_11 : DK cB37 11 (.if_icmp .ge 21) 3 := by decide +kernel
theorem d37_14 : DK cB37 14 (.aload_n 3) 1 := by decide +kernel
theorem d37_15 : DK cB37 15 (.iload 4) 2 := by decide +kernel
theorem d37_17 : DK cB37 17 (.aload_n 0) 1 := by decide +kernel
theorem d37_18 : DK cB37 18 (.iload_n 1) 1 := by decide +kernel
theorem d37_19 : DK cB37 19 (.caload) 1 := by decide +kernel
theorem d37_20 : DK cB37 20 (.invokestatic 111) 3 := by decide +kernel
theorem d40_0 : DK cB40 0 (.getstatic 44) 3 := by decide +kernel
theorem d40_3 : DK cB40 3 (.ifCond .ne 25) 3 := by decide +kernel
theorem d40_28 : DK cB40 28 (.iload_n 1) 1 := by decide +kernel
theorem d40_29 : DK cB40 29 (.iconst 1) 1 := by decide +kernel
theorem d40_30 : DK cB40 30 (.ishl) 1 := by decide +kernel
theorem d40_31 : DK cB40 31 (.istore_n 1) 1 := by decide +kernel
theorem d40_32 : DK cB40 32 (.aload_n 0) 1 := by decide +kernel
theorem d40_33 : DK cB40 33 (.iload_n 1) 1 := by decide +kernel
theorem d40_34 : DK cB40 34 (.iinc 1 1) 3 := by decide +kernel
theorem d40_37 : DK cB40 37 (.iload_n 2) 1 := by decide +kernel
theorem d40_38 : DK cB40 38 (.getstatic 59) 3 := by decide +kernel
theorem d40_41 : DK cB40 41 (.ishr) 1 := by decide +kernel
theorem d40_42 : DK cB40 42 (.i2b) 1 := by decide +kernel
theorem d40_43 : DK cB40 43 (.bastore) 1 := by decide +kernel
theorem d40_44 : DK cB40 44 (.aload_n 0) 1 := by decide +kernel
theorem d40_45 : DK cB40 45 (.iload_n 1) 1 := by decide +kernel
theorem d40_46 : DK cB40 46 (.iload_n 2) 1 := by decide +kernel
theorem d40_47 : DK cB40 47 (.getstatic 63) 3 := by decide +kernel
theorem d40_50 : DK cB40 50 (.ishr) 1 := by decide +kernel
theorem d40_51 : DK cB40 51 (.i2b) 1 := by decide +kernel
theorem d40_52 : DK cB40 52 (.bastore) 1 := by decide +kernel
theorem d40_53 : DK cB40 53 (.return_) 1 := by decide +kernel
def Q40_1 (Z : State) (r0 : Addr) (x1 : Int32) (c2 : ClassId) (h0 : Heap) (n0 : Nat) (v : Option Value) (h : Heap) (L : List Loc) : Prop := v = none ∧ Fr n0 L ∧ Keep h0 h [r0] ∧ Arv Z h r0 c2 .byte (2 : Int32) [(.int (((x1 >>> ((0 : Int32) &&& 31)).toInt8.toInt32).toInt8.toInt32)), (.int (((x1 >>> ((8 : Int32) &&& 31)).toInt8.toInt32).toInt8.toInt32))] vI0
theorem rm40_1 (l : Launch) (Z : State) (a0 : Array Value) (hw : own_HW a0 Z) (ws : List Jvm.Cond) (r0 : Addr) (x1 : Int32) (c2 : ClassId) (h0 : Heap) (n0 : Nat) (O0 : Old Z n0 h0) (f1 : Sta Z Z.heap "java/lang/StringUTF16" "$assertionsDisabled" "Z" vI1) (f4 : Sta Z Z.heap "java/lang/StringUTF16" "HI_BYTE_SHIFT" "I" vI0) (f7 : Arv Z h0 r0 c2 .byte (2 : Int32) [vI0, vI0] vI0) (g9 : n0 ≤ r0) (f11 : Sta Z Z.heap "java/lang/StringUTF16" "LO_BYTE_SHIFT" "I" vI8) :
    own_MF l mN35 jdk_52_method_4_code 3 none ws rR0_0_0_0 Z h0 #[(.ref r0), vI0, (.int x1)] (Q40_1 Z r0 x1 c2 h0 n0) := by
  refine own_open (plainFor_of_name pn_java_lang_StringUTF16) (L0 := #[lR r0, lV vI0, lI x1]) (fun _ => by first | (simp [entryFrame, mkF, argsToLocals, Value.category]; done) | rfl) ?_
  intro p e s m below meth c s₁ hx hby hml hret hnn hZ hown X0 e0
  have N0 := Fr.nil n0
  have f2 := f1.ext O0.2
  obtain ⟨T3, X3, e3, st3⟩ := getS2 X0 hx hZ hown (host := "") (Or.inl (ww hw 203 rfl)) Via.refl e0 f2 (g := (mkF m 0 #[lR r0, lV vI0, lI x1] [])) rfl (hb hby d40_0)
  have f5 := f4.ext O0.2
  obtain ⟨T6, X6, e6, st6⟩ := getS2 X3 hx hZ hown (host := "") (Or.inl (ww hw 204 rfl)) Via.refl e3 f5 (g := (mkF m 38 #[lR r0, lV vI1, lI x1] [(.int x1), vI0, (.ref r0)])) rfl (hb hby d40_38)
  obtain ⟨clq8, Arq8, qq8, Sq8, Nq8, Hq8, Gq8⟩ := id f7
  obtain ⟨T10, h10, X10, e10, W10, st10⟩ := stB X6 hx hZ e6 Arq8 (j := (0 : Int32)) (inb_of Sq8 ⟨(by decide : ¬ ((0 : Int32) < (0 : Int32))), (by decide : (0 : Int32) < (2 : Int32))⟩) (g := (mkF m 43 #[lR r0, lV vI1, lI x1] [(.int ((x1 >>> ((0 : Int32) &&& 31)).toInt8.toInt32)), vI0, (.ref r0)])) rfl rfl (hb hby d40_43)
  have V10 : Arv Z h10 r0 c2 .byte (2 : Int32) [(.int (((x1 >>> ((0 : Int32) &&& 31)).toInt8.toInt32).toInt8.toInt32)), vI0] vI0 := Arv.set Arq8 qq8 Sq8 Nq8 Hq8 Gq8 (fits_nar_byte _) W10 0 rfl (Nat.le_of_ble_eq_true rfl)
  have N10 := Fr.snoc X10 N0 g9
  have o12 := Old.wr O0 W10 g9
  have f13 := f11.ext o12.2
  obtain ⟨T14, X14, e14, st14⟩ := getS2 X10 hx hZ hown (host := "") (Or.inl (ww hw 205 rfl)) Via.refl e10 f13 (g := (mkF m 47 #[lR r0, lV vI1, lI x1] [(.int x1), vI1, (.ref r0)])) rfl (hb hby d40_47)
  obtain ⟨clq15, Arq15, qq15, Sq15, Nq15, Hq15, Gq15⟩ := id V10
  obtain ⟨T16, h16, X16, e16, W16, st16⟩ := stB X14 hx hZ e14 Arq15 (j := (1 : Int32)) (inb_of Sq15 ⟨(by decide : ¬ ((1 : Int32) < (0 : Int32))), (by decide : (1 : Int32) < (2 : Int32))⟩) (g := (mkF m 52 #[lR r0, lV vI1, lI x1] [(.int ((x1 >>> ((8 : Int32) &&& 31)).toInt8.toInt32)), vI1, (.ref r0)])) rfl rfl (hb hby d40_52)
  have V16 : Arv Z h16 r0 c2 .byte (2 : Int32) [(.int (((x1 >>> ((0 : Int32) &&& 31)).toInt8.toInt32).toInt8.toInt32)), (.int (((x1 >>> ((8 : Int32) &&& 31)).toInt8.toInt32).toInt8.toInt32))] vI0 := Arv.set Arq15 qq15 Sq15 Nq15 Hq15 Gq15 (fits_nar_byte _) W16 1 rfl (Nat.le_of_ble_eq_true rfl)
  have N16 := Fr.snoc X16 N10 g9
  have kp17 : Keep h0 h10 [r0] := (Keep.refl h0 [r0]).wr W10 (Or.inl (List.mem_of_getElem? (i := 0) rfl))
  have kp18 : Keep h0 h16 [r0] := kp17.wr W16 (Or.inl (List.mem_of_getElem? (i := 0) rfl))
  refine ⟨none, _, _, _, _, (fun _ => rfl), X16, by decide, by decide, ?_, fun fs hr => ?_⟩
  · rw [e16]; exact ⟨rfl, N16, kp18, V16⟩
  · show SG p e below s₁ (mkF m 0 #[lR r0, lV vI0, lI x1] []) _
    refine st3 _ ?_
    refine XS.ifYes X3.here hx rfl (pc0 := 3) (pc' := 28) rfl (hb hby d40_3) rfl ((if0 _ _).trans (feq (by decide : ¬ ((1 : Int32) = (0 : Int32)))).2) (by decide) (by decide) ?_
    refine qiN X3 hx hby d40_28 ?_
    refine qc X3 hx hby d40_29 ?_
    refine XS.ishl X3.here hx rfl (hb hby d40_30) rfl ?_
    refine XS.istoreN X3.here hx rfl (hb hby d40_31) rfl (l' := #[lR r0, lV vI0, lI x1]) rfl ?_
    refine qaN X3 hx hby d40_32 ?_
    refine qiN X3 hx hby d40_33 ?_
    refine XS.iinc X3.here hx rfl (hb hby d40_34) rfl (l' := #[lR r0, lV vI1, lI x1]) rfl ?_
    refine qiN X3 hx hby d40_37 ?_
    show SG p e below T3 (mkF m 38 #[lR r0, lV vI1, lI x1] [(.int x1), vI0, (.ref r0)]) _
    refine st6 _ ?_
    refine XS.ishr X6.here hx rfl (hb hby d40_41) rfl ?_
    refine XS.i2b X6.here hx rfl (hb hby d40_42) rfl ?_
    refine st10 _ ?_
    refine qaN X10 hx hby d40_44 ?_
    refine qiN X10 hx hby d40_45 ?_
    refine qiN X10 hx hby d40_46 ?_
    refine st14 _ ?_
    refine XS.ishr X14.here hx rfl (hb hby d40_50) rfl ?_
    refine XS.i2b X14.here hx rfl (hb hby d40_51) rfl ?_
    show SG p e below T14 (mkF m 52 #[lR r0, lV vI1, lI x1] [(.int ((x1 >>> ((8 : Int32) &&& 31)).toInt8.toInt32)), vI1, (.ref r0)]) _
    refine st16 _ ?_
    exact X16.returnOut hx hret (hb hby d40_53) hr
theorem pd___BII_V : parseMethodDescriptor "([BII)V" = some ⟨[(.array .byte), .int, .int], none⟩ := by decide +kernel
theorem d37_23 : DK cB37 23 (.iinc 1 1) 3 := by decide +kernel
theorem d37_26 : DK cB37 26 (.iinc 4 1) 3 := by decide +kernel
theorem d37_29 : DK cB37 29 (.goto (-21)) 3 := by decide +kernel
theorem d37_32 : DK cB37 32 (.aload_n 3) 1 := by decide +kernel
theorem d37_33 : DK cB37 33 (.areturn) 1 := by decide +kernel
def Q37_1 (Z : State) (r0 : Addr) (c1 : ClassId) (x2 : Int32) (h0 : Heap) (n0 : Nat) (v : Option Value) (h : Heap) (L : List Loc) : Prop := ∃ (b1_0 : Addr) (k1_0 : ClassId), v = some (.ref b1_0) ∧ Fr n0 L ∧ Keep h0 h [] ∧ h0.size ≤ b1_0 ∧ Exa Z h b1_0 "[B" ∧ Arv Z h b1_0 k1_0 .byte (2 : Int32) [(.int (((x2 >>> ((0 : Int32) &&& 31)).toInt8.toInt32).toInt8.toInt32)), (.int (((x2 >>> ((8 : Int32) &&& 31)).toInt8.toInt32).toInt8.toInt32))] vI0
theorem rm37_1 (l : Launch) (Z : State) (a0 : Array Value) (hw : own_HW a0 Z) (ws : List Jvm.Cond) (r0 : Addr) (c1 : ClassId) (x2 : Int32) (h0 : Heap) (n0 : Nat) (O0 : Old Z n0 h0) (f5 : Arv Z h0 r0 c1 .char (1 : Int32) [(.int x2)] vI0) (f8 : Sta Z Z.heap "java/lang/StringUTF16" "$assertionsDisabled" "Z" vI1) (f9 : Sta Z Z.heap "java/lang/StringUTF16" "HI_BYTE_SHIFT" "I" vI0) (f12 : Sta Z Z.heap "java/lang/StringUTF16" "LO_BYTE_SHIFT" "I" vI8) :
    own_MF l mN36 jdk_52_method_14_code 5 (some (.array .byte)) ws rR2_1_2_24 Z h0 #[(.ref r0), vI0, vI1] (Q37_1 Z r0 c1 x2 h0 n0) := by
  refine own_open (plainFor_of_name pn_java_lang_StringUTF16) (L0 := #[lR r0, lV vI0, lV vI1, lU, lU]) (fun _ => by first | (simp [entryFrame, mkF, argsToLocals, Value.category]; done) | rfl) ?_
  intro p e s m below meth c s₁ hx hby hml hret hnn hZ hown X0 e0
  have N0 := Fr.nil n0; have w := @ww Z a0 hw
  obtain ⟨_, T1, Lc1, X1, hQ1, st1⟩ := own_cS X0 hx hZ hown e0 (rm38_1 l Z a0 hw [] h0 n0 O0) (w 193 rfl) (w 194 rfl) (w 182 rfl) (w 195 rfl) (by decide) (W := 0) (by decide) (by decide) (by decide) (by decide) (g := (mkF m 1 #[lR r0, lV vI0, lV vI1, lU, lU] [vI1])) rfl (by rw [hml]; rfl) (argsL := [vI1]) (rest := []) (lenOf pd__I__B rfl) rfl (own_W rfl) (hb hby d37_1)
  obtain ⟨b1_0, k1_0, rfl, N1q, K1, f2, f3, f4⟩ := hQ1
  have N1 := Fr.app N0 N1q
  have f6 := (f5.keep K1 nin0)
  obtain ⟨clq7, Arq7, qq7, Sq7, Nq7, Hq7, Gq7⟩ := id f6
  have zz10 : n0 ≤ h0.size := by rw [← O0.1]; exact O0.2.1
  have g11 := Nat.le_trans zz10 f2
  have o13 := Old.keep O0 K1 all0
  obtain ⟨_, T14, Lc14, X14, hQ14, st14⟩ := own_cS X1 hx hZ hown rfl (rm40_1 l Z a0 hw [] b1_0 x2 k1_0 T1.heap n0 o13 f8 f9 f3 g11 f12) (w 200 rfl) (w 201 rfl) (w 182 rfl) (w 202 rfl) (by decide) (W := 0) (by decide) (by decide) (by decide) (by decide) (g := (mkF m 20 #[lR r0, lV vI0, lV vI1, lR b1_0, lV vI0] [(.int x2), vI0, (.ref b1_0)])) rfl (by rw [hml]; rfl) (argsL := [(.ref b1_0), vI0, (.int x2)]) (rest := []) (lenOf pd___BII_V rfl) rfl (own_W rfl) (hb hby d37_20)
  obtain ⟨rfl, N14q, K14, f15⟩ := hQ14
  have N14 := Fr.app N1 N14q
  have f16 := (f4.keep K14)
  have kp17 : Keep h0 T1.heap [] := (Keep.refl h0 []).trans K1 all0
  have kp18 : Keep h0 T14.heap [] := kp17.trans K14 (allS (Or.inr f2) all0)
  refine ⟨some (.ref b1_0), _, _, _, _, nofun, X14, by decide, by decide, ?_, fun fs hr => ?_⟩
  · exact ⟨b1_0, k1_0, rfl, N14, kp18, f2, f16, f15⟩
  · show SG p e below s₁ (mkF m 0 #[lR r0, lV vI0, lV vI1, lU, lU] []) _
    refine qiN X0 hx hby d37_0 ?_
    refine st1 _ ?_
    refine XS.astoreN X1.here hx rfl (hb hby d37_4) rfl rfl (l' := #[lR r0, lV vI0, lV vI1, lR b1_0, lU]) rfl ?_
    refine qc X1 hx hby d37_5 ?_
    refine XS.istore X1.here hx rfl (hb hby d37_6) rfl (l' := #[lR r0, lV vI0, lV vI1, lR b1_0, lV vI0]) rfl ?_
    refine qi X1 hx hby d37_8 ?_
    refine qiN X1 hx hby d37_10 ?_
    refine XS.icmpNo X1.here hx rfl (hb hby d37_11) rfl (tlt (by decide : (0 : Int32) < (1 : Int32))).2.1 ?_
    refine qaN X1 hx hby d37_14 ?_
    refine qi X1 hx hby d37_15 ?_
    show SG p e below T1 (mkF m 17 #[lR r0, lV vI0, lV vI1, lR b1_0, lV vI0] [vI0, (.ref b1_0)]) _
    refine qaN X1 hx hby d37_17 ?_
    refine qiN X1 hx hby d37_18 ?_
    refine X1.caload hx (j := (0 : Int32)) (v := (.int x2)) (Arq7.1) (State.isArrayOf_alike hZ.alike Arq7.2.1) Arq7.2.2 (inb_of Sq7 ⟨(by decide : ¬ ((0 : Int32) < (0 : Int32))), (by decide : (0 : Int32) < (1 : Int32))⟩) (Has.at Hq7 (inb_of Sq7 ⟨(by decide : ¬ ((0 : Int32) < (0 : Int32))), (by decide : (0 : Int32) < (1 : Int32))⟩) rfl) (g := (mkF m 19 #[lR r0, lV vI0, lV vI1, lR b1_0, lV vI0] [vI0, (.ref r0), vI0, (.ref b1_0)])) rfl rfl (hb hby d37_19) _ ?_
    refine st14 _ ?_
    refine XS.iinc X14.here hx rfl (hb hby d37_23) rfl (l' := #[lR r0, lV vI1, lV vI1, lR b1_0, lV vI0]) rfl ?_
    refine XS.iinc X14.here hx rfl (hb hby d37_26) rfl (l' := #[lR r0, lV vI1, lV vI1, lR b1_0, lV vI1]) rfl ?_
    refine XS.goto X14.here hx rfl (pc0 := 29) (pc' := 8) rfl (hb hby d37_29) (by decide) (by decide) ?_
    refine qi X14 hx hby d37_8 ?_
    refine qiN X14 hx hby d37_10 ?_
    refine XS.icmpYes X14.here hx rfl (pc0 := 11) (pc' := 32) rfl (hb hby d37_11) rfl (flt (by decide : ¬ ((1 : Int32) < (1 : Int32)))).2.1 (by decide) (by decide) ?_
    show SG p e below T14 (mkF m 32 #[lR r0, lV vI1, lV vI1, lR b1_0, lV vI1] []) _
    refine qaN X14 hx hby d37_32 ?_
    exact retOut X14 hx (i := .areturn) hret rfl (Or.inr (Or.inr (Or.inr (Or.inr ⟨rfl, rfl, rfl⟩)))) (hb hby d37_33) hr
theorem pd___CII__B : parseMethodDescriptor "([CII)[B" = some ⟨[(.array .char), .int, .int], some (.array .byte)⟩ := by decide +kernel
theorem d34_26 : DK cB34 26 (.astore 5) 2 := by decide +kernel
theorem d34_28 : DK cB34 28 (.aload 5) 2 := by decide +kernel
theorem d34_30 : DK cB34 30 (.iload 4) 2 := by decide +kernel
theorem d34_32 : DK cB34 32 (.invokestatic 71) 3 := by decide +kernel
theorem d41_0 : DK cB41 0 (.getstatic 44) 3 := by decide +kernel
theorem d41_3 : DK cB41 3 (.ifCond .ne 25) 3 := by decide +kernel
theorem d41_28 : DK cB41 28 (.iload_n 1) 1 := by decide +kernel
theorem d41_29 : DK cB41 29 (.iconst 1) 1 := by decide +kernel
theorem d41_30 : DK cB41 30 (.ishl) 1 := by decide +kernel
theorem d41_31 : DK cB41 31 (.istore_n 1) 1 := by decide +kernel
theorem d41_32 : DK cB41 32 (.aload_n 0) 1 := by decide +kernel
theorem d41_33 : DK cB41 33 (.iload_n 1) 1 := by decide +kernel
theorem d41_34 : DK cB41 34 (.iinc 1 1) 3 := by decide +kernel
theorem d41_37 : DK cB41 37 (.baload) 1 := by decide +kernel
theorem d41_38 : DK cB41 38 (.sipush 255) 3 := by decide +kernel
theorem d41_41 : DK cB41 41 (.iand) 1 := by decide +kernel
theorem d41_42 : DK cB41 42 (.getstatic 59) 3 := by decide +kernel
theorem d41_45 : DK cB41 45 (.ishl) 1 := by decide +kernel
theorem d41_46 : DK cB41 46 (.aload_n 0) 1 := by decide +kernel
theorem d41_47 : DK cB41 47 (.iload_n 1) 1 := by decide +kernel
theorem d41_48 : DK cB41 48 (.baload) 1 := by decide +kernel
theorem d41_49 : DK cB41 49 (.sipush 255) 3 := by decide +kernel
theorem d41_52 : DK cB41 52 (.iand) 1 := by decide +kernel
theorem d41_53 : DK cB41 53 (.getstatic 63) 3 := by decide +kernel
theorem d41_56 : DK cB41 56 (.ishl) 1 := by decide +kernel
theorem d41_57 : DK cB41 57 (.ior) 1 := by decide +kernel
theorem d41_58 : DK cB41 58 (.i2c) 1 := by decide +kernel
theorem d41_59 : DK cB41 59 (.ireturn) 1 := by decide +kernel
def Q41_1 (Z : State) (r0 : Addr) (x1 x2 : Int32) (c3 : ClassId) (t4 : List Value) (x5 x6 : Int32) (h0 : Heap) (n0 : Nat) (v : Option Value) (h : Heap) (L : List Loc) : Prop := v = some (.int (nar .char ((((x5 &&& (255 : Int32)) <<< ((0 : Int32) &&& 31)) ||| ((x6 &&& (255 : Int32)) <<< ((8 : Int32) &&& 31))).toUInt32.toUInt16.toUInt32.toInt32))) ∧ Fr n0 L ∧ h = h0
theorem rm41_1 (l : Launch) (Z : State) (a0 : Array Value) (hw : own_HW a0 Z) (ws : List Jvm.Cond) (r0 : Addr) (x1 x2 : Int32) (c3 : ClassId) (t4 : List Value) (x5 x6 : Int32) (h0 : Heap) (n0 : Nat) (O0 : Old Z n0 h0) (f1 : Sta Z Z.heap "java/lang/StringUTF16" "$assertionsDisabled" "Z" vI1) (f4 : Arv Z h0 r0 c3 .byte x2 t4 vI0) (he6 : t4.getD ((x1 <<< ((1 : Int32) &&& 31))).toNatClampNeg vI0 = (.int x5)) (hc7 : ¬ ((x1 <<< ((1 : Int32) &&& 31)) < (0 : Int32))) (hc8 : (x1 <<< ((1 : Int32) &&& 31)) < x2) (f9 : Sta Z Z.heap "java/lang/StringUTF16" "HI_BYTE_SHIFT" "I" vI0) (he13 : t4.getD (((x1 <<< ((1 : Int32) &&& 31)) + (1 : Int32))).toNatClampNeg vI0 = (.int x6)) (hc14 : ¬ (((x1 <<< ((1 : Int32) &&& 31)) + (1 : Int32)) < (0 : Int32))) (hc15 : ((x1 <<< ((1 : Int32) &&& 31)) + (1 : Int32)) < x2) (f16 : Sta Z Z.heap "java/lang/StringUTF16" "LO_BYTE_SHIFT" "I" vI8) :
    own_MF l mN37 jdk_52_method_5_code 2 (some .char) ws rR0_0_0_0 Z h0 #[(.ref r0), (.int x1)] (Q41_1 Z r0 x1 x2 c3 t4 x5 x6 h0 n0) := by
  refine own_open (plainFor_of_name pn_java_lang_StringUTF16) (L0 := #[lR r0, lI x1]) (fun _ => by first | (simp [entryFrame, mkF, argsToLocals, Value.category]; done) | rfl) ?_
  intro p e s m below meth c s₁ hx hby hml hret hnn hZ hown X0 e0
  have N0 := Fr.nil n0
  have f2 := f1.ext O0.2
  obtain ⟨T3, X3, e3, st3⟩ := getS2 X0 hx hZ hown (host := "") (Or.inl (ww hw 203 rfl)) Via.refl e0 f2 (g := (mkF m 0 #[lR r0, lI x1] [])) rfl (hb hby d41_0)
  obtain ⟨clq5, Arq5, qq5, Sq5, Nq5, Hq5, Gq5⟩ := id f4
  have f10 := f9.ext O0.2
  obtain ⟨T11, X11, e11, st11⟩ := getS2 X3 hx hZ hown (host := "") (Or.inl (ww hw 204 rfl)) Via.refl e3 f10 (g := (mkF m 42 #[lR r0, .val (.int ((x1 <<< ((1 : Int32) &&& 31)) + (1 : Int32)))] [(.int (x5 &&& (255 : Int32)))])) rfl (hb hby d41_42)
  obtain ⟨clq12, Arq12, qq12, Sq12, Nq12, Hq12, Gq12⟩ := id f4
  have f17 := f16.ext O0.2
  obtain ⟨T18, X18, e18, st18⟩ := getS2 X11 hx hZ hown (host := "") (Or.inl (ww hw 205 rfl)) Via.refl e11 f17 (g := (mkF m 53 #[lR r0, .val (.int ((x1 <<< ((1 : Int32) &&& 31)) + (1 : Int32)))] [(.int (x6 &&& (255 : Int32))), (.int ((x5 &&& (255 : Int32)) <<< ((0 : Int32) &&& 31)))])) rfl (hb hby d41_53)
  refine ⟨some (.int (nar .char ((((x5 &&& (255 : Int32)) <<< ((0 : Int32) &&& 31)) ||| ((x6 &&& (255 : Int32)) <<< ((8 : Int32) &&& 31))).toUInt32.toUInt16.toUInt32.toInt32))), _, _, _, _, nofun, X18, by decide, by decide, ?_, fun fs hr => ?_⟩
  · rw [e18]; exact ⟨rfl, N0, rfl⟩
  · show SG p e below s₁ (mkF m 0 #[lR r0, lI x1] []) _
    refine st3 _ ?_
    refine XS.ifYes X3.here hx rfl (pc0 := 3) (pc' := 28) rfl (hb hby d41_3) rfl ((if0 _ _).trans (feq (by decide : ¬ ((1 : Int32) = (0 : Int32)))).2) (by decide) (by decide) ?_
    refine qiN X3 hx hby d41_28 ?_
    refine qc X3 hx hby d41_29 ?_
    refine XS.ishl X3.here hx rfl (hb hby d41_30) rfl ?_
    refine XS.istoreN X3.here hx rfl (hb hby d41_31) rfl (l' := #[lR r0, .val (.int (x1 <<< ((1 : Int32) &&& 31)))]) rfl ?_
    refine qaN X3 hx hby d41_32 ?_
    refine qiN X3 hx hby d41_33 ?_
    refine XS.iinc X3.here hx rfl (hb hby d41_34) rfl (l' := #[lR r0, .val (.int ((x1 <<< ((1 : Int32) &&& 31)) + (1 : Int32)))]) rfl ?_
    refine X3.baloadBytes hx (j := (x1 <<< ((1 : Int32) &&& 31))) (v := (.int x5)) (by rw [e3]; exact Arq5.1) (State.isArrayOf_alike hZ.alike Arq5.2.1) Arq5.2.2 (inb_of Sq5 ⟨hc7, hc8⟩) (Has.at Hq5 (inb_of Sq5 ⟨hc7, hc8⟩) he6) (g := (mkF m 37 #[lR r0, .val (.int ((x1 <<< ((1 : Int32) &&& 31)) + (1 : Int32)))] [(.int (x1 <<< ((1 : Int32) &&& 31))), (.ref r0)])) rfl rfl (hb hby d41_37) _ ?_
    show SG p e below T3 (mkF m 38 #[lR r0, .val (.int ((x1 <<< ((1 : Int32) &&& 31)) + (1 : Int32)))] [(.int x5)]) _
    refine XS.sipush X3.here hx rfl (hb hby d41_38) ?_
    refine XS.iand X3.here hx rfl (hb hby d41_41) rfl ?_
    refine st11 _ ?_
    refine XS.ishl X11.here hx rfl (hb hby d41_45) rfl ?_
    refine qaN X11 hx hby d41_46 ?_
    refine qiN X11 hx hby d41_47 ?_
    refine X11.baloadBytes hx (j := ((x1 <<< ((1 : Int32) &&& 31)) + (1 : Int32))) (v := (.int x6)) (by rw [e11]; exact Arq12.1) (State.isArrayOf_alike hZ.alike Arq12.2.1) Arq12.2.2 (inb_of Sq12 ⟨hc14, hc15⟩) (Has.at Hq12 (inb_of Sq12 ⟨hc14, hc15⟩) he13) (g := (mkF m 48 #[lR r0, .val (.int ((x1 <<< ((1 : Int32) &&& 31)) + (1 : Int32)))] [(.int ((x1 <<< ((1 : Int32) &&& 31)) + (1 : Int32))), (.ref r0), (.int ((x5 &&& (255 : Int32)) <<< ((0 : Int32) &&& 31)))])) rfl rfl (hb hby d41_48) _ ?_
    refine XS.sipush X11.here hx rfl (hb hby d41_49) ?_
    refine XS.iand X11.here hx rfl (hb hby d41_52) rfl ?_
    refine st18 _ ?_
    show SG p e below T18 (mkF m 56 #[lR r0, .val (.int ((x1 <<< ((1 : Int32) &&& 31)) + (1 : Int32)))] [vI8, (.int (x6 &&& (255 : Int32))), (.int ((x5 &&& (255 : Int32)) <<< ((0 : Int32) &&& 31)))]) _
    refine XS.ishl X18.here hx rfl (hb hby d41_56) rfl ?_
    refine XS.ior X18.here hx rfl (hb hby d41_57) rfl ?_
    refine XS.i2c X18.here hx rfl (hb hby d41_58) rfl ?_
    exact retN X18 hx (t := .char) hret (by simp) (hb hby d41_59) hr
theorem d34_35 : DK cB34 35 (.sipush 255) 3 := by decide +kernel
theorem d34_38 : DK cB34 38 (.if_icmp .gt 16) 3 := by decide +kernel
theorem d34_54 : DK cB34 54 (.aload 5) 2 := by decide +kernel
theorem d34_56 : DK cB34 56 (.areturn) 1 := by decide +kernel
def Q34_1 (Z : State) (r0 : Addr) (c1 : ClassId) (x2 : Int32) (h0 : Heap) (n0 : Nat) (v : Option Value) (h : Heap) (L : List Loc) : Prop := ∃ (b10_0 : Addr) (k10_0 : ClassId), v = some (.ref b10_0) ∧ Fr n0 L ∧ Keep h0 h [] ∧ h0.size ≤ b10_0 ∧ Exa Z h b10_0 "[B" ∧ Arv Z h b10_0 k10_0 .byte (2 : Int32) [(.int (((x2 >>> ((0 : Int32) &&& 31)).toInt8.toInt32).toInt8.toInt32)), (.int (((x2 >>> ((8 : Int32) &&& 31)).toInt8.toInt32).toInt8.toInt32))] vI0
theorem rm34_1 (l : Launch) (Z : State) (a0 : Array Value) (hw : own_HW a0 Z) (ws : List Jvm.Cond) (r0 : Addr) (c1 : ClassId) (x2 : Int32) (h0 : Heap) (n0 : Nat) (O0 : Old Z n0 h0) (f2 : Arv Z h0 r0 c1 .char (1 : Int32) [(.int x2)] vI0) (hc4 : (255 : Int32) < x2) (f7 : Sta Z Z.heap "java/lang/StringUTF16" "$assertionsDisabled" "Z" vI1) (f8 : Sta Z Z.heap "java/lang/StringUTF16" "HI_BYTE_SHIFT" "I" vI0) (f9 : Sta Z Z.heap "java/lang/StringUTF16" "LO_BYTE_SHIFT" "I" vI8) (hc16 : (255 : Int32) < (nar .char (((((((x2 >>> ((0 : Int32) &&& 31)).toInt8.toInt32).toInt8.toInt32) &&& (255 : Int32)) <<< ((0 : Int32) &&& 31)) ||| (((((x2 >>> ((8 : Int32) &&& 31)).toInt8.toInt32).toInt8.toInt32) &&& (255 : Int32)) <<< ((8 : Int32) &&& 31))).toUInt32.toUInt16.toUInt32.toInt32))) :
    own_MF l mN38 jdk_52_method_16_code 6 (some (.array .byte)) ws rR3_2_3_40 Z h0 #[(.ref r0), vI0, vI1] (Q34_1 Z r0 c1 x2 h0 n0) := by
  refine own_open (plainFor_of_name pn_java_lang_StringUTF16) (L0 := #[lR r0, lV vI0, lV vI1, lU, lU, lU]) (fun _ => by first | (simp [entryFrame, mkF, argsToLocals, Value.category]; done) | rfl) ?_
  intro p e s m below meth c s₁ hx hby hml hret hnn hZ hown X0 e0
  have N0 := Fr.nil n0; have w := @ww Z a0 hw
  obtain ⟨T1, h1, k1, X1, e1, E1, A1, B1, st1⟩ := newPE X0 hx hZ (w 16 rfl) e0 (g := (mkF m 1 #[lR r0, lV vI0, lV vI1, lU, lU, lU] [vI1])) rfl (hb hby d34_1) rfl (by decide) (cap := 1) (by decide) (by decide) (by decide) (by decide) (ad := "[B") rfl
  obtain ⟨b1, g1⟩ : ∃ z, z = h0.size := ⟨_, rfl⟩
  rw [← g1] at A1 B1 st1
  have V1 : Arv Z h1 b1 k1 .byte (1 : Int32) [vI0] vI0 := (Arv.new A1 (by decide)).pad (pad_rep [] vI0 1)
  have f3 := (f2.ext E1)
  have o5 := Old.ext O0 E1
  obtain ⟨_, T6, Lc6, X6, hQ6, st6⟩ := own_cS X1 hx hZ hown e1 (rm35_1 l Z a0 hw [] r0 b1 c1 x2 h1 n0 o5 f3 hc4) (w 184 rfl) (w 185 rfl) (w 182 rfl) (w 186 rfl) (by decide) (W := 0) (by decide) (by decide) (by decide) (by decide) (g := (mkF m 9 #[lR r0, lV vI0, lV vI1, lR b1, lU, lU] [vI1, vI0, (.ref b1), vI0, (.ref r0)])) rfl (by rw [hml]; rfl) (argsL := [(.ref r0), vI0, (.ref b1), vI0, vI1]) (rest := []) (lenOf pd___CI_BII_I rfl) rfl (own_W rfl) (hb hby d34_9)
  obtain ⟨rfl, N6q, E6⟩ := hQ6
  have N6 := Fr.app N0 N6q
  obtain ⟨_, T10, Lc10, X10, hQ10, st10⟩ := own_cS X6 hx hZ hown E6 (rm37_1 l Z a0 hw [] r0 c1 x2 h1 n0 o5 f3 f7 f8 f9) (w 190 rfl) (w 191 rfl) (w 182 rfl) (w 192 rfl) (by decide) (W := 0) (by decide) (by decide) (by decide) (by decide) (g := (mkF m 23 #[lR r0, lV vI0, lV vI1, lR b1, lV vI0, lU] [vI1, vI0, (.ref r0)])) rfl (by rw [hml]; rfl) (argsL := [(.ref r0), vI0, vI1]) (rest := []) (lenOf pd___CII__B rfl) rfl (own_W rfl) (hb hby d34_23)
  obtain ⟨b10_0, k10_0, rfl, N10q, K10, f11, f12, f13⟩ := hQ10
  have N10 := Fr.app N6 N10q
  have o14 := Old.keep o5 K10 all0
  obtain ⟨_, T15, Lc15, X15, hQ15, st15⟩ := own_cS X10 hx hZ hown rfl (rm41_1 l Z a0 hw [] b10_0 (0 : Int32) (2 : Int32) k10_0 ([(.int (((x2 >>> ((0 : Int32) &&& 31)).toInt8.toInt32).toInt8.toInt32)), (.int (((x2 >>> ((8 : Int32) &&& 31)).toInt8.toInt32).toInt8.toInt32))]) (((x2 >>> ((0 : Int32) &&& 31)).toInt8.toInt32).toInt8.toInt32) (((x2 >>> ((8 : Int32) &&& 31)).toInt8.toInt32).toInt8.toInt32) T10.heap n0 o14 f7 f13 (own_gd (n := 0) rfl rfl) (by decide) (by decide) f8 (own_gd (n := 1) rfl rfl) (by decide) (by decide) f9) (w 206 rfl) (w 207 rfl) (w 182 rfl) (w 208 rfl) (by decide) (W := 0) (by decide) (by decide) (by decide) (by decide) (g := (mkF m 32 #[lR r0, lV vI0, lV vI1, lR b1, lV vI0, lR b10_0] [vI0, (.ref b10_0)])) rfl (by rw [hml]; rfl) (argsL := [(.ref b10_0), vI0]) (rest := []) (lenOf pd___BI_C rfl) rfl (own_W rfl) (hb hby d34_32)
  obtain ⟨rfl, N15q, E15⟩ := hQ15
  have N15 := Fr.app N10 N15q
  have zs17 := E1.1
  have kp18 : Keep h0 h1 [] := (Keep.refl h0 []).ext E1
  have kp19 : Keep h0 T10.heap [] := kp18.trans K10 all0
  refine ⟨some (.ref b10_0), _, _, _, _, nofun, X15, by decide, by decide, ?_, fun fs hr => ?_⟩
  · rw [E15]; exact ⟨b10_0, k10_0, rfl, N15, kp19, (Nat.le_trans zs17 f11), f12, f13⟩
  · show SG p e below s₁ (mkF m 0 #[lR r0, lV vI0, lV vI1, lU, lU, lU] []) _
    refine qiN X0 hx hby d34_0 ?_
    refine st1 _ ?_
    refine XS.astoreN X1.here hx rfl (hb hby d34_3) rfl rfl (l' := #[lR r0, lV vI0, lV vI1, lR b1, lU, lU]) rfl ?_
    refine qaN X1 hx hby d34_4 ?_
    refine qiN X1 hx hby d34_5 ?_
    refine qaN X1 hx hby d34_6 ?_
    refine qc X1 hx hby d34_7 ?_
    refine qiN X1 hx hby d34_8 ?_
    refine st6 _ ?_
    refine XS.istore X6.here hx rfl (hb hby d34_12) rfl (l' := #[lR r0, lV vI0, lV vI1, lR b1, lV vI0, lU]) rfl ?_
    show SG p e below T6 (mkF m 14 #[lR r0, lV vI0, lV vI1, lR b1, lV vI0, lU] []) _
    refine qi X6 hx hby d34_14 ?_
    refine qiN X6 hx hby d34_16 ?_
    refine XS.icmpNo X6.here hx rfl (hb hby d34_17) rfl (feq (by decide : ¬ ((0 : Int32) = (1 : Int32)))).1 ?_
    refine qaN X6 hx hby d34_20 ?_
    refine qiN X6 hx hby d34_21 ?_
    refine qiN X6 hx hby d34_22 ?_
    refine st10 _ ?_
    refine XS.astore X10.here hx rfl (hb hby d34_26) rfl rfl (l' := #[lR r0, lV vI0, lV vI1, lR b1, lV vI0, lR b10_0]) rfl ?_
    refine qa X10 hx hby d34_28 ?_
    refine qi X10 hx hby d34_30 ?_
    show SG p e below T10 (mkF m 32 #[lR r0, lV vI0, lV vI1, lR b1, lV vI0, lR b10_0] [vI0, (.ref b10_0)]) _
    refine st15 _ ?_
    refine XS.sipush X15.here hx rfl (hb hby d34_35) ?_
    refine XS.icmpYes X15.here hx rfl (pc0 := 38) (pc' := 54) rfl (hb hby d34_38) rfl (tlt hc16).2.2.1 (by decide) (by decide) ?_
    refine qa X15 hx hby d34_54 ?_
    exact retOut X15 hx (i := .areturn) hret rfl (Or.inr (Or.inr (Or.inr (Or.inr ⟨rfl, rfl, rfl⟩)))) (hb hby d34_56) hr
theorem d2_39 : DK cB2 39 (.astore 5) 2 := by decide +kernel
theorem d2_41 : DK cB2 41 (.aload_n 0) 1 := by decide +kernel
theorem d2_42 : DK cB2 42 (.aload 5) 2 := by decide +kernel
theorem d2_44 : DK cB2 44 (.iload_n 3) 1 := by decide +kernel
theorem d2_45 : DK cB2 45 (.invokestatic 47) 3 := by decide +kernel
theorem d36_0 : DK cB36 0 (.iload_n 1) 1 := by decide +kernel
theorem d36_1 : DK cB36 1 (.aload_n 0) 1 := by decide +kernel
theorem d36_2 : DK cB36 2 (.arraylength) 1 := by decide +kernel
theorem d36_3 : DK cB36 3 (.isub) 1 := by decide +kernel
theorem d36_4 : DK cB36 4 (.bipush 31) 2 := by decide +kernel
theorem d36_6 : DK cB36 6 (.iushr) 1 := by decide +kernel
theorem d36_7 : DK cB36 7 (.i2b) 1 := by decide +kernel
theorem d36_8 : DK cB36 8 (.ireturn) 1 := by decide +kernel
def Q36_1 (Z : State) (r0 : Addr) (c1 : ClassId) (x2 x3 : Int32) (h0 : Heap) (n0 : Nat) (v : Option Value) (h : Heap) (L : List Loc) : Prop := v = some vI1 ∧ Fr n0 L ∧ h = h0
theorem rm36_1 (l : Launch) (Z : State) (a0 : Array Value) (hw : own_HW a0 Z) (ws : List Jvm.Cond) (r0 : Addr) (c1 : ClassId) (x2 x3 : Int32) (h0 : Heap) (n0 : Nat) (O0 : Old Z n0 h0) (f1 : Arv Z h0 r0 c1 .byte (2 : Int32) [(.int x2), (.int x3)] vI0) :
    own_MF l mN39 jdk_52_method_15_code 2 (some .byte) ws rR0_0_0_0 Z h0 #[(.ref r0), vI1] (Q36_1 Z r0 c1 x2 x3 h0 n0) := by
  refine own_open (plainFor_of_name pn_java_lang_StringUTF16) (L0 := #[lR r0, lV vI1]) (fun _ => by first | (simp [entryFrame, mkF, argsToLocals, Value.category]; done) | rfl) ?_
  intro p e s m below meth c s₁ hx hby hml hret hnn hZ hown X0 e0
  have N0 := Fr.nil n0
  obtain ⟨clq2, Arq2, qq2, Sq2, Nq2, Hq2, Gq2⟩ := id f1
  refine ⟨some vI1, _, _, _, _, nofun, X0, by decide, by decide, ?_, fun fs hr => ?_⟩
  · rw [e0]; exact ⟨rfl, N0, rfl⟩
  · show SG p e below s₁ (mkF m 0 #[lR r0, lV vI1] []) _
    refine qiN X0 hx hby d36_0 ?_
    refine qaN X0 hx hby d36_1 ?_
    refine X0.arraylength hx (by rw [e0]; exact Arq2.1) (State.isArrayOf_alike hZ.alike Arq2.2.1) (g := (mkF m 2 #[lR r0, lV vI1] [(.ref r0), vI1])) rfl rfl (hb hby d36_2) _ ?_
    rw [len_of Sq2 Nq2]
    refine XS.isub X0.here hx rfl (hb hby d36_3) rfl ?_
    refine qb X0 hx hby d36_4 ?_
    refine XS.iushr X0.here hx rfl (hb hby d36_6) rfl ?_
    refine XS.i2b X0.here hx rfl (hb hby d36_7) rfl ?_
    exact retN X0 hx (t := .byte) hret (by simp) (hb hby d36_8) hr
theorem pd___BI_B : parseMethodDescriptor "([BI)B" = some ⟨[(.array .byte), .int], some .byte⟩ := by decide +kernel
theorem d2_48 : DK cB2 48 (.putfield 15) 3 := by decide +kernel
theorem d2_51 : DK cB2 51 (.aload_n 0) 1 := by decide +kernel
theorem d2_52 : DK cB2 52 (.aload 5) 2 := by decide +kernel
theorem d2_54 : DK cB2 54 (.putfield 9) 3 := by decide +kernel
theorem d2_57 : DK cB2 57 (.return_) 1 := by decide +kernel
def Q2_2 (Z : State) (r0 r1 : Addr) (x2 : Int32) (c3 : ClassId) (x4 : Int32) (h0 : Heap) (n0 : Nat) (v : Option Value) (h : Heap) (L : List Loc) : Prop := ∃ (b12_0 : Addr) (k12_0 : ClassId), v = none ∧ Fr n0 L ∧ Keep h0 h [r0] ∧ Fld Z h r0 "java/lang/String" "coder" "B" vI1 ∧ Fld Z h r0 "java/lang/String" "value" "[B" (.ref b12_0) ∧ h0.size ≤ b12_0 ∧ Exa Z h b12_0 "[B" ∧ Arv Z h b12_0 k12_0 .byte (2 : Int32) [(.int (((x4 >>> ((0 : Int32) &&& 31)).toInt8.toInt32).toInt8.toInt32)), (.int (((x4 >>> ((8 : Int32) &&& 31)).toInt8.toInt32).toInt8.toInt32))] vI0
theorem rm2_2 (l : Launch) (Z : State) (a0 : Array Value) (hw : own_HW a0 Z) (ws : List Jvm.Cond) (r0 r1 : Addr) (x2 : Int32) (c3 : ClassId) (x4 : Int32) (h0 : Heap) (n0 : Nat) (O0 : Old Z n0 h0) (f2 : Sta Z Z.heap "java/lang/String" "COMPACT_STRINGS" "Z" (.int x2)) (hc5 : ¬ (x2 = (0 : Int32))) (f6 : Arv Z h0 r1 c3 .char (1 : Int32) [(.int x4)] vI0) (hc7 : (255 : Int32) < x4) (f8 : Sta Z Z.heap "java/lang/StringUTF16" "$assertionsDisabled" "Z" vI1) (f9 : Sta Z Z.heap "java/lang/StringUTF16" "HI_BYTE_SHIFT" "I" vI0) (f10 : Sta Z Z.heap "java/lang/StringUTF16" "LO_BYTE_SHIFT" "I" vI8) (hc11 : (255 : Int32) < (nar .char (((((((x4 >>> ((0 : Int32) &&& 31)).toInt8.toInt32).toInt8.toInt32) &&& (255 : Int32)) <<< ((0 : Int32) &&& 31)) ||| (((((x4 >>> ((8 : Int32) &&& 31)).toInt8.toInt32).toInt8.toInt32) &&& (255 : Int32)) <<< ((8 : Int32) &&& 31))).toUInt32.toUInt16.toUInt32.toInt32))) (f18 : Exa Z h0 r0 "java/lang/String") (f20 : Fld Z h0 r0 "java/lang/String" "coder" "B" vI0) (g22 : n0 ≤ r0) (f25 : Fld Z h0 r0 "java/lang/String" "value" "[B" .null) (l30 : r0 < h0.size) :
    own_MF l mN0 jdk_42_method_149_code 6 none ws rR4_2_3_57 Z h0 #[(.ref r0), (.ref r1), vI0, vI1, .null] (Q2_2 Z r0 r1 x2 c3 x4 h0 n0) := by
  refine own_open (plainFor_of_name pn_java_lang_String) (L0 := #[lR r0, lR r1, lV vI0, lV vI1, .val .null, lU]) (fun _ => by first | (simp [entryFrame, mkF, argsToLocals, Value.category]; done) | rfl) ?_
  intro p e s m below meth c s₁ hx hby hml hret hnn hZ hown X0 e0
  have N0 := Fr.nil n0; have w := @ww Z a0 hw
  have hnm := (name_of_methodNamed hnn.1 hnn.2).1
  obtain ⟨T1, X1, e1, st1⟩ := initO X0 hx hZ hown (w 12 rfl) (w 13 rfl) (w 14 rfl) e0 (g := (mkF m 1 #[lR r0, lR r1, lV vI0, lV vI1, .val .null, lU] [(.ref r0)])) rfl (by rw [hml]; rfl) rfl (hb hby d2_1) (by decide) (W := 0) (own_W rfl) (by decide)
  have f3 := f2.ext O0.2
  obtain ⟨T4, X4, e4, st4⟩ := getS2 X1 hx hZ hown (host := "") (Or.inl (w 68 rfl)) Via.refl e1 f3 (g := (mkF m 27 #[lR r0, lR r1, lV vI0, lV vI1, .val .null, lU] [])) rfl (hb hby d2_27)
  obtain ⟨_, T12, Lc12, X12, hQ12, st12⟩ := own_cS X4 hx hZ hown e4 (rm34_1 l Z a0 hw [] r1 c3 x4 h0 n0 O0 f6 hc7 f8 f9 f10 hc11) (w 180 rfl) (w 181 rfl) (w 182 rfl) (w 183 rfl) (by decide) (W := 0) (by decide) (by decide) (by decide) (by decide) (g := (mkF m 36 #[lR r0, lR r1, lV vI0, lV vI1, .val .null, lU] [vI1, vI0, (.ref r1)])) rfl (by rw [hml]; rfl) (argsL := [(.ref r1), vI0, vI1]) (rest := []) (lenOf pd___CII__B rfl) rfl (own_W rfl) (hb hby d2_36)
  obtain ⟨b12_0, k12_0, rfl, N12q, K12, f13, f14, f15⟩ := hQ12
  have N12 := Fr.app N0 N12q
  have o16 := Old.keep O0 K12 all0
  obtain ⟨_, T17, Lc17, X17, hQ17, st17⟩ := own_cS X12 hx hZ hown rfl (rm36_1 l Z a0 hw [] b12_0 k12_0 (((x4 >>> ((0 : Int32) &&& 31)).toInt8.toInt32).toInt8.toInt32) (((x4 >>> ((8 : Int32) &&& 31)).toInt8.toInt32).toInt8.toInt32) T12.heap n0 o16 f15) (w 187 rfl) (w 188 rfl) (w 182 rfl) (w 189 rfl) (by decide) (W := 1) (by decide) (by decide) (by decide) (by decide) (g := (mkF m 45 #[lR r0, lR r1, lV vI0, lV vI1, .val .null, lR b12_0] [vI1, (.ref b12_0), (.ref r0)])) rfl (by rw [hml]; rfl) (argsL := [(.ref b12_0), vI1]) (rest := [(.ref r0)]) (lenOf pd___BI_B rfl) rfl (own_W rfl) (hb hby d2_45)
  obtain ⟨rfl, N17q, E17⟩ := hQ17
  have N17 := Fr.app N12 N17q
  have f19 := (f18.keep K12)
  have f21 := (f20.keep K12 nin0)
  obtain ⟨T23, h23, X23, e23, W23, st23⟩ := putFN X17 hx hZ hown (w 22 rfl) Via.refl E17 f21 f19 (Or.inr ⟨(w 18 rfl), rfl, hnm⟩) (w 3 rfl) (ty := .byte) (v' := vI1) (by decide) rfl (by decide) (g := (mkF m 48 #[lR r0, lR r1, lV vI0, lV vI1, .val .null, lR b12_0] [vI1, (.ref r0)])) rfl rfl (hb hby d2_48)
  have Fw23 := f21.same W23
  have N23 := Fr.snoc X23 N17 g22
  have f24 := (f19.wr W23)
  have f26 := ((f25.keep K12 nin0).other W23 (Or.inr (slot_ne (Or.inr (w 17 rfl)) (Or.inr (w 18 rfl)) (by decide) (t := (.array .byte)) (t' := .byte) (by decide) (by decide))))
  obtain ⟨T27, h27, X27, e27, W27, st27⟩ := putF X23 hx hZ hown (host := "") (Or.inl (w 21 rfl)) Via.refl e23 f26 f24 (Or.inr ⟨(w 17 rfl), rfl, hnm⟩) (w 3 rfl) (ty := (.array .byte)) (by decide) rfl rfl (g := (mkF m 54 #[lR r0, lR r1, lV vI0, lV vI1, .val .null, lR b12_0] [(.ref b12_0), (.ref r0)])) rfl rfl (hb hby d2_54)
  have Fw27 := f26.same W27
  have N27 := Fr.snoc X27 N23 g22
  have f28 := (Fw23.other W27 (Or.inr (slot_ne (Or.inr (w 18 rfl)) (Or.inr (w 17 rfl)) (by decide) (t := .byte) (t' := (.array .byte)) (by decide) (by decide))))
  have f29 := ((f14.wr W23).wr W27)
  have n31 := Nat.ne_of_lt (Nat.lt_of_lt_of_le l30 f13)
  have f32 := ((f15.other W23 (Ne.symm n31)).other W27 (Ne.symm n31))
  have kp33 : Keep h0 T12.heap [r0] := (Keep.refl h0 [r0]).trans K12 all0
  have kp34 : Keep h0 h23 [r0] := kp33.wr W23 (Or.inl (List.mem_of_getElem? (i := 0) rfl))
  have kp35 : Keep h0 h27 [r0] := kp34.wr W27 (Or.inl (List.mem_of_getElem? (i := 0) rfl))
  refine ⟨none, _, _, _, _, (fun _ => rfl), X27, by decide, by decide, ?_, fun fs hr => ?_⟩
  · rw [e27]; exact ⟨b12_0, k12_0, rfl, N27, kp35, f28, Fw27, f13, f29, f32⟩
  · show SG p e below s₁ (mkF m 0 #[lR r0, lR r1, lV vI0, lV vI1, .val .null, lU] []) _
    refine qaN X0 hx hby d2_0 ?_
    refine st1 _ ?_
    refine qiN X1 hx hby d2_4 ?_
    refine XS.ifYes X1.here hx rfl (pc0 := 5) (pc' := 27) rfl (hb hby d2_5) rfl ((if0 _ _).trans (feq (by decide : ¬ ((1 : Int32) = (0 : Int32)))).2) (by decide) (by decide) ?_
    refine st4 _ ?_
    refine XS.ifNo X4.here hx rfl (hb hby d2_30) rfl ((if0 _ _).trans (feq hc5).1) ?_
    refine qaN X4 hx hby d2_33 ?_
    refine qiN X4 hx hby d2_34 ?_
    refine qiN X4 hx hby d2_35 ?_
    refine st12 _ ?_
    show SG p e below T12 (mkF m 39 #[lR r0, lR r1, lV vI0, lV vI1, .val .null, lU] [(.ref b12_0)]) _
    refine XS.astore X12.here hx rfl (hb hby d2_39) rfl rfl (l' := #[lR r0, lR r1, lV vI0, lV vI1, .val .null, lR b12_0]) rfl ?_
    refine qaN X12 hx hby d2_41 ?_
    refine qa X12 hx hby d2_42 ?_
    refine qiN X12 hx hby d2_44 ?_
    refine st17 _ ?_
    refine st23 _ ?_
    refine qaN X23 hx hby d2_51 ?_
    refine qa X23 hx hby d2_52 ?_
    refine st27 _ ?_
    exact X27.returnOut hx hret (hb hby d2_57) hr
def Q1_2 (Z : State) (r0 r1 : Addr) (c2 : ClassId) (x3 x4 : Int32) (h0 : Heap) (n0 : Nat) (v : Option Value) (h : Heap) (L : List Loc) : Prop := ∃ (b15_0 : Addr) (k15_0 : ClassId), v = none ∧ Fr n0 L ∧ Keep h0 h [r0] ∧ Fld Z h r0 "java/lang/String" "coder" "B" vI1 ∧ Fld Z h r0 "java/lang/String" "value" "[B" (.ref b15_0) ∧ h0.size ≤ b15_0 ∧ Exa Z h b15_0 "[B" ∧ Arv Z h b15_0 k15_0 .byte (2 : Int32) [(.int (((x3 >>> ((0 : Int32) &&& 31)).toInt8.toInt32).toInt8.toInt32)), (.int (((x3 >>> ((8 : Int32) &&& 31)).toInt8.toInt32).toInt8.toInt32))] vI0
theorem rm1_2 (l : Launch) (Z : State) (a0 : Array Value) (hw : own_HW a0 Z) (ws : List Jvm.Cond) (r0 r1 : Addr) (c2 : ClassId) (x3 x4 : Int32) (h0 : Heap) (n0 : Nat) (O0 : Old Z n0 h0) (f1 : Arv Z h0 r1 c2 .char (1 : Int32) [(.int x3)] vI0) (f3 : Sta Z Z.heap "java/lang/String" "COMPACT_STRINGS" "Z" (.int x4)) (hc4 : ¬ (x4 = (0 : Int32))) (hc5 : (255 : Int32) < x3) (f6 : Sta Z Z.heap "java/lang/StringUTF16" "$assertionsDisabled" "Z" vI1) (f7 : Sta Z Z.heap "java/lang/StringUTF16" "HI_BYTE_SHIFT" "I" vI0) (f8 : Sta Z Z.heap "java/lang/StringUTF16" "LO_BYTE_SHIFT" "I" vI8) (hc9 : (255 : Int32) < (nar .char (((((((x3 >>> ((0 : Int32) &&& 31)).toInt8.toInt32).toInt8.toInt32) &&& (255 : Int32)) <<< ((0 : Int32) &&& 31)) ||| (((((x3 >>> ((8 : Int32) &&& 31)).toInt8.toInt32).toInt8.toInt32) &&& (255 : Int32)) <<< ((8 : Int32) &&& 31))).toUInt32.toUInt16.toUInt32.toInt32))) (f10 : Exa Z h0 r0 "java/lang/String") (f11 : Fld Z h0 r0 "java/lang/String" "coder" "B" vI0) (g12 : n0 ≤ r0) (f13 : Fld Z h0 r0 "java/lang/String" "value" "[B" .null) (l14 : r0 < h0.size) :
    own_MF l mN1 jdk_42_method_3_code 2 none ws rR5_2_3_74 Z h0 #[(.ref r0), (.ref r1)] (Q1_2 Z r0 r1 c2 x3 x4 h0 n0) := by
  refine own_open (plainFor_of_name pn_java_lang_String) (L0 := #[lR r0, lR r1]) (fun _ => by first | (simp [entryFrame, mkF, argsToLocals, Value.category]; done) | rfl) ?_
  intro p e s m below meth c s₁ hx hby hml hret hnn hZ hown X0 e0
  have N0 := Fr.nil n0; have w := @ww Z a0 hw
  obtain ⟨clq2, Arq2, qq2, Sq2, Nq2, Hq2, Gq2⟩ := id f1
  obtain ⟨_, T15, Lc15, X15, hQ15, st15⟩ := own_fin (X0.specialBack hx (y := mN0) rfl hown (mvT hZ (w 8 rfl)) (mvT hZ (w 9 rfl)) (mvT hZ (w 11 rfl)) (by decide) (backOf (W := 0) (rm2_2 l Z a0 hw [] r0 r1 x4 c2 x3 h0 n0 O0 f3 hc4 f1 hc5 f6 f7 f8 hc9 f10 f11 g12 f13 l14) hZ (w 11 rfl) (w 4 rfl) (by decide) (by decide)) (g := (mkF m 6 #[lR r0, lR r1] [.null, vI1, vI0, (.ref r1), (.ref r0)])) rfl (by rw [hml]; rfl) (Steps.refl _) (a := r0) (argsL := [(.ref r1), vI0, vI1, .null]) (rest := []) (lenOf pd___CIILjava_lang_Void__V rfl) rfl (own_W rfl) (hb hby d1_6) (fun _ _ => ⟨rfl, e0, (by decide : 0 + 2 ≤ _), (by decide : 0 + 3 ≤ _)⟩))
  obtain ⟨b15_0, k15_0, rfl, N15q, K15, f16, f17, f18, f19, f20⟩ := hQ15
  have N15 := Fr.app N0 N15q
  have kp21 : Keep h0 T15.heap [r0] := (Keep.refl h0 [r0]).trans K15 (allS (Or.inl (List.mem_of_getElem? (i := 0) rfl)) all0)
  refine ⟨none, _, _, _, _, (fun _ => rfl), X15, by decide, by decide, ?_, fun fs hr => ?_⟩
  · exact ⟨b15_0, k15_0, rfl, N15, kp21, f16, f17, f18, f19, f20⟩
  · show SG p e below s₁ (mkF m 0 #[lR r0, lR r1] []) _
    refine qaN X0 hx hby d1_0 ?_
    refine qaN X0 hx hby d1_1 ?_
    refine qc X0 hx hby d1_2 ?_
    refine qaN X0 hx hby d1_3 ?_
    refine X0.arraylength hx (by rw [e0]; exact Arq2.1) (State.isArrayOf_alike hZ.alike Arq2.2.1) (g := (mkF m 4 #[lR r0, lR r1] [(.ref r1), vI0, (.ref r1), (.ref r0)])) rfl rfl (hb hby d1_4) _ ?_
    rw [len_of Sq2 Nq2]
    refine XS.aconstNull X0.here hx rfl (hb hby d1_5) ?_
    refine st15.trans ?_
    exact X15.returnOut hx hret (hb hby d1_9) hr
theorem d13_17 : DK cB13 17 (.aload_n 0) 1 := by decide +kernel
theorem d13_18 : DK cB13 18 (.invokevirtual 195) 3 := by decide +kernel
theorem d42_0 : DK cB42 0 (.aload_n 0) 1 := by decide +kernel
theorem d42_1 : DK cB42 1 (.invokevirtual 83) 3 := by decide +kernel
theorem d42_4 : DK cB42 4 (.ifCond .ne 4) 3 := by decide +kernel
theorem d42_8 : DK cB42 8 (.aload_n 0) 1 := by decide +kernel
theorem d42_9 : DK cB42 9 (.getfield 15) 3 := by decide +kernel
theorem d42_12 : DK cB42 12 (.arraylength) 1 := by decide +kernel
theorem d42_13 : DK cB42 13 (.invokestatic 26) 3 := by decide +kernel
def Q39_2 (Z : State)  (h0 : Heap) (n0 : Nat) (v : Option Value) (h : Heap) (L : List Loc) : Prop := v = some vI32 ∧ Fr n0 L ∧ h = h0
theorem rm39_2 (l : Launch) (Z : State) (a0 : Array Value) (hw : own_HW a0 Z) (ws : List Jvm.Cond)  (h0 : Heap) (n0 : Nat) (O0 : Old Z n0 h0) :
    own_MF l mN33 jdk_52_method_3_code 1 (some .int) ws rR0_0_0_0 Z h0 #[vI16] (Q39_2 Z  h0 n0) := by
  refine own_open (plainFor_of_name pn_java_lang_StringUTF16) (L0 := #[lV vI16]) (fun _ => by first | (simp [entryFrame, mkF, argsToLocals, Value.category]; done) | rfl) ?_
  intro p e s m below meth c s₁ hx hby hml hret hnn hZ hown X0 e0
  have N0 := Fr.nil n0
  refine ⟨some vI32, _, _, _, _, nofun, X0, by decide, by decide, ?_, fun fs hr => ?_⟩
  · rw [e0]; exact ⟨rfl, N0, rfl⟩
  · show SG p e below s₁ (mkF m 0 #[lV vI16] []) _
    refine qiN X0 hx hby d39_0 ?_
    refine XS.ifYes X0.here hx rfl (pc0 := 1) (pc' := 12) rfl (hb hby d39_1) rfl ((if0 _ _).trans (flt (by decide : ¬ ((16 : Int32) < (0 : Int32)))).2.1) (by decide) (by decide) ?_
    refine qiN X0 hx hby d39_12 ?_
    refine X0.ldcInt hx hown (mvT hZ (ww hw 199 rfl)) (g := (mkF m 13 #[lV vI16] [vI16])) rfl (hb hby d39_13) _ ?_
    refine XS.icmpYes X0.here hx rfl (pc0 := 15) (pc' := 55) rfl (hb hby d39_15) rfl (tlt (by decide : (16 : Int32) < (1073741823 : Int32))).1 (by decide) (by decide) ?_
    refine qiN X0 hx hby d39_55 ?_
    refine qc X0 hx hby d39_56 ?_
    refine XS.ishl X0.here hx rfl (hb hby d39_57) rfl ?_
    exact retOut X0 hx (i := .ireturn) hret rfl (Or.inl ⟨rfl, Or.inl rfl, _, rfl⟩) (hb hby d39_58) hr
def Q38_2 (Z : State)  (h0 : Heap) (n0 : Nat) (v : Option Value) (h : Heap) (L : List Loc) : Prop := ∃ (b2 : Addr) (k2 : ClassId), v = some (.ref b2) ∧ Fr n0 L ∧ Keep h0 h [] ∧ h0.size ≤ b2 ∧ Arv Z h b2 k2 .byte (32 : Int32) [vI0, vI0, vI0, vI0, vI0, vI0, vI0, vI0, vI0, vI0, vI0, vI0, vI0, vI0, vI0, vI0, vI0, vI0, vI0, vI0, vI0, vI0, vI0, vI0, vI0, vI0, vI0, vI0, vI0, vI0, vI0, vI0] vI0 ∧ Exa Z h b2 "[B"
theorem rm38_2 (l : Launch) (Z : State) (a0 : Array Value) (hw : own_HW a0 Z) (ws : List Jvm.Cond)  (h0 : Heap) (n0 : Nat) (O0 : Old Z n0 h0) :
    own_MF l mN34 jdk_52_method_2_code 1 (some (.array .byte)) ws rR1_1_32_12 Z h0 #[vI16] (Q38_2 Z  h0 n0) := by
  refine own_open (plainFor_of_name pn_java_lang_StringUTF16) (L0 := #[lV vI16]) (fun _ => by first | (simp [entryFrame, mkF, argsToLocals, Value.category]; done) | rfl) ?_
  intro p e s m below meth c s₁ hx hby hml hret hnn hZ hown X0 e0
  have N0 := Fr.nil n0; have w := @ww Z a0 hw
  obtain ⟨_, T1, Lc1, X1, hQ1, st1⟩ := own_cS X0 hx hZ hown e0 (rm39_2 l Z a0 hw [] h0 n0 O0) (w 196 rfl) (w 197 rfl) (w 182 rfl) (w 198 rfl) (by decide) (W := 0) (by decide) (by decide) (by decide) (by decide) (g := (mkF m 1 #[lV vI16] [vI16])) rfl (by rw [hml]; rfl) (argsL := [vI16]) (rest := []) (lenOf pd__I_I rfl) rfl (own_W rfl) (hb hby d38_1)
  obtain ⟨rfl, N1q, E1⟩ := hQ1
  have N1 := Fr.app N0 N1q
  obtain ⟨T2, h2, k2, X2, e2, E2, A2, B2, st2⟩ := newPE X1 hx hZ (w 16 rfl) E1 (g := (mkF m 4 #[lV vI16] [vI32])) rfl (hb hby d38_4) rfl (by decide) (cap := 32) (by decide) (by decide) (by decide) (by decide) (ad := "[B") rfl
  obtain ⟨b2, g2⟩ : ∃ z, z = h0.size := ⟨_, rfl⟩
  rw [← g2] at A2 B2 st2
  have V2 : Arv Z h2 b2 k2 .byte (32 : Int32) [vI0, vI0, vI0, vI0, vI0, vI0, vI0, vI0, vI0, vI0, vI0, vI0, vI0, vI0, vI0, vI0, vI0, vI0, vI0, vI0, vI0, vI0, vI0, vI0, vI0, vI0, vI0, vI0, vI0, vI0, vI0, vI0] vI0 := (Arv.new A2 (by decide)).pad (pad_rep [] vI0 32)
  have kp3 : Keep h0 h2 [] := (Keep.refl h0 []).ext E2
  refine ⟨some (.ref b2), _, _, _, _, nofun, X2, by decide, by decide, ?_, fun fs hr => ?_⟩
  · rw [e2]; exact ⟨b2, k2, rfl, N1, kp3, (Nat.le_of_eq g2.symm), V2, B2⟩
  · show SG p e below s₁ (mkF m 0 #[lV vI16] []) _
    refine qiN X0 hx hby d38_0 ?_
    refine st1 _ ?_
    refine st2 _ ?_
    exact retOut X2 hx (i := .areturn) hret rfl (Or.inr (Or.inr (Or.inr (Or.inr ⟨rfl, rfl, rfl⟩)))) (hb hby d38_6) hr
theorem d42_16 : DK cB42 16 (.astore_n 1) 1 := by decide +kernel
theorem d42_17 : DK cB42 17 (.aload_n 0) 1 := by decide +kernel
theorem d42_18 : DK cB42 18 (.getfield 15) 3 := by decide +kernel
theorem d42_21 : DK cB42 21 (.iconst 0) 1 := by decide +kernel
theorem d42_22 : DK cB42 22 (.aload_n 1) 1 := by decide +kernel
theorem d42_23 : DK cB42 23 (.iconst 0) 1 := by decide +kernel
theorem d42_24 : DK cB42 24 (.aload_n 0) 1 := by decide +kernel
theorem d42_25 : DK cB42 25 (.getfield 79) 3 := by decide +kernel
theorem d42_28 : DK cB42 28 (.invokestatic 125) 3 := by decide +kernel
theorem d43_0 : DK cB43 0 (.aload_n 0) 1 := by decide +kernel
theorem d43_1 : DK cB43 1 (.iload_n 1) 1 := by decide +kernel
theorem d43_2 : DK cB43 2 (.aload_n 2) 1 := by decide +kernel
theorem d43_3 : DK cB43 3 (.iload_n 3) 1 := by decide +kernel
theorem d43_4 : DK cB43 4 (.iload 4) 2 := by decide +kernel
theorem d43_6 : DK cB43 6 (.invokestatic 240) 3 := by decide +kernel
theorem d44_0 : DK cB44 0 (.iload_n 3) 1 := by decide +kernel
theorem d44_1 : DK cB44 1 (.iload 4) 2 := by decide +kernel
theorem d44_3 : DK cB44 3 (.aload_n 2) 1 := by decide +kernel
theorem d44_4 : DK cB44 4 (.invokestatic 173) 3 := by decide +kernel
theorem d45_0 : DK cB45 0 (.iload_n 0) 1 := by decide +kernel
theorem d45_1 : DK cB45 1 (.iload_n 1) 1 := by decide +kernel
theorem d45_2 : DK cB45 2 (.aload_n 2) 1 := by decide +kernel
theorem d45_3 : DK cB45 3 (.invokestatic 48) 3 := by decide +kernel
theorem d46_0 : DK cB46 0 (.aload_n 0) 1 := by decide +kernel
theorem d46_1 : DK cB46 1 (.arraylength) 1 := by decide +kernel
theorem d46_2 : DK cB46 2 (.iconst 1) 1 := by decide +kernel
theorem d46_3 : DK cB46 3 (.ishr) 1 := by decide +kernel
theorem d46_4 : DK cB46 4 (.ireturn) 1 := by decide +kernel
def Q46_1 (Z : State) (r0 : Addr) (x1 : Int32) (c2 : ClassId) (t3 : List Value) (h0 : Heap) (n0 : Nat) (v : Option Value) (h : Heap) (L : List Loc) : Prop := v = some (.int (x1 >>> ((1 : Int32) &&& 31))) ∧ Fr n0 L ∧ h = h0
theorem rm46_1 (l : Launch) (Z : State) (a0 : Array Value) (hw : own_HW a0 Z) (ws : List Jvm.Cond) (r0 : Addr) (x1 : Int32) (c2 : ClassId) (t3 : List Value) (h0 : Heap) (n0 : Nat) (O0 : Old Z n0 h0) (f1 : Arv Z h0 r0 c2 .byte x1 t3 vI0) :
    own_MF l mN40 jdk_52_method_6_code 1 (some .int) ws rR0_0_0_0 Z h0 #[(.ref r0)] (Q46_1 Z r0 x1 c2 t3 h0 n0) := by
  refine own_open (plainFor_of_name pn_java_lang_StringUTF16) (L0 := #[lR r0]) (fun _ => by first | (simp [entryFrame, mkF, argsToLocals, Value.category]; done) | rfl) ?_
  intro p e s m below meth c s₁ hx hby hml hret hnn hZ hown X0 e0
  have N0 := Fr.nil n0
  obtain ⟨clq2, Arq2, qq2, Sq2, Nq2, Hq2, Gq2⟩ := id f1
  refine ⟨some (.int (x1 >>> ((1 : Int32) &&& 31))), _, _, _, _, nofun, X0, by decide, by decide, ?_, fun fs hr => ?_⟩
  · rw [e0]; exact ⟨rfl, N0, rfl⟩
  · show SG p e below s₁ (mkF m 0 #[lR r0] []) _
    refine qaN X0 hx hby d46_0 ?_
    refine X0.arraylength hx (by rw [e0]; exact Arq2.1) (State.isArrayOf_alike hZ.alike Arq2.2.1) (g := (mkF m 1 #[lR r0] [(.ref r0)])) rfl rfl (hb hby d46_1) _ ?_
    rw [len_of Sq2 Nq2]
    refine qc X0 hx hby d46_2 ?_
    refine XS.ishr X0.here hx rfl (hb hby d46_3) rfl ?_
    exact retOut X0 hx (i := .ireturn) hret rfl (Or.inl ⟨rfl, Or.inl rfl, _, rfl⟩) (hb hby d46_4) hr
theorem pd___B_I : parseMethodDescriptor "([B)I" = some ⟨[(.array .byte)], some .int⟩ := by decide +kernel
theorem d45_6 : DK cB45 6 (.invokestatic 419) 3 := by decide +kernel
theorem d47_0 : DK cB47 0 (.iload_n 0) 1 := by decide +kernel
theorem d47_1 : DK cB47 1 (.iload_n 1) 1 := by decide +kernel
theorem d47_2 : DK cB47 2 (.iload_n 2) 1 := by decide +kernel
theorem d47_3 : DK cB47 3 (.getstatic 1053) 3 := by decide +kernel
theorem d47_6 : DK cB47 6 (.invokestatic 1065) 3 := by decide +kernel
theorem d48_0 : DK cB48 0 (.iload_n 2) 1 := by decide +kernel
theorem d48_1 : DK cB48 1 (.iload_n 0) 1 := by decide +kernel
theorem d48_2 : DK cB48 2 (.ior) 1 := by decide +kernel
theorem d48_3 : DK cB48 3 (.iload_n 1) 1 := by decide +kernel
theorem d48_4 : DK cB48 4 (.ior) 1 := by decide +kernel
theorem d48_5 : DK cB48 5 (.ifCond .lt 10) 3 := by decide +kernel
theorem d48_8 : DK cB48 8 (.iload_n 1) 1 := by decide +kernel
theorem d48_9 : DK cB48 9 (.iload_n 2) 1 := by decide +kernel
theorem d48_10 : DK cB48 10 (.iload_n 0) 1 := by decide +kernel
theorem d48_11 : DK cB48 11 (.isub) 1 := by decide +kernel
theorem d48_12 : DK cB48 12 (.if_icmp .le 11) 3 := by decide +kernel
theorem d48_23 : DK cB48 23 (.iload_n 0) 1 := by decide +kernel
theorem d48_24 : DK cB48 24 (.ireturn) 1 := by decide +kernel
def Q48_1 (Z : State) (u0 : Value) (h0 : Heap) (n0 : Nat) (v : Option Value) (h : Heap) (L : List Loc) : Prop := v = some vI0 ∧ Fr n0 L ∧ h = h0
theorem rm48_1 (l : Launch) (Z : State) (a0 : Array Value) (hw : own_HW a0 Z) (ws : List Jvm.Cond) (u0 : Value) (h0 : Heap) (n0 : Nat) (O0 : Old Z n0 h0) (hc1 : u0.isRef = true) :
    MetFree l mN41 (head1 (Jvm.Cond.code mN41 jdk_41_method_13_code 4 (some .int) :: ws) rR0_0_0_0) (fun a U => a = #[vI0, vI1, vI16, u0] ∧ Z.Warmed39 U.vm ∧ U.heap = h0) (fun _ _ _ _ _ => True) (fun _ U o U' => ∃ v L, o = .returned v ∧ Q48_1 Z u0 h0 n0 v U'.heap L ∧ FrameEnd U o U' L rR0_0_0_0.cells rR0_0_0_0.slots) := by
  refine MetFree.of_bodySF (plainFor_of_name pn_jdk_internal_util_Preconditions) hisR ?_
  intro p e s m args below meth c s₁ Bd hml0 hP hK
  obtain ⟨rfl, hZ, hh⟩ := hP
  have hx := Bd.exec
  have hby := Bd.bytes
  have hml : c.maxLocals = 4 := hml0
  have hown : s.vm.findClass cs7 = some m.cls := findClass_of_methodNamed Bd.named
  have X0 : Stand p l e rR0_0_0_0 s m #[vI0, vI1, vI16, u0] below meth c s₁ [] 0 0 := Stand.of_body Bd
  have e0 : s₁.heap = h0 := by rw [← hh, Bd.state]; rfl
  have N0 := Fr.nil n0
  have pre0 : ∀ t, Steps p.tables e below (s₁.setTop (mkF m 0 #[lV vI0, lV vI1, lV vI16, .val u0] [])) t → Steps p.tables e below (s₁.setTop (entryFrame m #[vI0, vI1, vI16, u0] 4)) t := fun t k => castTop (by rcases own_catR hc1 with q | ⟨_, q⟩ <;> rw [q] <;> first | (simp [entryFrame, mkF, argsToLocals, Value.category]; done) | rfl) k
  obtain ⟨fs, hr, hrun, hended, hW, hsame⟩ := X0.leave (v := some vI0) (fun h => by rw [Bd.returns] at h; cases h)
  refine ⟨_, _, pre0 _ ?_, hrun, hended, _, _, rfl, ?_, ⟨_, rfl⟩, hW, hsame.mono (by decide) (by decide)⟩
  · show SG p e below s₁ (mkF m 0 #[lV vI0, lV vI1, lV vI16, .val u0] []) _
    refine qiN X0 hx hby d48_0 ?_
    refine qiN X0 hx hby d48_1 ?_
    refine XS.ior X0.here hx rfl (hb hby d48_2) rfl ?_
    refine qiN X0 hx hby d48_3 ?_
    refine XS.ior X0.here hx rfl (hb hby d48_4) rfl ?_
    refine XS.ifNo X0.here hx rfl (hb hby d48_5) rfl ((if0 _ _).trans (flt (by decide : ¬ ((17 : Int32) < (0 : Int32)))).1) ?_
    refine qiN X0 hx hby d48_8 ?_
    refine qiN X0 hx hby d48_9 ?_
    refine qiN X0 hx hby d48_10 ?_
    refine XS.isub X0.here hx rfl (hb hby d48_11) rfl ?_
    show SG p e below s₁ (mkF m 12 #[lV vI0, lV vI1, lV vI16, .val u0] [vI16, vI1]) _
    refine XS.icmpYes X0.here hx rfl (pc0 := 12) (pc' := 23) rfl (hb hby d48_12) rfl (flt (by decide : ¬ ((16 : Int32) < (1 : Int32)))).2.2.2 (by decide) (by decide) ?_
    refine qiN X0 hx hby d48_23 ?_
    exact retOut X0 hx (i := .ireturn) Bd.returns rfl (Or.inl ⟨rfl, Or.inl rfl, _, rfl⟩) (hb hby d48_24) hr
  · show Q48_1 Z u0 h0 n0 _ s₁.heap _
    rw [e0]
    exact ⟨rfl, N0, rfl⟩
theorem pd__IIILjava_util_function_BiFunction__I : parseMethodDescriptor "(IIILjava/util/function/BiFunction;)I" = some ⟨[.int, .int, .int, (.object "java/util/function/BiFunction")], some .int⟩ := by decide +kernel
theorem d47_9 : DK cB47 9 (.ireturn) 1 := by decide +kernel
def Q47_1 (Z : State) (u0 : Value) (h0 : Heap) (n0 : Nat) (v : Option Value) (h : Heap) (L : List Loc) : Prop := v = some vI0 ∧ Fr n0 L ∧ h = h0
theorem rm47_1 (l : Launch) (Z : State) (a0 : Array Value) (hw : own_HW a0 Z) (ws : List Jvm.Cond) (u0 : Value) (h0 : Heap) (n0 : Nat) (O0 : Old Z n0 h0) (f1 : Sta Z Z.heap cs7 "SIOOBE_FORMATTER" cs8 u0) (hc4 : u0.isRef = true) :
    own_MF l mN42 jdk_42_method_157_code 3 (some .int) ws rR1_0_0_15 Z h0 #[vI0, vI1, vI16] (Q47_1 Z u0 h0 n0) := by
  refine own_open (plainFor_of_name pn_java_lang_String) (L0 := #[lV vI0, lV vI1, lV vI16]) (fun _ => by first | (simp [entryFrame, mkF, argsToLocals, Value.category]; done) | rfl) ?_
  intro p e s m below meth c s₁ hx hby hml hret hnn hZ hown X0 e0
  have N0 := Fr.nil n0; have w := @ww Z a0 hw
  have f2 := f1.ext O0.2
  obtain ⟨T3, X3, e3, st3⟩ := getS2 X0 hx hZ hown (host := "") (Or.inl (w 175 rfl)) Via.refl e0 f2 (g := (mkF m 3 #[lV vI0, lV vI1, lV vI16] [vI16, vI1, vI0])) rfl (hb hby d47_3)
  obtain ⟨_, T5, Lc5, X5, hQ5, st5⟩ := own_cS X3 hx hZ hown e3 (rm48_1 l Z a0 hw [] u0 h0 n0 O0 hc4) (w 231 rfl) (w 232 rfl) (w 176 rfl) (w 233 rfl) (by decide) (W := 0) (by decide) (by decide) (by decide) (by decide) (g := (mkF m 6 #[lV vI0, lV vI1, lV vI16] [u0, vI16, vI1, vI0])) rfl (by rw [hml]; rfl) (argsL := [vI0, vI1, vI16, u0]) (rest := []) (lenOf pd__IIILjava_util_function_BiFunction__I rfl) rfl (own_W rfl) (hb hby d47_6)
  obtain ⟨rfl, N5q, E5⟩ := hQ5
  have N5 := Fr.app N0 N5q
  refine ⟨some vI0, _, _, _, _, nofun, X5, by decide, by decide, ?_, fun fs hr => ?_⟩
  · rw [E5]; exact ⟨rfl, N5, rfl⟩
  · show SG p e below s₁ (mkF m 0 #[lV vI0, lV vI1, lV vI16] []) _
    refine qiN X0 hx hby d47_0 ?_
    refine qiN X0 hx hby d47_1 ?_
    refine qiN X0 hx hby d47_2 ?_
    refine st3 _ ?_
    refine st5 _ ?_
    exact retOut X5 hx (i := .ireturn) hret rfl (Or.inl ⟨rfl, Or.inl rfl, _, rfl⟩) (hb hby d47_9) hr
theorem pd__III_I : parseMethodDescriptor "(III)I" = some ⟨[.int, .int, .int], some .int⟩ := by decide +kernel
theorem d45_9 : DK cB45 9 (.pop) 1 := by decide +kernel
theorem d45_10 : DK cB45 10 (.return_) 1 := by decide +kernel
def Q45_1 (Z : State) (r0 : Addr) (c1 : ClassId) (u2 : Value) (h0 : Heap) (n0 : Nat) (v : Option Value) (h : Heap) (L : List Loc) : Prop := v = none ∧ Fr n0 L ∧ h = h0
theorem rm45_1 (l : Launch) (Z : State) (a0 : Array Value) (hw : own_HW a0 Z) (ws : List Jvm.Cond) (r0 : Addr) (c1 : ClassId) (u2 : Value) (h0 : Heap) (n0 : Nat) (O0 : Old Z n0 h0) (f1 : Arv Z h0 r0 c1 .byte (32 : Int32) [vI0, vI0, vI0, vI0, vI0, vI0, vI0, vI0, vI0, vI0, vI0, vI0, vI0, vI0, vI0, vI0, vI0, vI0, vI0, vI0, vI0, vI0, vI0, vI0, vI0, vI0, vI0, vI0, vI0, vI0, vI0, vI0] vI0) (f3 : Sta Z Z.heap cs7 "SIOOBE_FORMATTER" cs8 u2) (hc4 : u2.isRef = true) :
    own_MF l mN43 jdk_52_method_94_code 3 none ws rR2_0_0_29 Z h0 #[vI0, vI1, (.ref r0)] (Q45_1 Z r0 c1 u2 h0 n0) := by
  refine own_open (plainFor_of_name pn_java_lang_StringUTF16) (L0 := #[lV vI0, lV vI1, lR r0]) (fun _ => by first | (simp [entryFrame, mkF, argsToLocals, Value.category]; done) | rfl) ?_
  intro p e s m below meth c s₁ hx hby hml hret hnn hZ hown X0 e0
  have N0 := Fr.nil n0; have w := @ww Z a0 hw
  obtain ⟨_, T2, Lc2, X2, hQ2, st2⟩ := own_cS X0 hx hZ hown e0 (rm46_1 l Z a0 hw [] r0 (32 : Int32) c1 ([vI0, vI0, vI0, vI0, vI0, vI0, vI0, vI0, vI0, vI0, vI0, vI0, vI0, vI0, vI0, vI0, vI0, vI0, vI0, vI0, vI0, vI0, vI0, vI0, vI0, vI0, vI0, vI0, vI0, vI0, vI0, vI0]) h0 n0 O0 f1) (w 225 rfl) (w 226 rfl) (w 182 rfl) (w 227 rfl) (by decide) (W := 2) (by decide) (by decide) (by decide) (by decide) (g := (mkF m 3 #[lV vI0, lV vI1, lR r0] [(.ref r0), vI1, vI0])) rfl (by rw [hml]; rfl) (argsL := [(.ref r0)]) (rest := [vI1, vI0]) (lenOf pd___B_I rfl) rfl (own_W rfl) (hb hby d45_3)
  obtain ⟨rfl, N2q, E2⟩ := hQ2
  have N2 := Fr.app N0 N2q
  obtain ⟨_, T5, Lc5, X5, hQ5, st5⟩ := own_cS X2 hx hZ hown E2 (rm47_1 l Z a0 hw [] u2 h0 n0 O0 f3 hc4) (w 228 rfl) (w 229 rfl) (w 4 rfl) (w 230 rfl) (by decide) (W := 0) (by decide) (by decide) (by decide) (by decide) (g := (mkF m 6 #[lV vI0, lV vI1, lR r0] [vI16, vI1, vI0])) rfl (by rw [hml]; rfl) (argsL := [vI0, vI1, vI16]) (rest := []) (lenOf pd__III_I rfl) rfl (own_W rfl) (hb hby d45_6)
  obtain ⟨rfl, N5q, E5⟩ := hQ5
  have N5 := Fr.app N2 N5q
  refine ⟨none, _, _, _, _, (fun _ => rfl), X5, by decide, by decide, ?_, fun fs hr => ?_⟩
  · rw [E5]; exact ⟨rfl, N5, rfl⟩
  · show SG p e below s₁ (mkF m 0 #[lV vI0, lV vI1, lR r0] []) _
    refine qiN X0 hx hby d45_0 ?_
    refine qiN X0 hx hby d45_1 ?_
    refine qaN X0 hx hby d45_2 ?_
    refine st2 _ ?_
    refine st5 _ ?_
    refine XS.pop X5.here hx rfl (hb hby d45_9) rfl rfl ?_
    exact X5.returnOut hx hret (hb hby d45_10) hr
theorem pd__II_B_V : parseMethodDescriptor "(II[B)V" = some ⟨[.int, .int, (.array .byte)], none⟩ := by decide +kernel
theorem d44_7 : DK cB44 7 (.iconst 0) 1 := by decide +kernel
theorem d44_8 : DK cB44 8 (.istore 5) 2 := by decide +kernel
theorem d44_10 : DK cB44 10 (.iload 5) 2 := by decide +kernel
theorem d44_12 : DK cB44 12 (.iload 4) 2 := by decide +kernel
theorem d44_14 : DK cB44 14 (.if_icmp .ge 27) 3 := by decide +kernel
theorem d44_17 : DK cB44 17 (.aload_n 2) 1 := by decide +kernel
theorem d44_18 : DK cB44 18 (.iload_n 3) 1 := by decide +kernel
theorem d44_19 : DK cB44 19 (.iinc 3 1) 3 := by decide +kernel
theorem d44_22 : DK cB44 22 (.aload_n 0) 1 := by decide +kernel
theorem d44_23 : DK cB44 23 (.iload_n 1) 1 := by decide +kernel
theorem d44_24 : DK cB44 24 (.iinc 1 1) 3 := by decide +kernel
theorem d44_27 : DK cB44 27 (.baload) 1 := by decide +kernel
theorem d44_28 : DK cB44 28 (.sipush 255) 3 := by decide +kernel
theorem d44_31 : DK cB44 31 (.iand) 1 := by decide +kernel
theorem d44_32 : DK cB44 32 (.invokestatic 111) 3 := by decide +kernel
def Q40_2 (Z : State) (r0 : Addr) (c1 : ClassId) (h0 : Heap) (n0 : Nat) (v : Option Value) (h : Heap) (L : List Loc) : Prop := v = none ∧ Fr n0 L ∧ Keep h0 h [r0] ∧ Arv Z h r0 c1 .byte (32 : Int32) [vI58, vI0, vI0, vI0, vI0, vI0, vI0, vI0, vI0, vI0, vI0, vI0, vI0, vI0, vI0, vI0, vI0, vI0, vI0, vI0, vI0, vI0, vI0, vI0, vI0, vI0, vI0, vI0, vI0, vI0, vI0, vI0] vI0
theorem rm40_2 (l : Launch) (Z : State) (a0 : Array Value) (hw : own_HW a0 Z) (ws : List Jvm.Cond) (r0 : Addr) (c1 : ClassId) (h0 : Heap) (n0 : Nat) (O0 : Old Z n0 h0) (f1 : Sta Z Z.heap "java/lang/StringUTF16" "$assertionsDisabled" "Z" vI1) (f4 : Sta Z Z.heap "java/lang/StringUTF16" "HI_BYTE_SHIFT" "I" vI0) (f7 : Arv Z h0 r0 c1 .byte (32 : Int32) [vI0, vI0, vI0, vI0, vI0, vI0, vI0, vI0, vI0, vI0, vI0, vI0, vI0, vI0, vI0, vI0, vI0, vI0, vI0, vI0, vI0, vI0, vI0, vI0, vI0, vI0, vI0, vI0, vI0, vI0, vI0, vI0] vI0) (g9 : n0 ≤ r0) (f11 : Sta Z Z.heap "java/lang/StringUTF16" "LO_BYTE_SHIFT" "I" vI8) :
    own_MF l mN35 jdk_52_method_4_code 3 none ws rR0_0_0_0 Z h0 #[(.ref r0), vI0, vI58] (Q40_2 Z r0 c1 h0 n0) := by
  refine own_open (plainFor_of_name pn_java_lang_StringUTF16) (L0 := #[lR r0, lV vI0, lV vI58]) (fun _ => by first | (simp [entryFrame, mkF, argsToLocals, Value.category]; done) | rfl) ?_
  intro p e s m below meth c s₁ hx hby hml hret hnn hZ hown X0 e0
  have N0 := Fr.nil n0
  have f2 := f1.ext O0.2
  obtain ⟨T3, X3, e3, st3⟩ := getS2 X0 hx hZ hown (host := "") (Or.inl (ww hw 203 rfl)) Via.refl e0 f2 (g := (mkF m 0 #[lR r0, lV vI0, lV vI58] [])) rfl (hb hby d40_0)
  have f5 := f4.ext O0.2
  obtain ⟨T6, X6, e6, st6⟩ := getS2 X3 hx hZ hown (host := "") (Or.inl (ww hw 204 rfl)) Via.refl e3 f5 (g := (mkF m 38 #[lR r0, lV vI1, lV vI58] [vI58, vI0, (.ref r0)])) rfl (hb hby d40_38)
  obtain ⟨clq8, Arq8, qq8, Sq8, Nq8, Hq8, Gq8⟩ := id f7
  obtain ⟨T10, h10, X10, e10, W10, st10⟩ := stB X6 hx hZ e6 Arq8 (j := (0 : Int32)) (inb_of Sq8 ⟨(by decide : ¬ ((0 : Int32) < (0 : Int32))), (by decide : (0 : Int32) < (32 : Int32))⟩) (g := (mkF m 43 #[lR r0, lV vI1, lV vI58] [vI58, vI0, (.ref r0)])) rfl rfl (hb hby d40_43)
  have V10 : Arv Z h10 r0 c1 .byte (32 : Int32) [vI58, vI0, vI0, vI0, vI0, vI0, vI0, vI0, vI0, vI0, vI0, vI0, vI0, vI0, vI0, vI0, vI0, vI0, vI0, vI0, vI0, vI0, vI0, vI0, vI0, vI0, vI0, vI0, vI0, vI0, vI0, vI0] vI0 := Arv.set Arq8 qq8 Sq8 Nq8 Hq8 Gq8 (fits_nar_byte _) W10 0 rfl (Nat.le_of_ble_eq_true rfl)
  have N10 := Fr.snoc X10 N0 g9
  have o12 := Old.wr O0 W10 g9
  have f13 := f11.ext o12.2
  obtain ⟨T14, X14, e14, st14⟩ := getS2 X10 hx hZ hown (host := "") (Or.inl (ww hw 205 rfl)) Via.refl e10 f13 (g := (mkF m 47 #[lR r0, lV vI1, lV vI58] [vI58, vI1, (.ref r0)])) rfl (hb hby d40_47)
  obtain ⟨clq15, Arq15, qq15, Sq15, Nq15, Hq15, Gq15⟩ := id V10
  obtain ⟨T16, h16, X16, e16, W16, st16⟩ := stB X14 hx hZ e14 Arq15 (j := (1 : Int32)) (inb_of Sq15 ⟨(by decide : ¬ ((1 : Int32) < (0 : Int32))), (by decide : (1 : Int32) < (32 : Int32))⟩) (g := (mkF m 52 #[lR r0, lV vI1, lV vI58] [vI0, vI1, (.ref r0)])) rfl rfl (hb hby d40_52)
  have V16 : Arv Z h16 r0 c1 .byte (32 : Int32) [vI58, vI0, vI0, vI0, vI0, vI0, vI0, vI0, vI0, vI0, vI0, vI0, vI0, vI0, vI0, vI0, vI0, vI0, vI0, vI0, vI0, vI0, vI0, vI0, vI0, vI0, vI0, vI0, vI0, vI0, vI0, vI0] vI0 := Arv.set Arq15 qq15 Sq15 Nq15 Hq15 Gq15 (fits_nar_byte _) W16 1 rfl (Nat.le_of_ble_eq_true rfl)
  have N16 := Fr.snoc X16 N10 g9
  have kp17 : Keep h0 h10 [r0] := (Keep.refl h0 [r0]).wr W10 (Or.inl (List.mem_of_getElem? (i := 0) rfl))
  have kp18 : Keep h0 h16 [r0] := kp17.wr W16 (Or.inl (List.mem_of_getElem? (i := 0) rfl))
  refine ⟨none, _, _, _, _, (fun _ => rfl), X16, by decide, by decide, ?_, fun fs hr => ?_⟩
  · rw [e16]; exact ⟨rfl, N16, kp18, V16⟩
  · show SG p e below s₁ (mkF m 0 #[lR r0, lV vI0, lV vI58] []) _
    refine st3 _ ?_
    refine XS.ifYes X3.here hx rfl (pc0 := 3) (pc' := 28) rfl (hb hby d40_3) rfl ((if0 _ _).trans (feq (by decide : ¬ ((1 : Int32) = (0 : Int32)))).2) (by decide) (by decide) ?_
    refine qiN X3 hx hby d40_28 ?_
    refine qc X3 hx hby d40_29 ?_
    refine XS.ishl X3.here hx rfl (hb hby d40_30) rfl ?_
    refine XS.istoreN X3.here hx rfl (hb hby d40_31) rfl (l' := #[lR r0, lV vI0, lV vI58]) rfl ?_
    refine qaN X3 hx hby d40_32 ?_
    refine qiN X3 hx hby d40_33 ?_
    refine XS.iinc X3.here hx rfl (hb hby d40_34) rfl (l' := #[lR r0, lV vI1, lV vI58]) rfl ?_
    refine qiN X3 hx hby d40_37 ?_
    show SG p e below T3 (mkF m 38 #[lR r0, lV vI1, lV vI58] [vI58, vI0, (.ref r0)]) _
    refine st6 _ ?_
    refine XS.ishr X6.here hx rfl (hb hby d40_41) rfl ?_
    refine XS.i2b X6.here hx rfl (hb hby d40_42) rfl ?_
    refine st10 _ ?_
    refine qaN X10 hx hby d40_44 ?_
    refine qiN X10 hx hby d40_45 ?_
    refine qiN X10 hx hby d40_46 ?_
    refine st14 _ ?_
    refine XS.ishr X14.here hx rfl (hb hby d40_50) rfl ?_
    refine XS.i2b X14.here hx rfl (hb hby d40_51) rfl ?_
    show SG p e below T14 (mkF m 52 #[lR r0, lV vI1, lV vI58] [vI0, vI1, (.ref r0)]) _
    refine st16 _ ?_
    exact X16.returnOut hx hret (hb hby d40_53) hr
theorem d44_35 : DK cB44 35 (.iinc 5 1) 3 := by decide +kernel
theorem d44_38 : DK cB44 38 (.goto (-28)) 3 := by decide +kernel
theorem d44_41 : DK cB44 41 (.return_) 1 := by decide +kernel
def Q44_1 (Z : State) (r0 r1 : Addr) (c2 : ClassId) (u3 : Value) (c4 : ClassId) (h0 : Heap) (n0 : Nat) (v : Option Value) (h : Heap) (L : List Loc) : Prop := v = none ∧ Fr n0 L ∧ Keep h0 h [r1] ∧ Arv Z h r1 c2 .byte (32 : Int32) [vI58, vI0, vI0, vI0, vI0, vI0, vI0, vI0, vI0, vI0, vI0, vI0, vI0, vI0, vI0, vI0, vI0, vI0, vI0, vI0, vI0, vI0, vI0, vI0, vI0, vI0, vI0, vI0, vI0, vI0, vI0, vI0] vI0
theorem rm44_1 (l : Launch) (Z : State) (a0 : Array Value) (hw : own_HW a0 Z) (ws : List Jvm.Cond) (r0 r1 : Addr) (c2 : ClassId) (u3 : Value) (c4 : ClassId) (h0 : Heap) (n0 : Nat) (O0 : Old Z n0 h0) (f1 : Arv Z h0 r1 c2 .byte (32 : Int32) [vI0, vI0, vI0, vI0, vI0, vI0, vI0, vI0, vI0, vI0, vI0, vI0, vI0, vI0, vI0, vI0, vI0, vI0, vI0, vI0, vI0, vI0, vI0, vI0, vI0, vI0, vI0, vI0, vI0, vI0, vI0, vI0] vI0) (f2 : Sta Z Z.heap cs7 "SIOOBE_FORMATTER" cs8 u3) (hc3 : u3.isRef = true) (f5 : Arv Z h0 r0 c4 .byte (16 : Int32) [vI58, vI0, vI0, vI0, vI0, vI0, vI0, vI0, vI0, vI0, vI0, vI0, vI0, vI0, vI0, vI0] vI0) (f7 : Sta Z Z.heap "java/lang/StringUTF16" "$assertionsDisabled" "Z" vI1) (f8 : Sta Z Z.heap "java/lang/StringUTF16" "HI_BYTE_SHIFT" "I" vI0) (g9 : n0 ≤ r1) (f10 : Sta Z Z.heap "java/lang/StringUTF16" "LO_BYTE_SHIFT" "I" vI8) :
    own_MF l mN44 jdk_52_method_86_code 6 none ws rR3_0_0_43 Z h0 #[(.ref r0), vI0, (.ref r1), vI0, vI1] (Q44_1 Z r0 r1 c2 u3 c4 h0 n0) := by
  refine own_open (plainFor_of_name pn_java_lang_StringUTF16) (L0 := #[lR r0, lV vI0, lR r1, lV vI0, lV vI1, lU]) (fun _ => by first | (simp [entryFrame, mkF, argsToLocals, Value.category]; done) | rfl) ?_
  intro p e s m below meth c s₁ hx hby hml hret hnn hZ hown X0 e0
  have N0 := Fr.nil n0; have w := @ww Z a0 hw
  obtain ⟨_, T4, Lc4, X4, hQ4, st4⟩ := own_cS X0 hx hZ hown e0 (rm45_1 l Z a0 hw [] r1 c2 u3 h0 n0 O0 f1 f2 hc3) (w 222 rfl) (w 223 rfl) (w 182 rfl) (w 224 rfl) (by decide) (W := 0) (by decide) (by decide) (by decide) (by decide) (g := (mkF m 4 #[lR r0, lV vI0, lR r1, lV vI0, lV vI1, lU] [(.ref r1), vI1, vI0])) rfl (by rw [hml]; rfl) (argsL := [vI0, vI1, (.ref r1)]) (rest := []) (lenOf pd__II_B_V rfl) rfl (own_W rfl) (hb hby d44_4)
  obtain ⟨rfl, N4q, E4⟩ := hQ4
  have N4 := Fr.app N0 N4q
  obtain ⟨clq6, Arq6, qq6, Sq6, Nq6, Hq6, Gq6⟩ := id f5
  obtain ⟨_, T11, Lc11, X11, hQ11, st11⟩ := own_cS X4 hx hZ hown E4 (rm40_2 l Z a0 hw [] r1 c2 h0 n0 O0 f7 f8 f1 g9 f10) (w 200 rfl) (w 201 rfl) (w 182 rfl) (w 202 rfl) (by decide) (W := 0) (by decide) (by decide) (by decide) (by decide) (g := (mkF m 32 #[lR r0, lV vI1, lR r1, lV vI1, lV vI1, lV vI0] [vI58, vI0, (.ref r1)])) rfl (by rw [hml]; rfl) (argsL := [(.ref r1), vI0, vI58]) (rest := []) (lenOf pd___BII_V rfl) rfl (own_W rfl) (hb hby d44_32)
  obtain ⟨rfl, N11q, K11, f12⟩ := hQ11
  have N11 := Fr.app N4 N11q
  have kp13 : Keep h0 T11.heap [r1] := (Keep.refl h0 [r1]).trans K11 (allS (Or.inl (List.mem_of_getElem? (i := 0) rfl)) all0)
  refine ⟨none, _, _, _, _, (fun _ => rfl), X11, by decide, by decide, ?_, fun fs hr => ?_⟩
  · exact ⟨rfl, N11, kp13, f12⟩
  · show SG p e below s₁ (mkF m 0 #[lR r0, lV vI0, lR r1, lV vI0, lV vI1, lU] []) _
    refine qiN X0 hx hby d44_0 ?_
    refine qi X0 hx hby d44_1 ?_
    refine qaN X0 hx hby d44_3 ?_
    refine st4 _ ?_
    refine qc X4 hx hby d44_7 ?_
    refine XS.istore X4.here hx rfl (hb hby d44_8) rfl (l' := #[lR r0, lV vI0, lR r1, lV vI0, lV vI1, lV vI0]) rfl ?_
    refine qi X4 hx hby d44_10 ?_
    refine qi X4 hx hby d44_12 ?_
    refine XS.icmpNo X4.here hx rfl (hb hby d44_14) rfl (tlt (by decide : (0 : Int32) < (1 : Int32))).2.1 ?_
    refine qaN X4 hx hby d44_17 ?_
    show SG p e below T4 (mkF m 18 #[lR r0, lV vI0, lR r1, lV vI0, lV vI1, lV vI0] [(.ref r1)]) _
    refine qiN X4 hx hby d44_18 ?_
    refine XS.iinc X4.here hx rfl (hb hby d44_19) rfl (l' := #[lR r0, lV vI0, lR r1, lV vI1, lV vI1, lV vI0]) rfl ?_
    refine qaN X4 hx hby d44_22 ?_
    refine qiN X4 hx hby d44_23 ?_
    refine XS.iinc X4.here hx rfl (hb hby d44_24) rfl (l' := #[lR r0, lV vI1, lR r1, lV vI1, lV vI1, lV vI0]) rfl ?_
    refine X4.baloadBytes hx (j := (0 : Int32)) (v := vI58) (by rw [E4]; exact Arq6.1) (State.isArrayOf_alike hZ.alike Arq6.2.1) Arq6.2.2 (inb_of Sq6 ⟨(by decide : ¬ ((0 : Int32) < (0 : Int32))), (by decide : (0 : Int32) < (16 : Int32))⟩) (Has.at Hq6 (inb_of Sq6 ⟨(by decide : ¬ ((0 : Int32) < (0 : Int32))), (by decide : (0 : Int32) < (16 : Int32))⟩) rfl) (g := (mkF m 27 #[lR r0, lV vI1, lR r1, lV vI1, lV vI1, lV vI0] [vI0, (.ref r0), vI0, (.ref r1)])) rfl rfl (hb hby d44_27) _ ?_
    refine XS.sipush X4.here hx rfl (hb hby d44_28) ?_
    refine XS.iand X4.here hx rfl (hb hby d44_31) rfl ?_
    refine st11 _ ?_
    refine XS.iinc X11.here hx rfl (hb hby d44_35) rfl (l' := #[lR r0, lV vI1, lR r1, lV vI1, lV vI1, lV vI1]) rfl ?_
    show SG p e below T11 (mkF m 38 #[lR r0, lV vI1, lR r1, lV vI1, lV vI1, lV vI1] []) _
    refine XS.goto X11.here hx rfl (pc0 := 38) (pc' := 10) rfl (hb hby d44_38) (by decide) (by decide) ?_
    refine qi X11 hx hby d44_10 ?_
    refine qi X11 hx hby d44_12 ?_
    refine XS.icmpYes X11.here hx rfl (pc0 := 14) (pc' := 41) rfl (hb hby d44_14) rfl (flt (by decide : ¬ ((1 : Int32) < (1 : Int32)))).2.1 (by decide) (by decide) ?_
    exact X11.returnOut hx hret (hb hby d44_41) hr
theorem pd___BI_BII_V : parseMethodDescriptor "([BI[BII)V" = some ⟨[(.array .byte), .int, (.array .byte), .int, .int], none⟩ := by decide +kernel
theorem d43_9 : DK cB43 9 (.return_) 1 := by decide +kernel
def Q43_1 (Z : State) (r0 r1 : Addr) (c2 : ClassId) (u3 : Value) (c4 : ClassId) (h0 : Heap) (n0 : Nat) (v : Option Value) (h : Heap) (L : List Loc) : Prop := v = none ∧ Fr n0 L ∧ Keep h0 h [r1] ∧ Arv Z h r1 c2 .byte (32 : Int32) [vI58, vI0, vI0, vI0, vI0, vI0, vI0, vI0, vI0, vI0, vI0, vI0, vI0, vI0, vI0, vI0, vI0, vI0, vI0, vI0, vI0, vI0, vI0, vI0, vI0, vI0, vI0, vI0, vI0, vI0, vI0, vI0] vI0
theorem rm43_1 (l : Launch) (Z : State) (a0 : Array Value) (hw : own_HW a0 Z) (ws : List Jvm.Cond) (r0 r1 : Addr) (c2 : ClassId) (u3 : Value) (c4 : ClassId) (h0 : Heap) (n0 : Nat) (O0 : Old Z n0 h0) (f1 : Arv Z h0 r1 c2 .byte (32 : Int32) [vI0, vI0, vI0, vI0, vI0, vI0, vI0, vI0, vI0, vI0, vI0, vI0, vI0, vI0, vI0, vI0, vI0, vI0, vI0, vI0, vI0, vI0, vI0, vI0, vI0, vI0, vI0, vI0, vI0, vI0, vI0, vI0] vI0) (f2 : Sta Z Z.heap cs7 "SIOOBE_FORMATTER" cs8 u3) (hc3 : u3.isRef = true) (f4 : Arv Z h0 r0 c4 .byte (16 : Int32) [vI58, vI0, vI0, vI0, vI0, vI0, vI0, vI0, vI0, vI0, vI0, vI0, vI0, vI0, vI0, vI0] vI0) (f5 : Sta Z Z.heap "java/lang/StringUTF16" "$assertionsDisabled" "Z" vI1) (f6 : Sta Z Z.heap "java/lang/StringUTF16" "HI_BYTE_SHIFT" "I" vI0) (g7 : n0 ≤ r1) (f8 : Sta Z Z.heap "java/lang/StringUTF16" "LO_BYTE_SHIFT" "I" vI8) :
    own_MF l mN45 jdk_43_method_50_code 5 none ws rR4_0_0_60 Z h0 #[(.ref r0), vI0, (.ref r1), vI0, vI1] (Q43_1 Z r0 r1 c2 u3 c4 h0 n0) := by
  refine own_open (plainFor_of_name pn_java_lang_StringLatin1) (L0 := #[lR r0, lV vI0, lR r1, lV vI0, lV vI1]) (fun _ => by first | (simp [entryFrame, mkF, argsToLocals, Value.category]; done) | rfl) ?_
  intro p e s m below meth c s₁ hx hby hml hret hnn hZ hown X0 e0
  have N0 := Fr.nil n0
  obtain ⟨_, T9, Lc9, X9, hQ9, st9⟩ := own_cS X0 hx hZ hown e0 (rm44_1 l Z a0 hw [] r0 r1 c2 u3 c4 h0 n0 O0 f1 f2 hc3 f4 f5 f6 g7 f8) (ww hw 219 rfl) (ww hw 220 rfl) (ww hw 182 rfl) (ww hw 221 rfl) (by decide) (W := 0) (by decide) (by decide) (by decide) (by decide) (g := (mkF m 6 #[lR r0, lV vI0, lR r1, lV vI0, lV vI1] [vI1, vI0, (.ref r1), vI0, (.ref r0)])) rfl (by rw [hml]; rfl) (argsL := [(.ref r0), vI0, (.ref r1), vI0, vI1]) (rest := []) (lenOf pd___BI_BII_V rfl) rfl (own_W rfl) (hb hby d43_6)
  obtain ⟨rfl, N9q, K9, f10⟩ := hQ9
  have N9 := Fr.app N0 N9q
  have kp11 : Keep h0 T9.heap [r1] := (Keep.refl h0 [r1]).trans K9 (allS (Or.inl (List.mem_of_getElem? (i := 0) rfl)) all0)
  refine ⟨none, _, _, _, _, (fun _ => rfl), X9, by decide, by decide, ?_, fun fs hr => ?_⟩
  · exact ⟨rfl, N9, kp11, f10⟩
  · show SG p e below s₁ (mkF m 0 #[lR r0, lV vI0, lR r1, lV vI0, lV vI1] []) _
    refine qaN X0 hx hby d43_0 ?_
    refine qiN X0 hx hby d43_1 ?_
    refine qaN X0 hx hby d43_2 ?_
    refine qiN X0 hx hby d43_3 ?_
    refine qi X0 hx hby d43_4 ?_
    refine st9 _ ?_
    exact X9.returnOut hx hret (hb hby d43_9) hr
theorem d42_31 : DK cB42 31 (.aload_n 0) 1 := by decide +kernel
theorem d42_32 : DK cB42 32 (.aload_n 1) 1 := by decide +kernel
theorem d42_33 : DK cB42 33 (.putfield 15) 3 := by decide +kernel
theorem d42_36 : DK cB42 36 (.aload_n 0) 1 := by decide +kernel
theorem d42_37 : DK cB42 37 (.iconst 1) 1 := by decide +kernel
theorem d42_38 : DK cB42 38 (.putfield 22) 3 := by decide +kernel
theorem d42_41 : DK cB42 41 (.return_) 1 := by decide +kernel
def Q42_1 (Z : State) (r0 : Addr) (x1 : Int32) (r2 : Addr) (c3 : ClassId) (u4 : Value) (h0 : Heap) (n0 : Nat) (v : Option Value) (h : Heap) (L : List Loc) : Prop := ∃ (b10_0 : Addr) (k10_0 : ClassId), v = none ∧ Fr n0 L ∧ Keep h0 h [r0] ∧ Fld Z h r0 cs0 "coder" "B" vI1 ∧ Fld Z h r0 cs0 "value" "[B" (.ref b10_0) ∧ Fld Z h r0 cs0 "count" "I" vI1 ∧ Fld Z h r0 cs0 "maybeLatin1" "Z" vI0 ∧ h0.size ≤ b10_0 ∧ Exa Z h b10_0 "[B" ∧ Arv Z h b10_0 k10_0 .byte (32 : Int32) [vI58, vI0, vI0, vI0, vI0, vI0, vI0, vI0, vI0, vI0, vI0, vI0, vI0, vI0, vI0, vI0, vI0, vI0, vI0, vI0, vI0, vI0, vI0, vI0, vI0, vI0, vI0, vI0, vI0, vI0, vI0, vI0] vI0
theorem rm42_1 (l : Launch) (Z : State) (a0 : Array Value) (hw : own_HW a0 Z) (ws : List Jvm.Cond) (r0 : Addr) (x1 : Int32) (r2 : Addr) (c3 : ClassId) (u4 : Value) (h0 : Heap) (n0 : Nat) (O0 : Old Z n0 h0) (f1 : Exa Z h0 r0 "java/lang/StringBuilder") (f2 : Sta Z Z.heap "java/lang/String" "COMPACT_STRINGS" "Z" (.int x1)) (hc3 : ¬ (x1 = (0 : Int32))) (f4 : Fld Z h0 r0 cs0 "coder" "B" vI0) (f6 : Fld Z h0 r0 cs0 "value" "[B" (.ref r2)) (f8 : Arv Z h0 r2 c3 .byte (16 : Int32) [vI58, vI0, vI0, vI0, vI0, vI0, vI0, vI0, vI0, vI0, vI0, vI0, vI0, vI0, vI0, vI0] vI0) (f16 : Fld Z h0 r0 cs0 "count" "I" vI1) (f19 : Sta Z Z.heap cs7 "SIOOBE_FORMATTER" cs8 u4) (hc20 : u4.isRef = true) (f22 : Sta Z Z.heap "java/lang/StringUTF16" "$assertionsDisabled" "Z" vI1) (f23 : Sta Z Z.heap "java/lang/StringUTF16" "HI_BYTE_SHIFT" "I" vI0) (f26 : Sta Z Z.heap "java/lang/StringUTF16" "LO_BYTE_SHIFT" "I" vI8) (l31 : r0 < h0.size) (g34 : n0 ≤ r0) (f39 : Fld Z h0 r0 cs0 "maybeLatin1" "Z" vI0) :
    own_MF l mN46 jdk_68_method_11_code 2 none ws rR5_1_32_76 Z h0 #[(.ref r0)] (Q42_1 Z r0 x1 r2 c3 u4 h0 n0) := by
  refine own_open (plainFor_of_name pn_java_lang_AbstractStringBuilder) (L0 := #[lR r0, lU]) (fun _ => by first | (simp [entryFrame, mkF, argsToLocals, Value.category]; done) | rfl) ?_
  intro p e s m below meth c s₁ hx hby hml hret hnn hZ hown X0 e0
  have N0 := Fr.nil n0; have w := @ww Z a0 hw
  obtain ⟨_, T5, Lc5, X5, hQ5, st5⟩ := own_cV X0 hx hZ hown e0 (rm21_1 l Z a0 hw [] r0 x1 (0 : Int32) h0 n0 O0 f2 hc3 f4 (by decide)) f1 (w 214 rfl) (w 122 rfl) (w 124 rfl) (w 123 rfl) (w 125 rfl) (w 39 rfl) (by decide) (W := 0) (by decide) (by decide) (by decide) (by decide) (g := (mkF m 1 #[lR r0, lU] [(.ref r0)])) rfl (by rw [hml]; rfl) (argsL := []) (rest := []) (lenOf pd___Z rfl) rfl (own_W rfl) (hb hby d42_1)
  obtain ⟨rfl, N5q, E5⟩ := hQ5
  have N5 := Fr.app N0 N5q
  obtain ⟨T7, X7, e7, st7⟩ := getF X5 hx hZ hown (host := "") (Or.inl (w 43 rfl)) Via.refl E5 f6 (g := (mkF m 9 #[lR r0, lU] [(.ref r0)])) rfl rfl (hb hby d42_9)
  obtain ⟨clq9, Arq9, qq9, Sq9, Nq9, Hq9, Gq9⟩ := id f8
  obtain ⟨_, T10, Lc10, X10, hQ10, st10⟩ := own_cS X7 hx hZ hown e7 (rm38_2 l Z a0 hw [] h0 n0 O0) (w 215 rfl) (w 194 rfl) (w 182 rfl) (w 195 rfl) (by decide) (W := 0) (by decide) (by decide) (by decide) (by decide) (g := (mkF m 13 #[lR r0, lU] [vI16])) rfl (by rw [hml]; rfl) (argsL := [vI16]) (rest := []) (lenOf pd__I__B rfl) rfl (own_W rfl) (hb hby d42_13)
  obtain ⟨b10_0, k10_0, rfl, N10q, K10, f11, f12, f13⟩ := hQ10
  have N10 := Fr.app N5 N10q
  have f14 := (f6.keep K10 nin0)
  obtain ⟨T15, X15, e15, st15⟩ := getF X10 hx hZ hown (host := "") (Or.inl (w 43 rfl)) Via.refl rfl f14 (g := (mkF m 18 #[lR r0, lR b10_0] [(.ref r0)])) rfl rfl (hb hby d42_18)
  have f17 := (f16.keep K10 nin0)
  obtain ⟨T18, X18, e18, st18⟩ := getF X15 hx hZ hown (host := "") (Or.inl (w 69 rfl)) Via.refl e15 f17 (g := (mkF m 25 #[lR r0, lR b10_0] [(.ref r0), vI0, (.ref b10_0), vI0, (.ref r2)])) rfl rfl (hb hby d42_25)
  have f21 := (f8.keep K10 nin0)
  have zz24 : n0 ≤ h0.size := by rw [← O0.1]; exact O0.2.1
  have g25 := Nat.le_trans zz24 f11
  have o27 := Old.keep O0 K10 all0
  obtain ⟨_, T28, Lc28, X28, hQ28, st28⟩ := own_cS X18 hx hZ hown e18 (rm43_1 l Z a0 hw [] r2 b10_0 k10_0 u4 c3 T10.heap n0 o27 f12 f19 hc20 f21 f22 f23 g25 f26) (w 216 rfl) (w 217 rfl) (w 170 rfl) (w 218 rfl) (by decide) (W := 0) (by decide) (by decide) (by decide) (by decide) (g := (mkF m 28 #[lR r0, lR b10_0] [vI1, vI0, (.ref b10_0), vI0, (.ref r2)])) rfl (by rw [hml]; rfl) (argsL := [(.ref r2), vI0, (.ref b10_0), vI0, vI1]) (rest := []) (lenOf pd___BI_BII_V rfl) rfl (own_W rfl) (hb hby d42_28)
  obtain ⟨rfl, N28q, K28, f29⟩ := hQ28
  have N28 := Fr.app N10 N28q
  have f30 := ((f1.keep K10).keep K28)
  have n32 := Nat.ne_of_lt (Nat.lt_of_lt_of_le l31 f11)
  have f33 := (f14.keep K28 (ninS n32 nin0))
  obtain ⟨T35, h35, X35, e35, W35, st35⟩ := putF X28 hx hZ hown (host := "") (Or.inl (w 43 rfl)) Via.refl rfl f33 f30 (Or.inl (w 44 rfl)) (w 30 rfl) (ty := (.array .byte)) (by decide) rfl rfl (g := (mkF m 33 #[lR r0, lR b10_0] [(.ref b10_0), (.ref r0)])) rfl rfl (hb hby d42_33)
  have Fw35 := f33.same W35
  have N35 := Fr.snoc X35 N28 g34
  have f36 := (f30.wr W35)
  have f37 := (((f4.keep K10 nin0).keep K28 (ninS n32 nin0)).other W35 (Or.inr (slot_ne (Or.inl (w 46 rfl)) (Or.inl (w 44 rfl)) (by decide) (t := .byte) (t' := (.array .byte)) (by decide) (by decide))))
  obtain ⟨T38, h38, X38, e38, W38, st38⟩ := putFN X35 hx hZ hown (w 45 rfl) Via.refl e35 f37 f36 (Or.inl (w 46 rfl)) (w 30 rfl) (ty := .byte) (v' := vI1) (by decide) rfl (by decide) (g := (mkF m 38 #[lR r0, lR b10_0] [vI1, (.ref r0)])) rfl rfl (hb hby d42_38)
  have Fw38 := f37.same W38
  have N38 := Fr.snoc X38 N35 g34
  have f40 := ((((f39.keep K10 nin0).keep K28 (ninS n32 nin0)).other W35 (Or.inr (slot_ne (Or.inl (w 235 rfl)) (Or.inl (w 44 rfl)) (by decide) (t := .boolean) (t' := (.array .byte)) (by decide) (by decide)))).other W38 (Or.inr (slot_ne (Or.inl (w 235 rfl)) (Or.inl (w 46 rfl)) (by decide) (t := .boolean) (t' := .byte) (by decide) (by decide))))
  have f41 := (Fw35.other W38 (Or.inr (slot_ne (Or.inl (w 44 rfl)) (Or.inl (w 46 rfl)) (by decide) (t := (.array .byte)) (t' := .byte) (by decide) (by decide))))
  have f42 := (((f17.keep K28 (ninS n32 nin0)).other W35 (Or.inr (slot_ne (Or.inl (w 70 rfl)) (Or.inl (w 44 rfl)) (by decide) (t := .int) (t' := (.array .byte)) (by decide) (by decide)))).other W38 (Or.inr (slot_ne (Or.inl (w 70 rfl)) (Or.inl (w 46 rfl)) (by decide) (t := .int) (t' := .byte) (by decide) (by decide))))
  have f43 := (((f13.keep K28).wr W35).wr W38)
  have f44 := ((f29.other W35 (Ne.symm n32)).other W38 (Ne.symm n32))
  have kp45 : Keep h0 T10.heap [r0] := (Keep.refl h0 [r0]).trans K10 all0
  have kp46 : Keep h0 T28.heap [r0] := kp45.trans K28 (allS (Or.inr f11) all0)
  have kp47 : Keep h0 h35 [r0] := kp46.wr W35 (Or.inl (List.mem_of_getElem? (i := 0) rfl))
  have kp48 : Keep h0 h38 [r0] := kp47.wr W38 (Or.inl (List.mem_of_getElem? (i := 0) rfl))
  refine ⟨none, _, _, _, _, (fun _ => rfl), X38, by decide, by decide, ?_, fun fs hr => ?_⟩
  · rw [e38]; exact ⟨b10_0, k10_0, rfl, N38, kp48, Fw38, f41, f42, f40, f11, f43, f44⟩
  · show SG p e below s₁ (mkF m 0 #[lR r0, lU] []) _
    refine qaN X0 hx hby d42_0 ?_
    refine st5 _ ?_
    refine XS.ifYes X5.here hx rfl (pc0 := 4) (pc' := 8) rfl (hb hby d42_4) rfl ((if0 _ _).trans (feq (by decide : ¬ ((1 : Int32) = (0 : Int32)))).2) (by decide) (by decide) ?_
    refine qaN X5 hx hby d42_8 ?_
    refine st7 _ ?_
    refine X7.arraylength hx (by rw [e7]; exact Arq9.1) (State.isArrayOf_alike hZ.alike Arq9.2.1) (g := (mkF m 12 #[lR r0, lU] [(.ref r2)])) rfl rfl (hb hby d42_12) _ ?_
    rw [len_of Sq9 Nq9]
    refine st10 _ ?_
    refine XS.astoreN X10.here hx rfl (hb hby d42_16) rfl rfl (l' := #[lR r0, lR b10_0]) rfl ?_
    refine qaN X10 hx hby d42_17 ?_
    refine st15 _ ?_
    show SG p e below T15 (mkF m 21 #[lR r0, lR b10_0] [(.ref r2)]) _
    refine qc X15 hx hby d42_21 ?_
    refine qaN X15 hx hby d42_22 ?_
    refine qc X15 hx hby d42_23 ?_
    refine qaN X15 hx hby d42_24 ?_
    refine st18 _ ?_
    refine st28 _ ?_
    refine qaN X28 hx hby d42_31 ?_
    refine qaN X28 hx hby d42_32 ?_
    refine st35 _ ?_
    refine qaN X35 hx hby d42_36 ?_
    show SG p e below T35 (mkF m 37 #[lR r0, lR b10_0] [(.ref r0)]) _
    refine qc X35 hx hby d42_37 ?_
    refine st38 _ ?_
    exact X38.returnOut hx hret (hb hby d42_41) hr
def Q13_2 (Z : State) (r0 r1 : Addr) (x2 : Int32) (r3 : Addr) (c4 : ClassId) (u5 : Value) (h0 : Heap) (n0 : Nat) (v : Option Value) (h : Heap) (L : List Loc) : Prop := ∃ (b22_0 : Addr) (k22_0 : ClassId), v = none ∧ Fr n0 L ∧ Keep h0 h [r0] ∧ Fld Z h r0 cs0 "coder" "B" vI1 ∧ Fld Z h r0 cs0 "value" "[B" (.ref b22_0) ∧ Fld Z h r0 cs0 "count" "I" vI1 ∧ Fld Z h r0 cs0 "maybeLatin1" "Z" vI0 ∧ h0.size ≤ b22_0 ∧ Exa Z h b22_0 "[B" ∧ Arv Z h b22_0 k22_0 .byte (32 : Int32) [vI58, vI0, vI0, vI0, vI0, vI0, vI0, vI0, vI0, vI0, vI0, vI0, vI0, vI0, vI0, vI0, vI0, vI0, vI0, vI0, vI0, vI0, vI0, vI0, vI0, vI0, vI0, vI0, vI0, vI0, vI0, vI0] vI0
theorem rm13_2 (l : Launch) (Z : State) (a0 : Array Value) (hw : own_HW a0 Z) (ws : List Jvm.Cond) (r0 r1 : Addr) (x2 : Int32) (r3 : Addr) (c4 : ClassId) (u5 : Value) (h0 : Heap) (n0 : Nat) (O0 : Old Z n0 h0) (f1 : Sta Z Z.heap "java/lang/String" "COMPACT_STRINGS" "Z" (.int x2)) (hc4 : ¬ (x2 = (0 : Int32))) (f5 : Fld Z h0 r0 cs0 "coder" "B" vI0) (f7 : Exa Z h0 r1 "java/lang/String") (f8 : Fld Z h0 r1 "java/lang/String" "coder" "B" vI1) (f10 : Exa Z h0 r0 "java/lang/StringBuilder") (f11 : Fld Z h0 r0 cs0 "value" "[B" (.ref r3)) (f12 : Arv Z h0 r3 c4 .byte (16 : Int32) [vI58, vI0, vI0, vI0, vI0, vI0, vI0, vI0, vI0, vI0, vI0, vI0, vI0, vI0, vI0, vI0] vI0) (f13 : Fld Z h0 r0 cs0 "count" "I" vI1) (f14 : Sta Z Z.heap cs7 "SIOOBE_FORMATTER" cs8 u5) (hc15 : u5.isRef = true) (f16 : Sta Z Z.heap "java/lang/StringUTF16" "$assertionsDisabled" "Z" vI1) (f17 : Sta Z Z.heap "java/lang/StringUTF16" "HI_BYTE_SHIFT" "I" vI0) (f18 : Sta Z Z.heap "java/lang/StringUTF16" "LO_BYTE_SHIFT" "I" vI8) (l19 : r0 < h0.size) (g20 : n0 ≤ r0) (f21 : Fld Z h0 r0 cs0 "maybeLatin1" "Z" vI0) :
    own_MF l mN7 jdk_68_method_71_code 2 none ws rR6_1_32_89 Z h0 #[(.ref r0), (.ref r1)] (Q13_2 Z r0 r1 x2 r3 c4 u5 h0 n0) := by
  refine own_open (plainFor_of_name pn_java_lang_AbstractStringBuilder) (L0 := #[lR r0, lR r1]) (fun _ => by first | (simp [entryFrame, mkF, argsToLocals, Value.category]; done) | rfl) ?_
  intro p e s m below meth c s₁ hx hby hml hret hnn hZ hown X0 e0
  have N0 := Fr.nil n0; have w := @ww Z a0 hw
  have f2 := f1.ext O0.2
  obtain ⟨T3, X3, e3, st3⟩ := getS2 X0 hx hZ hown (host := "") (Or.inl (w 42 rfl)) Via.refl e0 f2 (g := (mkF m 0 #[lR r0, lR r1] [])) rfl (hb hby d13_0)
  obtain ⟨T6, X6, e6, st6⟩ := getF X3 hx hZ hown (host := "") (Or.inl (w 45 rfl)) Via.refl e3 f5 (g := (mkF m 7 #[lR r0, lR r1] [(.ref r0)])) rfl rfl (hb hby d13_7)
  obtain ⟨_, T9, Lc9, X9, hQ9, st9⟩ := own_cV X6 hx hZ hown e6 (rm10_1 l Z a0 hw [] r1 x2 (1 : Int32) h0 n0 O0 f1 hc4 f8) f7 (w 86 rfl) (w 64 rfl) (w 66 rfl) (w 65 rfl) (w 67 rfl) (w 4 rfl) (by decide) (W := 1) (by decide) (by decide) (by decide) (by decide) (g := (mkF m 11 #[lR r0, lR r1] [(.ref r1), vI0])) rfl (by rw [hml]; rfl) (argsL := []) (rest := [vI0]) (lenOf pd___B rfl) rfl (own_W rfl) (hb hby d13_11)
  obtain ⟨rfl, N9q, E9⟩ := hQ9
  have N9 := Fr.app N0 N9q
  obtain ⟨cqq23, qq23, qq23'⟩ := f10.cell
  obtain ⟨_, T22, Lc22, X22, hQ22, st22⟩ := own_fin (X9.privateBack hx (y := mN46) hown (mvT hZ (w 209 rfl)) (mvT hZ (w 210 rfl)) (own_selfsel (mvT hZ (w 212 rfl)) (Cond.privateMethod_at (mvP hZ (w 211 rfl) (args := #[]))) (mvT hZ (w 210 rfl)) (by decide)) (Cond.privateMethod_at (mvP hZ (w 211 rfl) (args := #[]))) (mvT hZ (w 213 rfl)) (by decide) (backOf (W := 0) (rm42_1 l Z a0 hw [] r0 x2 r3 c4 u5 h0 n0 O0 f10 f1 hc4 f5 f11 f12 f13 f14 hc15 f16 f17 f18 l19 g20 f21) hZ (w 213 rfl) (w 39 rfl) (by decide) (by decide)) (g := (mkF m 18 #[lR r0, lR r1] [(.ref r0)])) rfl (by rw [hml]; rfl) (Steps.refl _) (a := r0) (by rw [E9]; exact qq23) qq23' (argsL := []) (rest := []) (lenOf pd___V rfl) rfl (own_W rfl) (hb hby d13_18) (fun _ _ => ⟨rfl, E9, (by decide : 0 + 1 ≤ _), (by decide : 0 + 32 ≤ _)⟩))
  obtain ⟨b22_0, k22_0, rfl, N22q, K22, f24, f25, f26, f27, f28, f29, f30⟩ := hQ22
  have N22 := Fr.app N9 N22q
  have kp31 : Keep h0 T22.heap [r0] := (Keep.refl h0 [r0]).trans K22 (allS (Or.inl (List.mem_of_getElem? (i := 0) rfl)) all0)
  refine ⟨none, _, _, _, _, (fun _ => rfl), X22, by decide, by decide, ?_, fun fs hr => ?_⟩
  · exact ⟨b22_0, k22_0, rfl, N22, kp31, f24, f25, f26, f27, f28, f29, f30⟩
  · show SG p e below s₁ (mkF m 0 #[lR r0, lR r1] []) _
    refine st3 _ ?_
    refine XS.ifNo X3.here hx rfl (hb hby d13_3) rfl ((if0 _ _).trans (feq hc4).1) ?_
    refine qaN X3 hx hby d13_6 ?_
    refine st6 _ ?_
    refine qaN X6 hx hby d13_10 ?_
    refine st9 _ ?_
    refine XS.icmpNo X9.here hx rfl (hb hby d13_14) rfl (feq (by decide : ¬ ((0 : Int32) = (1 : Int32)))).1 ?_
    refine qaN X9 hx hby d13_17 ?_
    refine st22.trans ?_
    exact X22.returnOut hx hret (hb hby d13_21) hr
def Q12_2 (Z : State) (r0 r1 : Addr) (x2 : Int32) (r3 : Addr) (c4 : ClassId) (u5 : Value) (r6 : Addr) (c7 : ClassId) (x8 x9 : Int32) (h0 : Heap) (n0 : Nat) (v : Option Value) (h : Heap) (L : List Loc) : Prop := ∃ (b18_0 : Addr) (k18_0 : ClassId), v = none ∧ Fr n0 L ∧ Keep h0 h [r0] ∧ Fld Z h r0 cs0 "coder" "B" vI1 ∧ Fld Z h r0 cs0 "value" "[B" (.ref b18_0) ∧ Fld Z h r0 cs0 "count" "I" vI1 ∧ Fld Z h r0 cs0 "maybeLatin1" "Z" vI0 ∧ h0.size ≤ b18_0 ∧ Exa Z h b18_0 "[B" ∧ Arv Z h b18_0 k18_0 .byte (32 : Int32) [vI58, vI0, (.int x8), (.int x9), vI0, vI0, vI0, vI0, vI0, vI0, vI0, vI0, vI0, vI0, vI0, vI0, vI0, vI0, vI0, vI0, vI0, vI0, vI0, vI0, vI0, vI0, vI0, vI0, vI0, vI0, vI0, vI0] vI0
theorem rm12_2 (l : Launch) (Z : State) (a0 : Array Value) (hw : own_HW a0 Z) (ws : List Jvm.Cond) (r0 r1 : Addr) (x2 : Int32) (r3 : Addr) (c4 : ClassId) (u5 : Value) (r6 : Addr) (c7 : ClassId) (x8 x9 : Int32) (h0 : Heap) (n0 : Nat) (O0 : Old Z n0 h0) (f1 : Exa Z h0 r0 "java/lang/StringBuilder") (f2 : Sta Z Z.heap "java/lang/String" "COMPACT_STRINGS" "Z" (.int x2)) (hc3 : ¬ (x2 = (0 : Int32))) (f4 : Fld Z h0 r0 cs0 "coder" "B" vI0) (f5 : Exa Z h0 r1 "java/lang/String") (f6 : Fld Z h0 r1 "java/lang/String" "coder" "B" vI1) (f7 : Fld Z h0 r0 cs0 "value" "[B" (.ref r3)) (f8 : Arv Z h0 r3 c4 .byte (16 : Int32) [vI58, vI0, vI0, vI0, vI0, vI0, vI0, vI0, vI0, vI0, vI0, vI0, vI0, vI0, vI0, vI0] vI0) (f9 : Fld Z h0 r0 cs0 "count" "I" vI1) (f10 : Sta Z Z.heap cs7 "SIOOBE_FORMATTER" cs8 u5) (hc11 : u5.isRef = true) (f12 : Sta Z Z.heap "java/lang/StringUTF16" "$assertionsDisabled" "Z" vI1) (f13 : Sta Z Z.heap "java/lang/StringUTF16" "HI_BYTE_SHIFT" "I" vI0) (f14 : Sta Z Z.heap "java/lang/StringUTF16" "LO_BYTE_SHIFT" "I" vI8) (l15 : r0 < h0.size) (g16 : n0 ≤ r0) (f17 : Fld Z h0 r0 cs0 "maybeLatin1" "Z" vI0) (n30 : r1 ≠ r0) (f32 : Fld Z h0 r1 "java/lang/String" "value" "[B" (.ref r6)) (f34 : Arv Z h0 r6 c7 .byte (2 : Int32) [(.int x8), (.int x9)] vI0) (n35 : r6 ≠ r0) :
    own_MF l mN9 jdk_68_method_73_code 3 none ws rR7_1_32_102 Z h0 #[(.ref r0), vI1, (.ref r1)] (Q12_2 Z r0 r1 x2 r3 c4 u5 r6 c7 x8 x9 h0 n0) := by
  refine own_open (plainFor_of_name pn_java_lang_AbstractStringBuilder) (L0 := #[lR r0, lV vI1, lR r1]) (fun _ => by first | (simp [entryFrame, mkF, argsToLocals, Value.category]; done) | rfl) ?_
  intro p e s m below meth c s₁ hx hby hml hret hnn hZ hown X0 e0
  have N0 := Fr.nil n0; have w := @ww Z a0 hw
  obtain ⟨cqq19, qq19, qq19'⟩ := f1.cell
  obtain ⟨_, T18, Lc18, X18, hQ18, st18⟩ := own_fin (X0.privateBack hx (y := mN7) hown (mvT hZ (w 81 rfl)) (mvT hZ (w 82 rfl)) (own_selfsel (mvT hZ (w 84 rfl)) (Cond.privateMethod_at (mvP hZ (w 83 rfl) (args := #[]))) (mvT hZ (w 82 rfl)) (by decide)) (Cond.privateMethod_at (mvP hZ (w 83 rfl) (args := #[]))) (mvT hZ (w 85 rfl)) (by decide) (backOf (W := 0) (rm13_2 l Z a0 hw [] r0 r1 x2 r3 c4 u5 h0 n0 O0 f2 hc3 f4 f5 f6 f1 f7 f8 f9 f10 hc11 f12 f13 f14 l15 g16 f17) hZ (w 85 rfl) (w 39 rfl) (by decide) (by decide)) (g := (mkF m 2 #[lR r0, lV vI1, lR r1] [(.ref r1), (.ref r0)])) rfl (by rw [hml]; rfl) (Steps.refl _) (a := r0) (by rw [e0]; exact qq19) qq19' (argsL := [(.ref r1)]) (rest := []) (lenOf pd__Ljava_lang_String__V rfl) rfl (own_W rfl) (hb hby d12_2) (fun _ _ => ⟨rfl, e0, (by decide : 0 + 1 ≤ _), (by decide : 0 + 32 ≤ _)⟩))
  obtain ⟨b18_0, k18_0, rfl, N18q, K18, f20, f21, f22, f23, f24, f25, f26⟩ := hQ18
  have N18 := Fr.app N0 N18q
  obtain ⟨T27, X27, e27, st27⟩ := getF X18 hx hZ hown (host := "") (Or.inl (w 43 rfl)) Via.refl rfl f21 (g := (mkF m 7 #[lR r0, lV vI1, lR r1] [(.ref r0), (.ref r1)])) rfl rfl (hb hby d12_7)
  obtain ⟨T28, X28, e28, st28⟩ := getF X27 hx hZ hown (host := "") (Or.inl (w 45 rfl)) Via.refl e27 f20 (g := (mkF m 12 #[lR r0, lV vI1, lR r1] [(.ref r0), vI1, (.ref b18_0), (.ref r1)])) rfl rfl (hb hby d12_12)
  have f29 := (f5.keep K18)
  have f31 := (f6.keep K18 (ninS n30 nin0))
  have f33 := (f32.keep K18 (ninS n30 nin0))
  have f36 := (f34.keep K18 (ninS n35 nin0))
  have zz37 : n0 ≤ h0.size := by rw [← O0.1]; exact O0.2.1
  have g38 := Nat.le_trans zz37 f24
  have o39 := Old.keep O0 K18 (allS g16 all0)
  obtain ⟨_, T40, Lc40, X40, hQ40, st40⟩ := own_cV X28 hx hZ hown e28 (rm14_1 l Z a0 hw [] r1 b18_0 (1 : Int32) (1 : Int32) x2 (1 : Int32) r6 (2 : Int32) c7 ([(.int x8), (.int x9)]) (32 : Int32) k18_0 ([vI58, vI0, vI0, vI0, vI0, vI0, vI0, vI0, vI0, vI0, vI0, vI0, vI0, vI0, vI0, vI0, vI0, vI0, vI0, vI0, vI0, vI0, vI0, vI0, vI0, vI0, vI0, vI0, vI0, vI0, vI0, vI0]) T18.heap n0 o39 f29 f2 hc3 f31 (by decide) f33 f36 f26 (own_lenK (n := 2) rfl (by decide) : [(.int x8), (.int x9)].length = ((2 : Int32)).toNatClampNeg) (by decide) (by decide) (by decide) (by decide) g38) f29 (w 87 rfl) (w 88 rfl) (w 90 rfl) (w 89 rfl) (w 91 rfl) (w 4 rfl) (by decide) (W := 0) (by decide) (by decide) (by decide) (by decide) (g := (mkF m 15 #[lR r0, lV vI1, lR r1] [vI1, vI1, (.ref b18_0), (.ref r1)])) rfl (by rw [hml]; rfl) (argsL := [(.ref b18_0), vI1, vI1]) (rest := []) (lenOf pd___BIB_V rfl) rfl (own_W rfl) (hb hby d12_15)
  obtain ⟨rfl, N40q, K40, f41⟩ := hQ40
  have N40 := Fr.app N18 N40q
  have f42 : Arv Z T40.heap b18_0 k18_0 .byte (32 : Int32) [vI58, vI0, (.int x8), (.int x9), vI0, vI0, vI0, vI0, vI0, vI0, vI0, vI0, vI0, vI0, vI0, vI0, vI0, vI0, vI0, vI0, vI0, vI0, vI0, vI0, vI0, vI0, vI0, vI0, vI0, vI0, vI0, vI0] vI0 := own_cpx (by decide : (((1 : Int32) <<< ((1 : Int32) &&& 31))).toNatClampNeg = 2) (by decide : (((1 : Int32) <<< ((1 : Int32) &&& 31))).toNatClampNeg + ((2 : Int32)).toNatClampNeg = 4) f41
  have n43 := Nat.ne_of_lt (Nat.lt_of_lt_of_le l15 f24)
  have f44 := (f20.keep K40 (ninS n43 nin0))
  have f45 := (f21.keep K40 (ninS n43 nin0))
  have f46 := (f22.keep K40 (ninS n43 nin0))
  have f47 := (f23.keep K40 (ninS n43 nin0))
  have f48 := (f25.keep K40)
  have kp49 : Keep h0 T18.heap [r0] := (Keep.refl h0 [r0]).trans K18 (allS (Or.inl (List.mem_of_getElem? (i := 0) rfl)) all0)
  have kp50 : Keep h0 T40.heap [r0] := kp49.trans K40 (allS (Or.inr f24) all0)
  refine ⟨none, _, _, _, _, (fun _ => rfl), X40, by decide, by decide, ?_, fun fs hr => ?_⟩
  · exact ⟨b18_0, k18_0, rfl, N40, kp50, f44, f45, f46, f47, f24, f48, f42⟩
  · show SG p e below s₁ (mkF m 0 #[lR r0, lV vI1, lR r1] []) _
    refine qaN X0 hx hby d12_0 ?_
    refine qaN X0 hx hby d12_1 ?_
    refine st18.trans ?_
    refine qaN X18 hx hby d12_5 ?_
    refine qaN X18 hx hby d12_6 ?_
    refine st27 _ ?_
    refine qiN X27 hx hby d12_10 ?_
    refine qaN X27 hx hby d12_11 ?_
    refine st28 _ ?_
    refine st40 _ ?_
    show SG p e below T40 (mkF m 18 #[lR r0, lV vI1, lR r1] []) _
    exact X40.returnOut hx hret (hb hby d12_18) hr
def Q8_2 (Z : State) (r0 r1 r2 : Addr) (c3 : ClassId) (x4 x5 x6 : Int32) (r7 : Addr) (c8 : ClassId) (u9 : Value) (h0 : Heap) (n0 : Nat) (v : Option Value) (h : Heap) (L : List Loc) : Prop := ∃ (b27_0 : Addr) (k27_0 : ClassId), v = some (.ref r0) ∧ Fr n0 L ∧ Keep h0 h [r0] ∧ Fld Z h r0 cs0 "coder" "B" vI1 ∧ Fld Z h r0 cs0 "value" "[B" (.ref b27_0) ∧ Fld Z h r0 cs0 "count" "I" vI2 ∧ Fld Z h r0 cs0 "maybeLatin1" "Z" vI0 ∧ h0.size ≤ b27_0 ∧ Exa Z h b27_0 "[B" ∧ Arv Z h b27_0 k27_0 .byte (32 : Int32) [vI58, vI0, (.int x4), (.int x5), vI0, vI0, vI0, vI0, vI0, vI0, vI0, vI0, vI0, vI0, vI0, vI0, vI0, vI0, vI0, vI0, vI0, vI0, vI0, vI0, vI0, vI0, vI0, vI0, vI0, vI0, vI0, vI0] vI0
theorem rm8_2 (l : Launch) (Z : State) (a0 : Array Value) (hw : own_HW a0 Z) (ws : List Jvm.Cond) (r0 r1 r2 : Addr) (c3 : ClassId) (x4 x5 x6 : Int32) (r7 : Addr) (c8 : ClassId) (u9 : Value) (h0 : Heap) (n0 : Nat) (O0 : Old Z n0 h0) (f1 : Exa Z h0 r1 "java/lang/String") (f2 : Fld Z h0 r1 "java/lang/String" "value" "[B" (.ref r2)) (f3 : Arv Z h0 r2 c3 .byte (2 : Int32) [(.int x4), (.int x5)] vI0) (f4 : Sta Z Z.heap "java/lang/String" "COMPACT_STRINGS" "Z" (.int x6)) (hc5 : ¬ (x6 = (0 : Int32))) (f6 : Fld Z h0 r1 "java/lang/String" "coder" "B" vI1) (f8 : Fld Z h0 r0 cs0 "count" "I" vI1) (f10 : Exa Z h0 r0 "java/lang/StringBuilder") (f11 : Fld Z h0 r0 cs0 "value" "[B" (.ref r7)) (f12 : Arv Z h0 r7 c8 .byte (16 : Int32) [vI58, vI0, vI0, vI0, vI0, vI0, vI0, vI0, vI0, vI0, vI0, vI0, vI0, vI0, vI0, vI0] vI0) (f13 : Fld Z h0 r0 cs0 "coder" "B" vI0) (f17 : Sta Z Z.heap cs7 "SIOOBE_FORMATTER" cs8 u9) (hc18 : u9.isRef = true) (f19 : Sta Z Z.heap "java/lang/StringUTF16" "$assertionsDisabled" "Z" vI1) (f20 : Sta Z Z.heap "java/lang/StringUTF16" "HI_BYTE_SHIFT" "I" vI0) (f21 : Sta Z Z.heap "java/lang/StringUTF16" "LO_BYTE_SHIFT" "I" vI8) (l22 : r0 < h0.size) (g23 : n0 ≤ r0) (f24 : Fld Z h0 r0 cs0 "maybeLatin1" "Z" vI0) (n25 : r1 ≠ r0) (n26 : r2 ≠ r0) :
    own_MF l mN10 jdk_68_method_22_code 3 (some (.object cs0)) ws rR8_1_32_116 Z h0 #[(.ref r0), (.ref r1)] (Q8_2 Z r0 r1 r2 c3 x4 x5 x6 r7 c8 u9 h0 n0) := by
  refine own_open (plainFor_of_name pn_java_lang_AbstractStringBuilder) (L0 := #[lR r0, lR r1, lU]) (fun _ => by first | (simp [entryFrame, mkF, argsToLocals, Value.category]; done) | rfl) ?_
  intro p e s m below meth c s₁ hx hby hml hret hnn hZ hown X0 e0
  have N0 := Fr.nil n0; have w := @ww Z a0 hw
  obtain ⟨_, T7, Lc7, X7, hQ7, st7⟩ := own_cV X0 hx hZ hown e0 (rm9_1 l Z a0 hw [] r1 r2 (2 : Int32) c3 ([(.int x4), (.int x5)]) x6 (1 : Int32) h0 n0 O0 f2 f3 f1 f4 hc5 f6) f1 (w 58 rfl) (w 59 rfl) (w 61 rfl) (w 60 rfl) (w 62 rfl) (w 4 rfl) (by decide) (W := 0) (by decide) (by decide) (by decide) (by decide) (g := (mkF m 10 #[lR r0, lR r1, lU] [(.ref r1)])) rfl (by rw [hml]; rfl) (argsL := []) (rest := []) (lenOf pd___I rfl) rfl (own_W rfl) (hb hby d8_10)
  obtain ⟨rfl, N7q, E7⟩ := hQ7
  have N7 := Fr.app N0 N7q
  obtain ⟨T9, X9, e9, st9⟩ := getF X7 hx hZ hown (host := "") (Or.inl (w 69 rfl)) Via.refl E7 f8 (g := (mkF m 16 #[lR r0, lR r1, lV vI1] [(.ref r0), (.ref r0)])) rfl rfl (hb hby d8_16)
  obtain ⟨cqq15, qq15, qq15'⟩ := f10.cell
  obtain ⟨_, T14, Lc14, X14, hQ14, st14⟩ := own_fin (X9.privateBack hx (y := mN6) hown (mvT hZ (w 71 rfl)) (mvT hZ (w 72 rfl)) (own_selfsel (mvT hZ (w 74 rfl)) (Cond.privateMethod_at (mvP hZ (w 73 rfl) (args := #[]))) (mvT hZ (w 72 rfl)) (by decide)) (Cond.privateMethod_at (mvP hZ (w 73 rfl) (args := #[]))) (mvT hZ (w 75 rfl)) (by decide) (backOf (W := 0) (rm11_1 l Z a0 hw [] r0 (2 : Int32) r7 (16 : Int32) c8 ([vI58, vI0, vI0, vI0, vI0, vI0, vI0, vI0, vI0, vI0, vI0, vI0, vI0, vI0, vI0, vI0]) (0 : Int32) h0 n0 O0 f11 f12 f13 (by decide)) hZ (w 75 rfl) (w 39 rfl) (by decide) (by decide)) (g := (mkF m 21 #[lR r0, lR r1, lV vI1] [vI2, (.ref r0)])) rfl (by rw [hml]; rfl) (Steps.refl _) (a := r0) (by rw [e9]; exact qq15) qq15' (argsL := [vI2]) (rest := []) (lenOf pd__I_V rfl) rfl (own_W rfl) (hb hby d8_21) (fun _ _ => ⟨rfl, e9, (by decide : 0 + 0 ≤ _), (by decide : 0 + 0 ≤ _)⟩))
  obtain ⟨rfl, N14q, E14⟩ := hQ14
  have N14 := Fr.app N7 N14q
  obtain ⟨T16, X16, e16, st16⟩ := getF X14 hx hZ hown (host := "") (Or.inl (w 69 rfl)) Via.refl E14 f8 (g := (mkF m 26 #[lR r0, lR r1, lV vI1] [(.ref r0), (.ref r0)])) rfl rfl (hb hby d8_26)
  obtain ⟨cqq28, qq28, qq28'⟩ := f10.cell
  obtain ⟨_, T27, Lc27, X27, hQ27, st27⟩ := own_fin (X16.privateBack hx (y := mN9) hown (mvT hZ (w 76 rfl)) (mvT hZ (w 77 rfl)) (own_selfsel (mvT hZ (w 79 rfl)) (Cond.privateMethod_at (mvP hZ (w 78 rfl) (args := #[]))) (mvT hZ (w 77 rfl)) (by decide)) (Cond.privateMethod_at (mvP hZ (w 78 rfl) (args := #[]))) (mvT hZ (w 80 rfl)) (by decide) (backOf (W := 0) (rm12_2 l Z a0 hw [] r0 r1 x6 r7 c8 u9 r2 c3 x4 x5 h0 n0 O0 f10 f4 hc5 f13 f1 f6 f11 f12 f8 f17 hc18 f19 f20 f21 l22 g23 f24 n25 f2 f3 n26) hZ (w 80 rfl) (w 39 rfl) (by decide) (by decide)) (g := (mkF m 30 #[lR r0, lR r1, lV vI1] [(.ref r1), vI1, (.ref r0)])) rfl (by rw [hml]; rfl) (Steps.refl _) (a := r0) (by rw [e16]; exact qq28) qq28' (argsL := [vI1, (.ref r1)]) (rest := []) (lenOf pd__ILjava_lang_String__V rfl) rfl (own_W rfl) (hb hby d8_30) (fun _ _ => ⟨rfl, e16, (by decide : 0 + 1 ≤ _), (by decide : 0 + 32 ≤ _)⟩))
  obtain ⟨b27_0, k27_0, rfl, N27q, K27, f29, f30, f31, f32, f33, f34, f35⟩ := hQ27
  have N27 := Fr.app N14 N27q
  obtain ⟨T36, X36, e36, st36⟩ := getF X27 hx hZ hown (host := "") (Or.inl (w 69 rfl)) Via.refl rfl f31 (g := (mkF m 35 #[lR r0, lR r1, lV vI1] [(.ref r0), (.ref r0)])) rfl rfl (hb hby d8_35)
  have f37 := (f10.keep K27)
  obtain ⟨T38, h38, X38, e38, W38, st38⟩ := putF X36 hx hZ hown (host := "") (Or.inl (w 69 rfl)) Via.refl e36 f31 f37 (Or.inl (w 70 rfl)) (w 30 rfl) (ty := .int) (by decide) rfl rfl (g := (mkF m 40 #[lR r0, lR r1, lV vI1] [vI2, (.ref r0)])) rfl rfl (hb hby d8_40)
  have Fw38 := f31.same W38
  have N38 := Fr.snoc X38 N27 g23
  have f39 := (f29.other W38 (Or.inr (slot_ne (Or.inl (w 46 rfl)) (Or.inl (w 70 rfl)) (by decide) (t := .byte) (t' := .int) (by decide) (by decide))))
  have f40 := (f30.other W38 (Or.inr (slot_ne (Or.inl (w 44 rfl)) (Or.inl (w 70 rfl)) (by decide) (t := (.array .byte)) (t' := .int) (by decide) (by decide))))
  have f41 := (f32.other W38 (Or.inr (slot_ne (Or.inl (w 235 rfl)) (Or.inl (w 70 rfl)) (by decide) (t := .boolean) (t' := .int) (by decide) (by decide))))
  have f42 := (f34.wr W38)
  have n43 := Nat.ne_of_lt (Nat.lt_of_lt_of_le l22 f33)
  have f44 := (f35.other W38 (Ne.symm n43))
  have kp45 : Keep h0 T27.heap [r0] := (Keep.refl h0 [r0]).trans K27 (allS (Or.inl (List.mem_of_getElem? (i := 0) rfl)) all0)
  have kp46 : Keep h0 h38 [r0] := kp45.wr W38 (Or.inl (List.mem_of_getElem? (i := 0) rfl))
  refine ⟨some (.ref r0), _, _, _, _, nofun, X38, by decide, by decide, ?_, fun fs hr => ?_⟩
  · rw [e38]; exact ⟨b27_0, k27_0, rfl, N38, kp46, f39, f40, Fw38, f41, f33, f42, f44⟩
  · show SG p e below s₁ (mkF m 0 #[lR r0, lR r1, lU] []) _
    refine qaN X0 hx hby d8_0 ?_
    refine XS.ifnonnullYes X0.here hx rfl (pc0 := 1) (pc' := 9) rfl (hb hby d8_1) rfl (by decide) (by decide) ?_
    refine qaN X0 hx hby d8_9 ?_
    refine st7 _ ?_
    refine XS.istoreN X7.here hx rfl (hb hby d8_13) rfl (l' := #[lR r0, lR r1, lV vI1]) rfl ?_
    refine qaN X7 hx hby d8_14 ?_
    refine qaN X7 hx hby d8_15 ?_
    refine st9 _ ?_
    refine qiN X9 hx hby d8_19 ?_
    refine XS.iadd X9.here hx rfl (hb hby d8_20) rfl ?_
    show SG p e below T9 (mkF m 21 #[lR r0, lR r1, lV vI1] [vI2, (.ref r0)]) _
    refine st14.trans ?_
    refine qaN X14 hx hby d8_24 ?_
    refine qaN X14 hx hby d8_25 ?_
    refine st16 _ ?_
    refine qaN X16 hx hby d8_29 ?_
    refine st27.trans ?_
    refine qaN X27 hx hby d8_33 ?_
    refine qd X27 hx hby d8_34 ?_
    refine st36 _ ?_
    refine qiN X36 hx hby d8_38 ?_
    show SG p e below T36 (mkF m 39 #[lR r0, lR r1, lV vI1] [vI1, vI1, (.ref r0)]) _
    refine XS.iadd X36.here hx rfl (hb hby d8_39) rfl ?_
    refine st38 _ ?_
    refine qaN X38 hx hby d8_43 ?_
    exact retOut X38 hx (i := .areturn) hret rfl (Or.inr (Or.inr (Or.inr (Or.inr ⟨rfl, rfl, rfl⟩)))) (hb hby d8_44) hr
def Q7_2 (Z : State) (r0 r1 r2 : Addr) (c3 : ClassId) (x4 x5 x6 : Int32) (r7 : Addr) (c8 : ClassId) (u9 : Value) (h0 : Heap) (n0 : Nat) (v : Option Value) (h : Heap) (L : List Loc) : Prop := ∃ (b22_0 : Addr) (k22_0 : ClassId), v = some (.ref r0) ∧ Fr n0 L ∧ Keep h0 h [r0] ∧ Fld Z h r0 cs0 "coder" "B" vI1 ∧ Fld Z h r0 cs0 "value" "[B" (.ref b22_0) ∧ Fld Z h r0 cs0 "count" "I" vI2 ∧ Fld Z h r0 cs0 "maybeLatin1" "Z" vI0 ∧ h0.size ≤ b22_0 ∧ Exa Z h b22_0 "[B" ∧ Arv Z h b22_0 k22_0 .byte (32 : Int32) [vI58, vI0, (.int x4), (.int x5), vI0, vI0, vI0, vI0, vI0, vI0, vI0, vI0, vI0, vI0, vI0, vI0, vI0, vI0, vI0, vI0, vI0, vI0, vI0, vI0, vI0, vI0, vI0, vI0, vI0, vI0, vI0, vI0] vI0
theorem rm7_2 (l : Launch) (Z : State) (a0 : Array Value) (hw : own_HW a0 Z) (ws : List Jvm.Cond) (r0 r1 r2 : Addr) (c3 : ClassId) (x4 x5 x6 : Int32) (r7 : Addr) (c8 : ClassId) (u9 : Value) (h0 : Heap) (n0 : Nat) (O0 : Old Z n0 h0) (f1 : Exa Z h0 r1 "java/lang/String") (f2 : Fld Z h0 r1 "java/lang/String" "value" "[B" (.ref r2)) (f3 : Arv Z h0 r2 c3 .byte (2 : Int32) [(.int x4), (.int x5)] vI0) (f4 : Sta Z Z.heap "java/lang/String" "COMPACT_STRINGS" "Z" (.int x6)) (hc5 : ¬ (x6 = (0 : Int32))) (f6 : Fld Z h0 r1 "java/lang/String" "coder" "B" vI1) (f7 : Fld Z h0 r0 cs0 "count" "I" vI1) (f8 : Exa Z h0 r0 "java/lang/StringBuilder") (f9 : Fld Z h0 r0 cs0 "value" "[B" (.ref r7)) (f10 : Arv Z h0 r7 c8 .byte (16 : Int32) [vI58, vI0, vI0, vI0, vI0, vI0, vI0, vI0, vI0, vI0, vI0, vI0, vI0, vI0, vI0, vI0] vI0) (f11 : Fld Z h0 r0 cs0 "coder" "B" vI0) (f12 : Sta Z Z.heap cs7 "SIOOBE_FORMATTER" cs8 u9) (hc13 : u9.isRef = true) (f14 : Sta Z Z.heap "java/lang/StringUTF16" "$assertionsDisabled" "Z" vI1) (f15 : Sta Z Z.heap "java/lang/StringUTF16" "HI_BYTE_SHIFT" "I" vI0) (f16 : Sta Z Z.heap "java/lang/StringUTF16" "LO_BYTE_SHIFT" "I" vI8) (l17 : r0 < h0.size) (g18 : n0 ≤ r0) (f19 : Fld Z h0 r0 cs0 "maybeLatin1" "Z" vI0) (n20 : r1 ≠ r0) (n21 : r2 ≠ r0) :
    own_MF l mN11 jdk_67_method_7_code 2 (some (.object "java/lang/StringBuilder")) ws rR9_1_32_130 Z h0 #[(.ref r0), (.ref r1)] (Q7_2 Z r0 r1 r2 c3 x4 x5 x6 r7 c8 u9 h0 n0) := by
  refine own_open (plainFor_of_name pn_java_lang_StringBuilder) (L0 := #[lR r0, lR r1]) (fun _ => by first | (simp [entryFrame, mkF, argsToLocals, Value.category]; done) | rfl) ?_
  intro p e s m below meth c s₁ hx hby hml hret hnn hZ hown X0 e0
  have N0 := Fr.nil n0; have w := @ww Z a0 hw
  obtain ⟨_, T22, Lc22, X22, hQ22, st22⟩ := own_fin (superBack X0 hx hZ (y := mN10) hown (w 53 rfl) (own_sameOwn (y := mN10) (w 74 rfl) rfl (w 54 rfl) (by decide)) (w 54 rfl) (w 55 rfl) (by decide) (backOf (W := 0) (rm8_2 l Z a0 hw [] r0 r1 r2 c3 x4 x5 x6 r7 c8 u9 h0 n0 O0 f1 f2 f3 f4 hc5 f6 f7 f8 f9 f10 f11 f12 hc13 f14 f15 f16 l17 g18 f19 n20 n21) hZ (w 57 rfl) (w 39 rfl) (by decide) (by decide)) e0 (Ins.self f8) (g := (mkF m 2 #[lR r0, lR r1] [(.ref r1), (.ref r0)])) rfl (by rw [hml]; rfl) (w 57 rfl) (argsL := [(.ref r1)]) (rest := []) (lenOf pd__Ljava_lang_String__Ljava_lang_AbstractStringBuilder_ rfl) rfl (own_W rfl) (hb hby d7_2) (fun _ _ => ⟨rfl, e0, (by decide : 0 + 1 ≤ _), (by decide : 0 + 32 ≤ _)⟩))
  obtain ⟨b22_0, k22_0, rfl, N22q, K22, f23, f24, f25, f26, f27, f28, f29⟩ := hQ22
  have N22 := Fr.app N0 N22q
  have kp30 : Keep h0 T22.heap [r0] := (Keep.refl h0 [r0]).trans K22 (allS (Or.inl (List.mem_of_getElem? (i := 0) rfl)) all0)
  refine ⟨some (.ref r0), _, _, _, _, nofun, X22, by decide, by decide, ?_, fun fs hr => ?_⟩
  · exact ⟨b22_0, k22_0, rfl, N22, kp30, f23, f24, f25, f26, f27, f28, f29⟩
  · show SG p e below s₁ (mkF m 0 #[lR r0, lR r1] []) _
    refine qaN X0 hx hby d7_0 ?_
    refine qaN X0 hx hby d7_1 ?_
    refine st22.trans ?_
    refine XS.pop X22.here hx rfl (hb hby d7_5) rfl rfl ?_
    refine qaN X22 hx hby d7_6 ?_
    exact retOut X22 hx (i := .areturn) hret rfl (Or.inr (Or.inr (Or.inr (Or.inr ⟨rfl, rfl, rfl⟩)))) (hb hby d7_7) hr
theorem d21_17 : DK cB21 17 (.iconst 0) 1 := by decide +kernel
def Q21_2 (Z : State) (r0 : Addr) (x1 x2 : Int32) (h0 : Heap) (n0 : Nat) (v : Option Value) (h : Heap) (L : List Loc) : Prop := v = some vI0 ∧ Fr n0 L ∧ h = h0
theorem rm21_2 (l : Launch) (Z : State) (a0 : Array Value) (hw : own_HW a0 Z) (ws : List Jvm.Cond) (r0 : Addr) (x1 x2 : Int32) (h0 : Heap) (n0 : Nat) (O0 : Old Z n0 h0) (f1 : Sta Z Z.heap "java/lang/String" "COMPACT_STRINGS" "Z" (.int x1)) (hc4 : ¬ (x1 = (0 : Int32))) (f5 : Fld Z h0 r0 cs0 "coder" "B" (.int x2)) (hc7 : ¬ (x2 = (0 : Int32))) :
    own_MF l mN15 jdk_68_method_68_code 1 (some .boolean) ws rR0_0_0_0 Z h0 #[(.ref r0)] (Q21_2 Z r0 x1 x2 h0 n0) := by
  refine own_open (plainFor_of_name pn_java_lang_AbstractStringBuilder) (L0 := #[lR r0]) (fun _ => by first | (simp [entryFrame, mkF, argsToLocals, Value.category]; done) | rfl) ?_
  intro p e s m below meth c s₁ hx hby hml hret hnn hZ hown X0 e0
  have N0 := Fr.nil n0
  have f2 := f1.ext O0.2
  obtain ⟨T3, X3, e3, st3⟩ := getS2 X0 hx hZ hown (host := "") (Or.inl (ww hw 42 rfl)) Via.refl e0 f2 (g := (mkF m 0 #[lR r0] [])) rfl (hb hby d21_0)
  obtain ⟨T6, X6, e6, st6⟩ := getF X3 hx hZ hown (host := "") (Or.inl (ww hw 45 rfl)) Via.refl e3 f5 (g := (mkF m 7 #[lR r0] [(.ref r0)])) rfl rfl (hb hby d21_7)
  refine ⟨some vI0, _, _, _, _, nofun, X6, by decide, by decide, ?_, fun fs hr => ?_⟩
  · rw [e6]; exact ⟨rfl, N0, rfl⟩
  · show SG p e below s₁ (mkF m 0 #[lR r0] []) _
    refine st3 _ ?_
    refine XS.ifNo X3.here hx rfl (hb hby d21_3) rfl ((if0 _ _).trans (feq hc4).1) ?_
    refine qaN X3 hx hby d21_6 ?_
    refine st6 _ ?_
    refine XS.ifYes X6.here hx rfl (pc0 := 10) (pc' := 17) rfl (hb hby d21_10) rfl ((if0 _ _).trans (feq hc7).2) (by decide) (by decide) ?_
    refine qc X6 hx hby d21_17 ?_
    exact retN X6 hx (t := .boolean) hret (by simp) (hb hby d21_18) hr
theorem d17_41 : DK cB17 41 (.getstatic 38) 3 := by decide +kernel
theorem d17_44 : DK cB17 44 (.ifCond .eq 35) 3 := by decide +kernel
theorem d17_47 : DK cB17 47 (.aload_n 1) 1 := by decide +kernel
theorem d17_48 : DK cB17 48 (.getfield 1048) 3 := by decide +kernel
theorem d17_51 : DK cB17 51 (.ifCond .eq 28) 3 := by decide +kernel
theorem d17_79 : DK cB17 79 (.aload_n 0) 1 := by decide +kernel
theorem d17_80 : DK cB17 80 (.iconst 1) 1 := by decide +kernel
theorem d17_81 : DK cB17 81 (.putfield 15) 3 := by decide +kernel
theorem d17_84 : DK cB17 84 (.aload_n 0) 1 := by decide +kernel
theorem d17_85 : DK cB17 85 (.aload_n 3) 1 := by decide +kernel
theorem d17_86 : DK cB17 86 (.iconst 0) 1 := by decide +kernel
theorem d17_87 : DK cB17 87 (.iload 4) 2 := by decide +kernel
theorem d17_89 : DK cB17 89 (.iconst 1) 1 := by decide +kernel
theorem d17_90 : DK cB17 90 (.ishl) 1 := by decide +kernel
theorem d17_91 : DK cB17 91 (.invokestatic 54) 3 := by decide +kernel
theorem d17_94 : DK cB17 94 (.putfield 9) 3 := by decide +kernel
def Q17_2 (Z : State) (r0 r1 r2 : Addr) (x3 x4 : Int32) (x5 x6 : Int32) (x7 x8 : Int32) (c9 : ClassId) (t10 : List Value) (h0 : Heap) (n0 : Nat) (v : Option Value) (h : Heap) (L : List Loc) : Prop := ∃ (b32_0 : Addr) (k32_0 : ClassId), v = none ∧ Fr n0 L ∧ Keep h0 h [r0] ∧ Fld Z h r0 "java/lang/String" "coder" "B" vI1 ∧ Fld Z h r0 "java/lang/String" "value" "[B" (.ref b32_0) ∧ h0.size ≤ b32_0 ∧ Arv Z h b32_0 k32_0 .byte ((x3 <<< ((1 : Int32) &&& 31)) - (0 : Int32)) t10 vI0 ∧ Exa Z h b32_0 "[B"
theorem rm17_2 (l : Launch) (Z : State) (a0 : Array Value) (hw : own_HW a0 Z) (ws : List Jvm.Cond) (r0 r1 r2 : Addr) (x3 x4 : Int32) (x5 x6 : Int32) (x7 x8 : Int32) (c9 : ClassId) (t10 : List Value) (h0 : Heap) (n0 : Nat) (O0 : Old Z n0 h0) (f2 : Exa Z h0 r1 "java/lang/StringBuilder") (f3 : Fld Z h0 r1 cs0 "value" "[B" (.ref r2)) (f5 : Fld Z h0 r1 cs0 "count" "I" (.int x3)) (f8 : Sta Z Z.heap "java/lang/String" "COMPACT_STRINGS" "Z" (.int x4)) (hc9 : ¬ (x4 = (0 : Int32))) (f10 : Fld Z h0 r1 cs0 "coder" "B" (.int x5)) (hc11 : ¬ (x5 = (0 : Int32))) (f15 : Fld Z h0 r1 cs0 "maybeLatin1" "Z" (.int x6)) (hc17 : x6 = (0 : Int32)) (f18 : Exa Z h0 r0 "java/lang/String") (f19 : Fld Z h0 r0 "java/lang/String" "coder" "B" (.int x7)) (g20 : n0 ≤ r0) (f22 : Arv Z h0 r2 c9 .byte x8 t10 vI0) (n23 : r2 ≠ r0) (hc25 : ¬ ((x3 <<< ((1 : Int32) &&& 31)) = x8)) (hc26 : ¬ ((x3 <<< ((1 : Int32) &&& 31)) < (0 : Int32))) (hc27 : ¬ (((x3 <<< ((1 : Int32) &&& 31)) - (0 : Int32)) < 0)) (hc28 : (((x3 <<< ((1 : Int32) &&& 31)) - (0 : Int32))).toNatClampNeg ≤ 16) (hc29 : ((x3 <<< ((1 : Int32) &&& 31)) - (0 : Int32)) < (x8 - (0 : Int32))) (hc30 : (((x3 <<< ((1 : Int32) &&& 31)) - (0 : Int32))).toNatClampNeg ≤ (x8).toNatClampNeg) (f37 : Fld Z h0 r0 "java/lang/String" "value" "[B" .null) (l42 : r0 < h0.size) :
    own_MF l mN20 jdk_42_method_150_code 5 none ws rR3_1_16_55 Z h0 #[(.ref r0), (.ref r1), .null] (Q17_2 Z r0 r1 r2 x3 x4 x5 x6 x7 x8 c9 t10 h0 n0) := by
  refine own_open (plainFor_of_name pn_java_lang_String) (L0 := #[lR r0, lR r1, .val .null, lU, lU]) (fun _ => by first | (simp [entryFrame, mkF, argsToLocals, Value.category]; done) | rfl) ?_
  intro p e s m below meth c s₁ hx hby hml hret hnn hZ hown X0 e0
  have N0 := Fr.nil n0; have w := @ww Z a0 hw
  have hnm := (name_of_methodNamed hnn.1 hnn.2).1
  obtain ⟨T1, X1, e1, st1⟩ := initO X0 hx hZ hown (w 12 rfl) (w 13 rfl) (w 14 rfl) e0 (g := (mkF m 1 #[lR r0, lR r1, .val .null, lU, lU] [(.ref r0)])) rfl (by rw [hml]; rfl) rfl (hb hby d17_1) (by decide) (W := 0) (own_W rfl) (by decide)
  obtain ⟨_, T4, Lc4, X4, hQ4, st4⟩ := own_cV X1 hx hZ hown e1 (rm18_1 l Z a0 hw [] r1 r2 h0 n0 O0 f3) f2 (w 108 rfl) (w 109 rfl) (w 111 rfl) (w 110 rfl) (w 112 rfl) (w 39 rfl) (by decide) (W := 0) (by decide) (by decide) (by decide) (by decide) (g := (mkF m 5 #[lR r0, lR r1, .val .null, lU, lU] [(.ref r1)])) rfl (by rw [hml]; rfl) (argsL := []) (rest := []) (lenOf pd____B rfl) rfl (own_W rfl) (hb hby d17_5)
  obtain ⟨rfl, N4q, E4⟩ := hQ4
  have N4 := Fr.app N0 N4q
  obtain ⟨cqq7, kqq7, qq7a, qq7b, qq7c⟩ := isOf hZ E4 f2
  obtain ⟨_, T6, Lc6, X6, hQ6, st6⟩ := own_fin (X4.virtualBack hx (y := mN13) (z := mN14) hown (mvT hZ (w 113 rfl)) (mvT hZ (w 114 rfl)) (own_nfSel (args := #[]) (mvT hZ (w 74 rfl)) rfl) (mvT hZ (w 116 rfl)) (mvT hZ (w 117 rfl)) (by decide) (backOf (W := 0) (rm19_1 l Z a0 hw [] r1 x3 h0 n0 O0 f5 f2) hZ (w 118 rfl) (w 31 rfl) (by decide) (by decide)) qq7a qq7c (g := (mkF m 10 #[lR r0, lR r1, .val .null, lR r2, lU] [(.ref r1)])) rfl (by rw [hml]; rfl) (Steps.refl _) (argsL := []) (rest := []) (lenOf pd___I rfl) rfl (own_W rfl) (hb hby d17_10) (fun _ _ => ⟨rfl, E4, (by decide : 0 + 0 ≤ _), (by decide : 0 + 0 ≤ _)⟩))
  obtain ⟨rfl, N6q, E6⟩ := hQ6
  have N6 := Fr.app N4 N6q
  obtain ⟨_, T12, Lc12, X12, hQ12, st12⟩ := own_cV X6 hx hZ hown E6 (rm21_2 l Z a0 hw [] r1 x4 x5 h0 n0 O0 f8 hc9 f10 hc11) f2 (w 121 rfl) (w 122 rfl) (w 124 rfl) (w 123 rfl) (w 125 rfl) (w 39 rfl) (by decide) (W := 0) (by decide) (by decide) (by decide) (by decide) (g := (mkF m 16 #[lR r0, lR r1, .val .null, lR r2, lI x3] [(.ref r1)])) rfl (by rw [hml]; rfl) (argsL := []) (rest := []) (lenOf pd___Z rfl) rfl (own_W rfl) (hb hby d17_16)
  obtain ⟨rfl, N12q, E12⟩ := hQ12
  have N12 := Fr.app N6 N12q
  have f13 := f8.ext O0.2
  obtain ⟨T14, X14, e14, st14⟩ := getS2 X12 hx hZ hown (host := "") (Or.inl (w 68 rfl)) Via.refl E12 f13 (g := (mkF m 41 #[lR r0, lR r1, .val .null, lR r2, lI x3] [])) rfl (hb hby d17_41)
  obtain ⟨T16, X16, e16, st16⟩ := getF X14 hx hZ hown (host := "") (Or.inl (w 234 rfl)) Via.refl e14 f15 (g := (mkF m 48 #[lR r0, lR r1, .val .null, lR r2, lI x3] [(.ref r1)])) rfl rfl (hb hby d17_48)
  obtain ⟨T21, h21, X21, e21, W21, st21⟩ := putFN X16 hx hZ hown (w 22 rfl) Via.refl e16 f19 f18 (Or.inr ⟨(w 18 rfl), rfl, hnm⟩) (w 3 rfl) (ty := .byte) (v' := vI1) (by decide) rfl (by decide) (g := (mkF m 81 #[lR r0, lR r1, .val .null, lR r2, lI x3] [vI1, (.ref r0)])) rfl rfl (hb hby d17_81)
  have Fw21 := f19.same W21
  have N21 := Fr.snoc X21 N12 g20
  have f24 := (f22.other W21 n23)
  have o31 := Old.wr O0 W21 g20
  obtain ⟨_, T32, Lc32, X32, hQ32, st32⟩ := own_cS X21 hx hZ hown e21 (rm22_1 l Z a0 hw [] r2 (x3 <<< ((1 : Int32) &&& 31)) x8 c9 t10 h21 n0 o31 f24 hc25 hc26 hc27 hc28 hc29 hc30) (w 126 rfl) (w 127 rfl) (w 128 rfl) (w 129 rfl) (by decide) (W := 1) (by decide) (by decide) (by decide) (by decide) (g := (mkF m 91 #[lR r0, lR r1, .val .null, lR r2, lI x3] [(.int (x3 <<< ((1 : Int32) &&& 31))), vI0, (.ref r2), (.ref r0)])) rfl (by rw [hml]; rfl) (argsL := [(.ref r2), vI0, (.int (x3 <<< ((1 : Int32) &&& 31)))]) (rest := [(.ref r0)]) (lenOf pd___BII__B rfl) rfl (own_W rfl) (hb hby d17_91)
  obtain ⟨b32_0, k32_0, rfl, N32q, K32, f33, f34, f35⟩ := hQ32
  have N32 := Fr.app N21 N32q
  have f36 := ((f18.wr W21).keep K32)
  have f38 := ((f37.other W21 (Or.inr (slot_ne (Or.inr (w 17 rfl)) (Or.inr (w 18 rfl)) (by decide) (t := (.array .byte)) (t' := .byte) (by decide) (by decide)))).keep K32 nin0)
  obtain ⟨T39, h39, X39, e39, W39, st39⟩ := putF X32 hx hZ hown (host := "") (Or.inl (w 21 rfl)) Via.refl rfl f38 f36 (Or.inr ⟨(w 17 rfl), rfl, hnm⟩) (w 3 rfl) (ty := (.array .byte)) (by decide) rfl rfl (g := (mkF m 94 #[lR r0, lR r1, .val .null, lR r2, lI x3] [(.ref b32_0), (.ref r0)])) rfl rfl (hb hby d17_94)
  have Fw39 := f38.same W39
  have N39 := Fr.snoc X39 N32 g20
  have f40 := ((Fw21.keep K32 nin0).other W39 (Or.inr (slot_ne (Or.inr (w 18 rfl)) (Or.inr (w 17 rfl)) (by decide) (t := .byte) (t' := (.array .byte)) (by decide) (by decide))))
  have zs41 := (Nat.le_of_eq W21.size.symm)
  have n43 := Nat.ne_of_lt (Nat.lt_of_lt_of_le (Nat.lt_of_lt_of_le l42 zs41) f33)
  have f44 := (f34.other W39 (Ne.symm n43))
  have f45 := (f35.wr W39)
  have kp46 : Keep h0 h21 [r0] := (Keep.refl h0 [r0]).wr W21 (Or.inl (List.mem_of_getElem? (i := 0) rfl))
  have kp47 : Keep h0 T32.heap [r0] := kp46.trans K32 all0
  have kp48 : Keep h0 h39 [r0] := kp47.wr W39 (Or.inl (List.mem_of_getElem? (i := 0) rfl))
  refine ⟨none, _, _, _, _, (fun _ => rfl), X39, by decide, by decide, ?_, fun fs hr => ?_⟩
  · rw [e39]; exact ⟨b32_0, k32_0, rfl, N39, kp48, f40, Fw39, (Nat.le_trans zs41 f33), f44, f45⟩
  · show SG p e below s₁ (mkF m 0 #[lR r0, lR r1, .val .null, lU, lU] []) _
    refine qaN X0 hx hby d17_0 ?_
    refine st1 _ ?_
    refine qaN X1 hx hby d17_4 ?_
    refine st4 _ ?_
    refine XS.astoreN X4.here hx rfl (hb hby d17_8) rfl rfl (l' := #[lR r0, lR r1, .val .null, lR r2, lU]) rfl ?_
    refine qaN X4 hx hby d17_9 ?_
    refine st6.trans ?_
    refine XS.istore X6.here hx rfl (hb hby d17_13) rfl (l' := #[lR r0, lR r1, .val .null, lR r2, lI x3]) rfl ?_
    refine qaN X6 hx hby d17_15 ?_
    refine st12 _ ?_
    show SG p e below T12 (mkF m 19 #[lR r0, lR r1, .val .null, lR r2, lI x3] [vI0]) _
    refine XS.ifYes X12.here hx rfl (pc0 := 19) (pc' := 41) rfl (hb hby d17_19) rfl ((if0 _ _).trans (teq (rfl : (0 : Int32) = (0 : Int32))).1) (by decide) (by decide) ?_
    refine st14 _ ?_
    refine XS.ifNo X14.here hx rfl (hb hby d17_44) rfl ((if0 _ _).trans (feq hc9).1) ?_
    refine qaN X14 hx hby d17_47 ?_
    refine st16 _ ?_
    refine XS.ifYes X16.here hx rfl (pc0 := 51) (pc' := 79) rfl (hb hby d17_51) rfl ((if0 _ _).trans (teq hc17).1) (by decide) (by decide) ?_
    refine qaN X16 hx hby d17_79 ?_
    refine qc X16 hx hby d17_80 ?_
    refine st21 _ ?_
    refine qaN X21 hx hby d17_84 ?_
    show SG p e below T21 (mkF m 85 #[lR r0, lR r1, .val .null, lR r2, lI x3] [(.ref r0)]) _
    refine qaN X21 hx hby d17_85 ?_
    refine qc X21 hx hby d17_86 ?_
    refine qi X21 hx hby d17_87 ?_
    refine qc X21 hx hby d17_89 ?_
    refine XS.ishl X21.here hx rfl (hb hby d17_90) rfl ?_
    refine st32 _ ?_
    refine st39 _ ?_
    exact X39.returnOut hx hret (hb hby d17_97) hr
def Q16_2 (Z : State) (r0 r1 r2 : Addr) (x3 x4 : Int32) (x5 x6 : Int32) (x7 x8 : Int32) (c9 : ClassId) (t10 : List Value) (h0 : Heap) (n0 : Nat) (v : Option Value) (h : Heap) (L : List Loc) : Prop := ∃ (b23_0 : Addr) (k23_0 : ClassId), v = none ∧ Fr n0 L ∧ Keep h0 h [r0] ∧ Fld Z h r0 "java/lang/String" "coder" "B" vI1 ∧ Fld Z h r0 "java/lang/String" "value" "[B" (.ref b23_0) ∧ h0.size ≤ b23_0 ∧ Arv Z h b23_0 k23_0 .byte ((x3 <<< ((1 : Int32) &&& 31)) - (0 : Int32)) t10 vI0 ∧ Exa Z h b23_0 "[B"
theorem rm16_2 (l : Launch) (Z : State) (a0 : Array Value) (hw : own_HW a0 Z) (ws : List Jvm.Cond) (r0 r1 r2 : Addr) (x3 x4 : Int32) (x5 x6 : Int32) (x7 x8 : Int32) (c9 : ClassId) (t10 : List Value) (h0 : Heap) (n0 : Nat) (O0 : Old Z n0 h0) (f1 : Exa Z h0 r1 "java/lang/StringBuilder") (f2 : Fld Z h0 r1 cs0 "value" "[B" (.ref r2)) (f3 : Fld Z h0 r1 cs0 "count" "I" (.int x3)) (f4 : Sta Z Z.heap "java/lang/String" "COMPACT_STRINGS" "Z" (.int x4)) (hc5 : ¬ (x4 = (0 : Int32))) (f6 : Fld Z h0 r1 cs0 "coder" "B" (.int x5)) (hc7 : ¬ (x5 = (0 : Int32))) (f8 : Fld Z h0 r1 cs0 "maybeLatin1" "Z" (.int x6)) (hc9 : x6 = (0 : Int32)) (f10 : Exa Z h0 r0 "java/lang/String") (f11 : Fld Z h0 r0 "java/lang/String" "coder" "B" (.int x7)) (g12 : n0 ≤ r0) (f13 : Arv Z h0 r2 c9 .byte x8 t10 vI0) (n14 : r2 ≠ r0) (hc15 : ¬ ((x3 <<< ((1 : Int32) &&& 31)) = x8)) (hc16 : ¬ ((x3 <<< ((1 : Int32) &&& 31)) < (0 : Int32))) (hc17 : ¬ (((x3 <<< ((1 : Int32) &&& 31)) - (0 : Int32)) < 0)) (hc18 : (((x3 <<< ((1 : Int32) &&& 31)) - (0 : Int32))).toNatClampNeg ≤ 16) (hc19 : ((x3 <<< ((1 : Int32) &&& 31)) - (0 : Int32)) < (x8 - (0 : Int32))) (hc20 : (((x3 <<< ((1 : Int32) &&& 31)) - (0 : Int32))).toNatClampNeg ≤ (x8).toNatClampNeg) (f21 : Fld Z h0 r0 "java/lang/String" "value" "[B" .null) (l22 : r0 < h0.size) :
    own_MF l mN21 jdk_42_method_53_code 2 none ws rR4_1_16_71 Z h0 #[(.ref r0), (.ref r1)] (Q16_2 Z r0 r1 r2 x3 x4 x5 x6 x7 x8 c9 t10 h0 n0) := by
  refine own_open (plainFor_of_name pn_java_lang_String) (L0 := #[lR r0, lR r1]) (fun _ => by first | (simp [entryFrame, mkF, argsToLocals, Value.category]; done) | rfl) ?_
  intro p e s m below meth c s₁ hx hby hml hret hnn hZ hown X0 e0
  have N0 := Fr.nil n0; have w := @ww Z a0 hw
  obtain ⟨_, T23, Lc23, X23, hQ23, st23⟩ := own_fin (X0.specialBack hx (y := mN20) rfl hown (mvT hZ (w 105 rfl)) (mvT hZ (w 106 rfl)) (mvT hZ (w 107 rfl)) (by decide) (backOf (W := 0) (rm17_2 l Z a0 hw [] r0 r1 r2 x3 x4 x5 x6 x7 x8 c9 t10 h0 n0 O0 f1 f2 f3 f4 hc5 f6 hc7 f8 hc9 f10 f11 g12 f13 n14 hc15 hc16 hc17 hc18 hc19 hc20 f21 l22) hZ (w 107 rfl) (w 4 rfl) (by decide) (by decide)) (g := (mkF m 3 #[lR r0, lR r1] [.null, (.ref r1), (.ref r0)])) rfl (by rw [hml]; rfl) (Steps.refl _) (a := r0) (argsL := [(.ref r1), .null]) (rest := []) (lenOf pd__Ljava_lang_AbstractStringBuilder_Ljava_lang_Void__V rfl) rfl (own_W rfl) (hb hby d16_3) (fun _ _ => ⟨rfl, e0, (by decide : 0 + 1 ≤ _), (by decide : 0 + 16 ≤ _)⟩))
  obtain ⟨b23_0, k23_0, rfl, N23q, K23, f24, f25, f26, f27, f28⟩ := hQ23
  have N23 := Fr.app N0 N23q
  have kp29 : Keep h0 T23.heap [r0] := (Keep.refl h0 [r0]).trans K23 (allS (Or.inl (List.mem_of_getElem? (i := 0) rfl)) all0)
  refine ⟨none, _, _, _, _, (fun _ => rfl), X23, by decide, by decide, ?_, fun fs hr => ?_⟩
  · exact ⟨b23_0, k23_0, rfl, N23, kp29, f24, f25, f26, f27, f28⟩
  · show SG p e below s₁ (mkF m 0 #[lR r0, lR r1] []) _
    refine qaN X0 hx hby d16_0 ?_
    refine qaN X0 hx hby d16_1 ?_
    refine XS.aconstNull X0.here hx rfl (hb hby d16_2) ?_
    refine st23.trans ?_
    exact X23.returnOut hx hret (hb hby d16_6) hr
def Q15_2 (Z : State) (r0 r1 : Addr) (x2 x3 : Int32) (x4 x5 x6 : Int32) (c7 : ClassId) (t8 : List Value) (h0 : Heap) (n0 : Nat) (v : Option Value) (h : Heap) (L : List Loc) : Prop := ∃ (b1 b31_0 : Addr) (k31_0 : ClassId), v = some (.ref b1) ∧ Fr n0 L ∧ Keep h0 h [] ∧ h0.size ≤ b1 ∧ Exa Z h b1 "java/lang/String" ∧ Fld Z h b1 "java/lang/String" "coder" "B" vI1 ∧ Fld Z h b1 "java/lang/String" "value" "[B" (.ref b31_0) ∧ h0.size ≤ b31_0 ∧ Arv Z h b31_0 k31_0 .byte ((x2 <<< ((1 : Int32) &&& 31)) - (0 : Int32)) t8 vI0 ∧ Exa Z h b31_0 "[B" ∧ b1 ≠ b31_0
theorem rm15_2 (l : Launch) (Z : State) (a0 : Array Value) (hw : own_HW a0 Z) (ws : List Jvm.Cond) (r0 r1 : Addr) (x2 x3 : Int32) (x4 x5 x6 : Int32) (c7 : ClassId) (t8 : List Value) (h0 : Heap) (n0 : Nat) (O0 : Old Z n0 h0) (f4 : Exa Z h0 r0 "java/lang/StringBuilder") (f6 : Fld Z h0 r0 cs0 "value" "[B" (.ref r1)) (f8 : Fld Z h0 r0 cs0 "count" "I" (.int x2)) (f10 : Sta Z Z.heap "java/lang/String" "COMPACT_STRINGS" "Z" (.int x3)) (hc11 : ¬ (x3 = (0 : Int32))) (f12 : Fld Z h0 r0 cs0 "coder" "B" (.int x4)) (hc14 : ¬ (x4 = (0 : Int32))) (f15 : Fld Z h0 r0 cs0 "maybeLatin1" "Z" (.int x5)) (hc17 : x5 = (0 : Int32)) (f20 : Arv Z h0 r1 c7 .byte x6 t8 vI0) (l22 : r1 < h0.size) (hc24 : ¬ ((x2 <<< ((1 : Int32) &&& 31)) = x6)) (hc25 : ¬ ((x2 <<< ((1 : Int32) &&& 31)) < (0 : Int32))) (hc26 : ¬ (((x2 <<< ((1 : Int32) &&& 31)) - (0 : Int32)) < 0)) (hc27 : (((x2 <<< ((1 : Int32) &&& 31)) - (0 : Int32))).toNatClampNeg ≤ 16) (hc28 : ((x2 <<< ((1 : Int32) &&& 31)) - (0 : Int32)) < (x6 - (0 : Int32))) (hc29 : (((x2 <<< ((1 : Int32) &&& 31)) - (0 : Int32))).toNatClampNeg ≤ (x6).toNatClampNeg) :
    own_MF l mN22 jdk_67_method_42_code 1 (some (.object "java/lang/String")) ws rR5_2_20_85 Z h0 #[(.ref r0)] (Q15_2 Z r0 r1 x2 x3 x4 x5 x6 c7 t8 h0 n0) := by
  refine own_open (plainFor_of_name pn_java_lang_StringBuilder) (L0 := #[lR r0]) (fun _ => by first | (simp [entryFrame, mkF, argsToLocals, Value.category]; done) | rfl) ?_
  intro p e s m below meth c s₁ hx hby hml hret hnn hZ hown X0 e0
  have N0 := Fr.nil n0; have w := @ww Z a0 hw
  obtain ⟨T1, h1, X1, e1, E1, A1, D1, -, st1⟩ := newO X0 hx hZ hown (w 101 rfl) (w 3 rfl) (w 4 rfl) e0 (g := (mkF m 0 #[lR r0] [])) rfl (hb hby d15_0) (by decide) (by decide)
  obtain ⟨b1, g1⟩ : ∃ z, z = h0.size := ⟨_, rfl⟩
  rw [← g1] at A1 D1 st1
  have f2 : Fld Z h1 b1 "java/lang/String" "value" "[B" .null := D1 (Or.inr (w 17 rfl)) (ty := (.array .byte)) (by decide)
  have f3 : Fld Z h1 b1 "java/lang/String" "coder" "B" vI0 := D1 (Or.inr (w 18 rfl)) (ty := .byte) (by decide)
  have f5 := (f4.ext E1)
  have f7 := (f6.ext E1)
  have f9 := (f8.ext E1)
  have f13 := (f12.ext E1)
  have f16 := (f15.ext E1)
  have zz18 : n0 ≤ h0.size := by rw [← O0.1]; exact O0.2.1
  have g19 := Nat.le_trans zz18 (Nat.le_of_eq g1.symm)
  have f21 := (f20.ext E1)
  have n23 := Nat.ne_of_lt (Nat.lt_of_lt_of_le l22 (Nat.le_of_eq g1.symm))
  have o30 := Old.ext O0 E1
  obtain ⟨_, T31, Lc31, X31, hQ31, st31⟩ := own_fin (X1.specialBack hx (y := mN21) rfl hown (mvT hZ (w 102 rfl)) (mvT hZ (w 103 rfl)) (mvT hZ (w 104 rfl)) (by decide) (backOf (W := 1) (rm16_2 l Z a0 hw [] b1 r0 r1 x2 x3 x4 x5 (0 : Int32) x6 c7 t8 h1 n0 o30 f5 f7 f9 f10 hc11 f13 hc14 f16 hc17 A1 f3 g19 f21 n23 hc24 hc25 hc26 hc27 hc28 hc29 f2 A1.lt) hZ (w 104 rfl) (w 4 rfl) (by decide) (by decide)) (g := (mkF m 5 #[lR r0] [(.ref r0), (.ref b1), (.ref b1)])) rfl (by rw [hml]; rfl) (Steps.refl _) (a := b1) (argsL := [(.ref r0)]) (rest := [(.ref b1)]) (lenOf pd__Ljava_lang_StringBuilder__V rfl) rfl (own_W rfl) (hb hby d15_5) (fun _ _ => ⟨rfl, e1, (by decide : 1 + 1 ≤ _), (by decide : 4 + 16 ≤ _)⟩))
  obtain ⟨b31_0, k31_0, rfl, N31q, K31, f32, f33, f34, f35, f36⟩ := hQ31
  have N31 := Fr.app N0 N31q
  have f37 := (A1.keep K31)
  have zs38 := E1.1
  have n39 := Nat.ne_of_lt (Nat.lt_of_lt_of_le A1.lt f34)
  have kp40 : Keep h0 h1 [] := (Keep.refl h0 []).ext E1
  have kp41 : Keep h0 T31.heap [] := kp40.trans K31 (allS (Or.inr (Nat.le_of_eq g1.symm)) all0)
  refine ⟨some (.ref b1), _, _, _, _, nofun, X31, by decide, by decide, ?_, fun fs hr => ?_⟩
  · exact ⟨b1, b31_0, k31_0, rfl, N31, kp41, (Nat.le_of_eq g1.symm), f37, f32, f33, (Nat.le_trans zs38 f34), f35, f36, n39⟩
  · show SG p e below s₁ (mkF m 0 #[lR r0] []) _
    refine st1 _ ?_
    refine qd X1 hx hby d15_3 ?_
    refine qaN X1 hx hby d15_4 ?_
    refine st31.trans ?_
    exact retOut X31 hx (i := .areturn) hret rfl (Or.inr (Or.inr (Or.inr (Or.inr ⟨rfl, rfl, rfl⟩)))) (hb hby d15_8) hr
def Q4_2 (Z : State) (r0 : Addr) (x1 : Int32) (r2 : Addr) (c3 : ClassId) (x4 x5 : Int32) (u6 : Value) (h0 : Heap) (n0 : Nat) (v : Option Value) (h : Heap) (L : List Loc) : Prop := ∃ (b1 b93_0 b93_1 : Addr) (k93_0 : ClassId), v = some (.ref b1) ∧ Fr n0 L ∧ Keep h0 h [] ∧ h0.size ≤ b1 ∧ Exa Z h b1 cs5 ∧ Fld Z h b1 cs5 "name" "Ljava/lang/String;" (.ref b93_0) ∧ h0.size ≤ b93_0 ∧ Exa Z h b93_0 "java/lang/String" ∧ Fld Z h b93_0 "java/lang/String" "coder" "B" vI1 ∧ Fld Z h b93_0 "java/lang/String" "value" "[B" (.ref b93_1) ∧ h0.size ≤ b93_1 ∧ Arv Z h b93_1 k93_0 .byte (4 : Int32) [vI58, vI0, (.int x4), (.int x5)] vI0 ∧ Exa Z h b93_1 "[B" ∧ b1 ≠ b93_0 ∧ b1 ≠ b93_1 ∧ b93_0 ≠ b93_1
theorem rm4_2 (l : Launch) (Z : State) (a0 : Array Value) (hw : own_HW a0 Z) (ws : List Jvm.Cond) (r0 : Addr) (x1 : Int32) (r2 : Addr) (c3 : ClassId) (x4 x5 : Int32) (u6 : Value) (h0 : Heap) (n0 : Nat) (O0 : Old Z n0 h0) (f12 : Sta Z Z.heap "java/lang/String" "COMPACT_STRINGS" "Z" (.int x1)) (hc13 : ¬ (x1 = (0 : Int32))) (f55 : Exa Z h0 r0 "java/lang/String") (f57 : Fld Z h0 r0 "java/lang/String" "value" "[B" (.ref r2)) (l58 : r0 < h0.size) (f64 : Arv Z h0 r2 c3 .byte (2 : Int32) [(.int x4), (.int x5)] vI0) (l65 : r2 < h0.size) (f69 : Fld Z h0 r0 "java/lang/String" "coder" "B" vI1) (f72 : Sta Z Z.heap cs7 "SIOOBE_FORMATTER" cs8 u6) (hc73 : u6.isRef = true) (f74 : Sta Z Z.heap "java/lang/StringUTF16" "$assertionsDisabled" "Z" vI1) (f75 : Sta Z Z.heap "java/lang/StringUTF16" "HI_BYTE_SHIFT" "I" vI0) (f76 : Sta Z Z.heap "java/lang/StringUTF16" "LO_BYTE_SHIFT" "I" vI8) :
    own_MH l mN25 prog_22_method_2_code 1 (some (.object cs5)) ws rR10_8_81_145 Z h0 #[(.ref r0)] (Q4_2 Z r0 x1 r2 c3 x4 x5 u6 h0 n0) := by
  have hEL : EW Z a0 consts_1 := own_EW hw
  refine own_openH hEL (plainFor_of_name pn_com_example_manojo_manojo_QueryTree_Parameter) (L0 := #[lR r0]) (fun _ => by first | (simp [entryFrame, mkF, argsToLocals, Value.category]; done) | rfl) ?_
  intro p e s m below meth c s₁ hx hby hml hret hnn hZ hown X0 e0 R0
  have N0 := Fr.nil n0; have w := @ww Z a0 hw
  obtain ⟨T1, h1, X1, e1, E1, A1, D1, -, st1⟩ := newO X0 hx hZ hown (w 27 rfl) (w 28 rfl) (w 25 rfl) e0 (g := (mkF m 0 #[lR r0] [])) rfl (hb hby d4_0) (by decide) (by decide)
  obtain ⟨b1, g1⟩ : ∃ z, z = h0.size := ⟨_, rfl⟩
  have sf2 : Safe Z consts_1 s.vm h0 b1 := Safe.new (Nat.le_of_eq g1.symm)
  rw [← g1] at A1 D1 st1
  have R3 := CHr.trans R0 (CHr.ext E1 R0.1)
  have f4 : Fld Z h1 b1 cs5 "name" "Ljava/lang/String;" .null := D1 (Or.inr (w 151 rfl)) (ty := (.object "java/lang/String")) (by decide)
  obtain ⟨T5, h5, X5, e5, E5, A5, D5, -, st5⟩ := newO X1 hx hZ hown (w 29 rfl) (w 30 rfl) (w 31 rfl) e1 (g := (mkF m 4 #[lR r0] [(.ref b1), (.ref b1)])) rfl (hb hby d4_4) (by decide) (by decide)
  obtain ⟨b5, g5⟩ : ∃ z, z = h1.size := ⟨_, rfl⟩
  have sf6 : Safe Z consts_1 s.vm h1 b5 := Safe.new (Nat.le_of_eq g5.symm)
  rw [← g5] at A5 D5 st5
  have R7 := CHr.trans R3 (CHr.ext E5 R3.1)
  have f8 : Fld Z h5 b5 cs0 "value" "[B" .null := D5 (Or.inl (w 44 rfl)) (ty := (.array .byte)) (by decide)
  have f9 : Fld Z h5 b5 cs0 "coder" "B" vI0 := D5 (Or.inl (w 46 rfl)) (ty := .byte) (by decide)
  have f10 : Fld Z h5 b5 cs0 "count" "I" vI0 := D5 (Or.inl (w 70 rfl)) (ty := .int) (by decide)
  have f11 : Fld Z h5 b5 cs0 "maybeLatin1" "Z" vI0 := D5 (Or.inl (w 235 rfl)) (ty := .boolean) (by decide)
  have o15 := Old.ext O0 E1
  have zz14 : n0 ≤ h1.size := by rw [← o15.1]; exact o15.2.1
  have g16 := Nat.le_trans zz14 (Nat.le_of_eq g5.symm)
  have o17 := Old.ext o15 E5
  obtain ⟨_, T18, Lc18, X18, hQ18, st18⟩ := own_fin (X5.specialBack hx (y := mN3) rfl hown (mvT hZ (w 32 rfl)) (mvT hZ (w 33 rfl)) (mvT hZ (w 34 rfl)) (by decide) (backOf (W := 3) (rm5_1 l Z a0 hw [] b5 x1 h5 n0 o17 f12 hc13 A5 f8 g16 f9 f10 f11 A5.lt) hZ (w 34 rfl) (w 31 rfl) (by decide) (by decide)) (g := (mkF m 8 #[lR r0] [(.ref b5), (.ref b5), (.ref b1), (.ref b1)])) rfl (by rw [hml]; rfl) (Steps.refl _) (a := b5) (argsL := []) (rest := [(.ref b5), (.ref b1), (.ref b1)]) (lenOf pd___V rfl) rfl (own_W rfl) (hb hby d4_8) (fun _ _ => ⟨rfl, e5, (by decide : 2 + 1 ≤ _), (by decide : 5 + 16 ≤ _)⟩))
  obtain ⟨b18_0, k18_0, rfl, N18q, K18, f19, f20, f21, f22, f23, f24, f25⟩ := hQ18
  have N18 := Fr.app N0 N18q
  have R26 := CHr.trans R7 (CHr.keep K18 (sfS (Safe.exa hZ.alike A5 (by decide) (by decide)) sf0) R7.1)
  have sf27 : Safe Z consts_1 s.vm h5 b18_0 := Safe.new f23
  have hS28 := (State.WarmedH.refl s).since 0
  have hstr : ∀ a ∈ Bundle.stringAtoms, a.before a0 Z = true := fun a q => hw a (own_str a q)
  obtain ⟨a29, T29, h29, kk29, b29, k29, X29, e29, E29, hS29, hk29, hZ29, ho29, EE29, C29, F29, V29, l29, m29, CR29, -, ne29, st29⟩ := ldcCH (s := s) (vm0 := s.vm) X18 hx hZ hown (w 47 rfl) hstr rfl hS28 (Nat.zero_le _) hEL (by simp [consts_1]) R26.1 (vs := [vI58]) (z := (1 : Int32)) ⟨by decide, by decide⟩ (by decide) rfl (g := (mkF m 11 #[lR r0] [(.ref b5), (.ref b1), (.ref b1)])) rfl (hb hby d4_11) (n := 4) (by decide) (by decide) (by decide) (by decide)
  have R30 := CHr.trans R26 CR29
  have f31 := (((A1.ext E5).keep K18).ext E29)
  have nl32 := ne29 _ (Safe.exa hZ29.alike f31 (by decide) (by decide))
  have f33 := ((A5.keep K18).ext E29)
  have nl34 := ne29 _ (Safe.exa hZ29.alike f33 (by decide) (by decide))
  have sf35 := (CHr.safe CR29 f24.lt (Safe.keep K18 (sfS (Safe.exa hZ.alike A5 (by decide) (by decide)) sf0) R7.1 sf27))
  have nl36 := ne29 _ sf35
  have f37 := (f21.ext E29)
  have f38 := (f19.ext E29)
  have f39 := (f24.ext E29)
  have f40 := (f20.ext E29)
  have zz41 : n0 ≤ h5.size := by rw [← o17.1]; exact o17.2.1
  have g42 := Nat.le_trans zz41 f23
  have n43 := Nat.ne_of_lt (Nat.lt_of_lt_of_le A5.lt f23)
  have f44 := (f22.ext E29)
  have o45 := Old.keep o17 K18 (allS g16 all0)
  have o46 := Old.ext o45 E29
  obtain ⟨_, T47, Lc47, X47, hQ47, st47⟩ := own_cV X29 hx hZ29 ho29 e29 (rm7_1 l Z a0 hw [] b5 a29 b29 (1 : Int32) k29 ([vI58]) x1 (0 : Int32) (0 : Int32) b18_0 (16 : Int32) k18_0 ([vI0, vI0, vI0, vI0, vI0, vI0, vI0, vI0, vI0, vI0, vI0, vI0, vI0, vI0, vI0, vI0]) (0 : Int32) (0 : Int32) h29 n0 o46 EE29 F29 V29 f12 hc13 C29 f37 f33 f38 f39 f40 (by decide) (by decide) (by decide) (by decide) (by decide) (by decide) (by decide) (by decide) g42 n43 g16 f44) f33 (w 48 rfl) (w 49 rfl) (w 51 rfl) (w 50 rfl) (w 52 rfl) (w 31 rfl) (by decide) (W := 2) (by decide) (by decide) (by decide) (by decide) (g := (mkF m 13 #[lR r0] [(.ref a29), (.ref b5), (.ref b1), (.ref b1)])) rfl (by rw [hml]; rfl) (argsL := [(.ref a29)]) (rest := [(.ref b1), (.ref b1)]) (lenOf pd__Ljava_lang_String__Ljava_lang_StringBuilder_ rfl) rfl (own_W rfl) (hb hby d4_13)
  obtain ⟨rfl, N47q, K47, f48, f49, f50, f51, f52⟩ := hQ47
  have N47 := Fr.app N18 N47q
  have R53 := CHr.trans R30 (CHr.keep K47 (sfS sf35 (sfS (Safe.exa hZ29.alike f33 (by decide) (by decide)) sf0)) R30.1)
  have f54 : Arv Z T47.heap b18_0 k18_0 .byte (16 : Int32) [vI58, vI0, vI0, vI0, vI0, vI0, vI0, vI0, vI0, vI0, vI0, vI0, vI0, vI0, vI0, vI0] vI0 := own_cpx (by decide : (((0 : Int32) <<< ((0 : Int32) &&& 31))).toNatClampNeg = 0) (by decide : (((0 : Int32) <<< ((0 : Int32) &&& 31))).toNatClampNeg + ((1 : Int32)).toNatClampNeg = 1) f48
  have f56 := (((((f55.ext E1).ext E5).keep K18).ext E29).keep K47)
  have zs59 := E1.1
  have n60 := Nat.ne_of_lt (Nat.lt_of_lt_of_le (Nat.lt_of_lt_of_le l58 zs59) (Nat.le_of_eq g5.symm))
  have zs61 := Nat.le_trans zs59 E5.1
  have n62 := Nat.ne_of_lt (Nat.lt_of_lt_of_le (Nat.lt_of_lt_of_le l58 zs61) f23)
  have f63 := (((((f57.ext E1).ext E5).keep K18 (ninS n60 nin0)).ext E29).keep K47 (ninS n62 (ninS n60 nin0)))
  have n66 := Nat.ne_of_lt (Nat.lt_of_lt_of_le (Nat.lt_of_lt_of_le l65 zs59) (Nat.le_of_eq g5.symm))
  have n67 := Nat.ne_of_lt (Nat.lt_of_lt_of_le (Nat.lt_of_lt_of_le l65 zs61) f23)
  have f68 := (((((f64.ext E1).ext E5).keep K18 (ninS n66 nin0)).ext E29).keep K47 (ninS n67 (ninS n66 nin0)))
  have f70 := (((((f69.ext E1).ext E5).keep K18 (ninS n60 nin0)).ext E29).keep K47 (ninS n62 (ninS n60 nin0)))
  have f71 := (f33.keep K47)
  have zs77 := K18.1
  have zs78 := Nat.le_trans zs77 E29.1
  have zs79 := Nat.le_trans zs78 K47.1
  have o80 := Old.keep o46 K47 (allS g42 (allS g16 all0))
  obtain ⟨_, T81, Lc81, X81, hQ81, st81⟩ := own_cV X47 hx hZ29 ho29 rfl (rm7_2 l Z a0 hw [] b5 r0 r2 c3 x4 x5 x1 b18_0 k18_0 u6 T47.heap n0 o80 f56 f63 f68 f12 hc13 f70 f49 f71 f50 f54 f51 f72 hc73 f74 f75 f76 (Nat.lt_of_lt_of_le A5.lt zs79) g16 f52 n60 n66) f71 (w 48 rfl) (w 49 rfl) (w 51 rfl) (w 50 rfl) (w 52 rfl) (w 31 rfl) (by decide) (W := 2) (by decide) (by decide) (by decide) (by decide) (g := (mkF m 17 #[lR r0] [(.ref r0), (.ref b5), (.ref b1), (.ref b1)])) rfl (by rw [hml]; rfl) (argsL := [(.ref r0)]) (rest := [(.ref b1), (.ref b1)]) (lenOf pd__Ljava_lang_String__Ljava_lang_StringBuilder_ rfl) rfl (own_W rfl) (hb hby d4_17)
  obtain ⟨b81_0, k81_0, rfl, N81q, K81, f82, f83, f84, f85, f86, f87, f88⟩ := hQ81
  have N81 := Fr.app N47 N81q
  have R89 := CHr.trans R53 (CHr.keep K81 (sfS (Safe.exa hZ29.alike f71 (by decide) (by decide)) sf0) R53.1)
  have sf90 : Safe Z consts_1 T29.vm T47.heap b81_0 := Safe.new f86
  have f91 := (f71.keep K81)
  have o92 := Old.keep o80 K81 (allS g16 all0)
  obtain ⟨_, T93, Lc93, X93, hQ93, st93⟩ := own_cV X81 hx hZ29 ho29 rfl (rm15_2 l Z a0 hw [] b5 b81_0 (2 : Int32) x1 (1 : Int32) (0 : Int32) (32 : Int32) k81_0 ([vI58, vI0, (.int x4), (.int x5), vI0, vI0, vI0, vI0, vI0, vI0, vI0, vI0, vI0, vI0, vI0, vI0, vI0, vI0, vI0, vI0, vI0, vI0, vI0, vI0, vI0, vI0, vI0, vI0, vI0, vI0, vI0, vI0]) T81.heap n0 o92 f91 f83 f84 f12 hc13 f82 (by decide) f85 (by decide) f88 f87.lt (by decide) (by decide) (by decide) (by decide) (by decide) (by decide)) f91 (w 96 rfl) (w 97 rfl) (w 99 rfl) (w 98 rfl) (w 100 rfl) (w 31 rfl) (by decide) (W := 2) (by decide) (by decide) (by decide) (by decide) (g := (mkF m 20 #[lR r0] [(.ref b5), (.ref b1), (.ref b1)])) rfl (by rw [hml]; rfl) (argsL := []) (rest := [(.ref b1), (.ref b1)]) (lenOf pd___Ljava_lang_String_ rfl) rfl (own_W rfl) (hb hby d4_20)
  obtain ⟨b93_0, b93_1, k93_0, rfl, N93q, K93, f94, f95, f96, f97, f98, f99, f100, f101⟩ := hQ93
  have N93 := Fr.app N81 N93q
  have R102 := CHr.trans R89 (CHr.keep K93 sf0 R89.1)
  have sf103 : Safe Z consts_1 T29.vm T81.heap b93_0 := Safe.new f94
  have sf104 : Safe Z consts_1 T29.vm T81.heap b93_1 := Safe.new f98
  have f105 : Arv Z T93.heap b93_1 k93_0 .byte (4 : Int32) [vI58, vI0, (.int x4), (.int x5)] vI0 := own_trunc (ws := [vI58, vI0, (.int x4), (.int x5)]) (rest := [vI0, vI0, vI0, vI0, vI0, vI0, vI0, vI0, vI0, vI0, vI0, vI0, vI0, vI0, vI0, vI0, vI0, vI0, vI0, vI0, vI0, vI0, vI0, vI0, vI0, vI0, vI0, vI0]) (own_lenK (n := 4) rfl (by decide)) f99
  have f106 := (((f31.keep K47).keep K81).keep K93)
  have n107 := Nat.ne_of_lt (Nat.lt_of_lt_of_le A1.lt (Nat.le_of_eq g5.symm))
  have zs108 := E5.1
  have n109 := Nat.ne_of_lt (Nat.lt_of_lt_of_le (Nat.lt_of_lt_of_le A1.lt zs108) f23)
  have f110 := ((((((f4.ext E5).keep K18 (ninS n107 nin0)).ext E29).keep K47 (ninS n109 (ninS n107 nin0))).keep K81 (ninS n107 nin0)).keep K93 nin0)
  have zz111 : n0 ≤ h0.size := by rw [← O0.1]; exact O0.2.1
  have g112 := Nat.le_trans zz111 (Nat.le_of_eq g1.symm)
  have o113 := Old.keep o92 K93 all0
  obtain ⟨_, T114, Lc114, X114, hQ114, st114⟩ := own_fin (X93.specialBack hx (y := mN24) rfl ho29 (mvT hZ29 (w 141 rfl)) (mvT hZ29 (w 142 rfl)) (mvT hZ29 (w 143 rfl)) (by decide) (backOf (W := 1) (rm26_1 l Z a0 hw [] b1 b93_0 T93.heap n0 o113 f106 f110 g112) hZ29 (w 143 rfl) (w 25 rfl) (by decide) (by decide)) (g := (mkF m 23 #[lR r0] [(.ref b93_0), (.ref b1), (.ref b1)])) rfl (by rw [hml]; rfl) (Steps.refl _) (a := b1) (argsL := [(.ref b93_0)]) (rest := [(.ref b1)]) (lenOf pd__Ljava_lang_String__V rfl) rfl (own_W rfl) (hb hby d4_23) (fun _ _ => ⟨rfl, rfl, (by decide : 8 + 0 ≤ _), (by decide : 81 + 0 ≤ _)⟩))
  obtain ⟨rfl, N114q, K114, f115⟩ := hQ114
  have N114 := Fr.app N93 N114q
  have R116 := CHr.trans R102 (CHr.keep K114 (sfS (Safe.exa hZ29.alike f106 (by decide) (by decide)) sf0) R102.1)
  have f117 := (f106.keep K114)
  have zs118 := Nat.le_trans zs61 K18.1
  have zs119 := Nat.le_trans zs118 E29.1
  have zs120 := Nat.le_trans zs119 K47.1
  have zs121 := Nat.le_trans zs120 K81.1
  have f122 := (f95.keep K114)
  have zs123 := Nat.le_trans zs108 K18.1
  have zs124 := Nat.le_trans zs123 E29.1
  have zs125 := Nat.le_trans zs124 K47.1
  have zs126 := Nat.le_trans zs125 K81.1
  have n127 := Nat.ne_of_lt (Nat.lt_of_lt_of_le (Nat.lt_of_lt_of_le A1.lt zs126) f94)
  have f128 := (f96.keep K114 (ninS (Ne.symm n127) nin0))
  have f129 := (f97.keep K114 (ninS (Ne.symm n127) nin0))
  have n130 := Nat.ne_of_lt (Nat.lt_of_lt_of_le (Nat.lt_of_lt_of_le A1.lt zs126) f98)
  have f131 := (f105.keep K114 (ninS (Ne.symm n130) nin0))
  have f132 := (f100.keep K114)
  have kp133 : Keep h0 h1 [] := (Keep.refl h0 []).ext E1
  have kp134 : Keep h0 h5 [] := kp133.ext E5
  have kp135 : Keep h0 T18.heap [] := kp134.trans K18 (allS (Or.inr (Nat.le_trans zs59 (Nat.le_of_eq g5.symm))) all0)
  have kp136 : Keep h0 h29 [] := kp135.ext E29
  have kp137 : Keep h0 T47.heap [] := kp136.trans K47 (allS (Or.inr (Nat.le_trans zs61 f23)) (allS (Or.inr (Nat.le_trans zs59 (Nat.le_of_eq g5.symm))) all0))
  have kp138 : Keep h0 T81.heap [] := kp137.trans K81 (allS (Or.inr (Nat.le_trans zs59 (Nat.le_of_eq g5.symm))) all0)
  have kp139 : Keep h0 T93.heap [] := kp138.trans K93 all0
  have kp140 : Keep h0 T114.heap [] := kp139.trans K114 (allS (Or.inr (Nat.le_of_eq g1.symm)) all0)
  have zs141 := K47.1
  have zs142 := Nat.le_trans zs141 K81.1
  have zs143 := Nat.le_trans zs142 K93.1
  have zs144 := Nat.le_trans zs143 K114.1
  refine ⟨some (.ref b1), _, _, _, _, _, _, _, nofun, X114, by decide, by decide, hS29, ((Nat.le_trans hk29 zs144)), hZ29, rfl, R116, ?_, fun fs hr => ?_⟩
  · exact ⟨b1, b93_0, b93_1, k93_0, rfl, N114, kp140, (Nat.le_of_eq g1.symm), f117, f115, (Nat.le_trans zs121 f94), f122, f128, f129, (Nat.le_trans zs121 f98), f131, f132, n127, n130, f101⟩
  · show SG p e below s₁ (mkF m 0 #[lR r0] []) _
    refine st1 _ ?_
    refine qd X1 hx hby d4_3 ?_
    refine st5 _ ?_
    refine qd X5 hx hby d4_7 ?_
    refine st18.trans ?_
    refine st29 _ ?_
    refine st47 _ ?_
    refine qaN X47 hx hby d4_16 ?_
    refine st81 _ ?_
    refine st93 _ ?_
    show SG p e below T93 (mkF m 23 #[lR r0] [(.ref b93_0), (.ref b1), (.ref b1)]) _
    refine st114.trans ?_
    exact retOut X114 hx (i := .areturn) hret rfl (Or.inr (Or.inr (Or.inr (Or.inr ⟨rfl, rfl, rfl⟩)))) (hb hby d4_26) hr
theorem d30_17 : DK cB30 17 (.iconst 0) 1 := by decide +kernel
def Q30_2 (Z : State) (r0 : Addr) (x1 x2 : Int32) (h0 : Heap) (n0 : Nat) (v : Option Value) (h : Heap) (L : List Loc) : Prop := v = some vI0 ∧ Fr n0 L ∧ h = h0
theorem rm30_2 (l : Launch) (Z : State) (a0 : Array Value) (hw : own_HW a0 Z) (ws : List Jvm.Cond) (r0 : Addr) (x1 x2 : Int32) (h0 : Heap) (n0 : Nat) (O0 : Old Z n0 h0) (f1 : Sta Z Z.heap "java/lang/String" "COMPACT_STRINGS" "Z" (.int x1)) (hc4 : ¬ (x1 = (0 : Int32))) (f5 : Fld Z h0 r0 "java/lang/String" "coder" "B" (.int x2)) (hc7 : ¬ (x2 = (0 : Int32))) :
    own_MF l mN27 jdk_42_method_154_code 1 (some .boolean) ws rR0_0_0_0 Z h0 #[(.ref r0)] (Q30_2 Z r0 x1 x2 h0 n0) := by
  refine own_open (plainFor_of_name pn_java_lang_String) (L0 := #[lR r0]) (fun _ => by first | (simp [entryFrame, mkF, argsToLocals, Value.category]; done) | rfl) ?_
  intro p e s m below meth c s₁ hx hby hml hret hnn hZ hown X0 e0
  have N0 := Fr.nil n0
  have f2 := f1.ext O0.2
  obtain ⟨T3, X3, e3, st3⟩ := getS2 X0 hx hZ hown (host := "") (Or.inl (ww hw 68 rfl)) Via.refl e0 f2 (g := (mkF m 0 #[lR r0] [])) rfl (hb hby d30_0)
  obtain ⟨T6, X6, e6, st6⟩ := getF X3 hx hZ hown (host := "") (Or.inl (ww hw 22 rfl)) Via.refl e3 f5 (g := (mkF m 7 #[lR r0] [(.ref r0)])) rfl rfl (hb hby d30_7)
  refine ⟨some vI0, _, _, _, _, nofun, X6, by decide, by decide, ?_, fun fs hr => ?_⟩
  · rw [e6]; exact ⟨rfl, N0, rfl⟩
  · show SG p e below s₁ (mkF m 0 #[lR r0] []) _
    refine st3 _ ?_
    refine XS.ifNo X3.here hx rfl (hb hby d30_3) rfl ((if0 _ _).trans (feq hc4).1) ?_
    refine qaN X3 hx hby d30_6 ?_
    refine st6 _ ?_
    refine XS.ifYes X6.here hx rfl (pc0 := 10) (pc' := 17) rfl (hb hby d30_10) rfl ((if0 _ _).trans (feq hc7).2) (by decide) (by decide) ?_
    refine qc X6 hx hby d30_17 ?_
    exact retN X6 hx (t := .boolean) hret (by simp) (hb hby d30_18) hr
theorem d29_16 : DK cB29 16 (.aload_n 0) 1 := by decide +kernel
theorem d29_17 : DK cB29 17 (.getfield 9) 3 := by decide +kernel
theorem d29_20 : DK cB29 20 (.iload_n 1) 1 := by decide +kernel
theorem d29_21 : DK cB29 21 (.invokestatic 498) 3 := by decide +kernel
theorem d49_0 : DK cB49 0 (.iload_n 1) 1 := by decide +kernel
theorem d49_1 : DK cB49 1 (.aload_n 0) 1 := by decide +kernel
theorem d49_2 : DK cB49 2 (.invokestatic 67) 3 := by decide +kernel
theorem d50_0 : DK cB50 0 (.iload_n 0) 1 := by decide +kernel
theorem d50_1 : DK cB50 1 (.aload_n 1) 1 := by decide +kernel
theorem d50_2 : DK cB50 2 (.invokestatic 48) 3 := by decide +kernel
theorem d50_5 : DK cB50 5 (.invokestatic 414) 3 := by decide +kernel
theorem d50_8 : DK cB50 8 (.return_) 1 := by decide +kernel
def Q50_1 (Z : State) (x0 : Int32) (r1 : Addr) (x2 : Int32) (c3 : ClassId) (t4 : List Value) (u5 : Value) (h0 : Heap) (n0 : Nat) (v : Option Value) (h : Heap) (L : List Loc) : Prop := v = none ∧ Fr n0 L ∧ h = h0
theorem rm50_1 (l : Launch) (Z : State) (a0 : Array Value) (hw : own_HW a0 Z) (ws : List Jvm.Cond) (x0 : Int32) (r1 : Addr) (x2 : Int32) (c3 : ClassId) (t4 : List Value) (u5 : Value) (h0 : Heap) (n0 : Nat) (O0 : Old Z n0 h0) (f1 : Arv Z h0 r1 c3 .byte x2 t4 vI0) (f3 : Sta Z Z.heap cs7 "SIOOBE_FORMATTER" cs8 u5) (hc4 : u5.isRef = true) (hc5 : ¬ (x0 < (0 : Int32))) (hc6 : x0 < (x2 >>> ((1 : Int32) &&& 31))) :
    own_MF l mN47 jdk_52_method_91_code 2 none ws rR2_0_0_27 Z h0 #[(.int x0), (.ref r1)] (Q50_1 Z x0 r1 x2 c3 t4 u5 h0 n0) := by
  refine own_open (plainFor_of_name pn_java_lang_StringUTF16) (L0 := #[lI x0, lR r1]) (fun _ => by first | (simp [entryFrame, mkF, argsToLocals, Value.category]; done) | rfl) ?_
  intro p e s m below meth c s₁ hx hby hml hret hnn hZ hown X0 e0
  have N0 := Fr.nil n0; have w := @ww Z a0 hw
  obtain ⟨_, T2, Lc2, X2, hQ2, st2⟩ := own_cS X0 hx hZ hown e0 (rm46_1 l Z a0 hw [] r1 x2 c3 t4 h0 n0 O0 f1) (w 225 rfl) (w 226 rfl) (w 182 rfl) (w 227 rfl) (by decide) (W := 1) (by decide) (by decide) (by decide) (by decide) (g := (mkF m 2 #[lI x0, lR r1] [(.ref r1), (.int x0)])) rfl (by rw [hml]; rfl) (argsL := [(.ref r1)]) (rest := [(.int x0)]) (lenOf pd___B_I rfl) rfl (own_W rfl) (hb hby d50_2)
  obtain ⟨rfl, N2q, E2⟩ := hQ2
  have N2 := Fr.app N0 N2q
  obtain ⟨_, T7, Lc7, X7, hQ7, st7⟩ := own_cS X2 hx hZ hown E2 (rm32_1 l Z a0 hw [] x0 (x2 >>> ((1 : Int32) &&& 31)) u5 h0 n0 O0 f3 hc4 hc5 hc6) (w 242 rfl) (w 173 rfl) (w 4 rfl) (w 174 rfl) (by decide) (W := 0) (by decide) (by decide) (by decide) (by decide) (g := (mkF m 5 #[lI x0, lR r1] [(.int (x2 >>> ((1 : Int32) &&& 31))), (.int x0)])) rfl (by rw [hml]; rfl) (argsL := [(.int x0), (.int (x2 >>> ((1 : Int32) &&& 31)))]) (rest := []) (lenOf pd__II_V rfl) rfl (own_W rfl) (hb hby d50_5)
  obtain ⟨rfl, N7q, E7⟩ := hQ7
  have N7 := Fr.app N2 N7q
  refine ⟨none, _, _, _, _, (fun _ => rfl), X7, by decide, by decide, ?_, fun fs hr => ?_⟩
  · rw [E7]; exact ⟨rfl, N7, rfl⟩
  · show SG p e below s₁ (mkF m 0 #[lI x0, lR r1] []) _
    refine qiN X0 hx hby d50_0 ?_
    refine qaN X0 hx hby d50_1 ?_
    refine st2 _ ?_
    refine st7 _ ?_
    exact X7.returnOut hx hret (hb hby d50_8) hr
theorem pd__I_B_V : parseMethodDescriptor "(I[B)V" = some ⟨[.int, (.array .byte)], none⟩ := by decide +kernel
theorem d49_5 : DK cB49 5 (.aload_n 0) 1 := by decide +kernel
theorem d49_6 : DK cB49 6 (.iload_n 1) 1 := by decide +kernel
theorem d49_7 : DK cB49 7 (.invokestatic 71) 3 := by decide +kernel
theorem d49_10 : DK cB49 10 (.ireturn) 1 := by decide +kernel
def Q49_1 (Z : State) (r0 : Addr) (x1 x2 : Int32) (c3 : ClassId) (t4 : List Value) (u5 : Value) (x6 x7 : Int32) (h0 : Heap) (n0 : Nat) (v : Option Value) (h : Heap) (L : List Loc) : Prop := v = some (.int (nar .char (nar .char ((((x6 &&& (255 : Int32)) <<< ((0 : Int32) &&& 31)) ||| ((x7 &&& (255 : Int32)) <<< ((8 : Int32) &&& 31))).toUInt32.toUInt16.toUInt32.toInt32)))) ∧ Fr n0 L ∧ h = h0
theorem rm49_1 (l : Launch) (Z : State) (a0 : Array Value) (hw : own_HW a0 Z) (ws : List Jvm.Cond) (r0 : Addr) (x1 x2 : Int32) (c3 : ClassId) (t4 : List Value) (u5 : Value) (x6 x7 : Int32) (h0 : Heap) (n0 : Nat) (O0 : Old Z n0 h0) (f1 : Arv Z h0 r0 c3 .byte x2 t4 vI0) (f2 : Sta Z Z.heap cs7 "SIOOBE_FORMATTER" cs8 u5) (hc3 : u5.isRef = true) (hc4 : ¬ (x1 < (0 : Int32))) (hc5 : x1 < (x2 >>> ((1 : Int32) &&& 31))) (f7 : Sta Z Z.heap "java/lang/StringUTF16" "$assertionsDisabled" "Z" vI1) (he8 : t4.getD ((x1 <<< ((1 : Int32) &&& 31))).toNatClampNeg vI0 = (.int x6)) (hc9 : ¬ ((x1 <<< ((1 : Int32) &&& 31)) < (0 : Int32))) (hc10 : (x1 <<< ((1 : Int32) &&& 31)) < x2) (f11 : Sta Z Z.heap "java/lang/StringUTF16" "HI_BYTE_SHIFT" "I" vI0) (he12 : t4.getD (((x1 <<< ((1 : Int32) &&& 31)) + (1 : Int32))).toNatClampNeg vI0 = (.int x7)) (hc13 : ¬ (((x1 <<< ((1 : Int32) &&& 31)) + (1 : Int32)) < (0 : Int32))) (hc14 : ((x1 <<< ((1 : Int32) &&& 31)) + (1 : Int32)) < x2) (f15 : Sta Z Z.heap "java/lang/StringUTF16" "LO_BYTE_SHIFT" "I" vI8) :
    own_MF l mN48 jdk_52_method_83_code 2 (some .char) ws rR3_0_0_40 Z h0 #[(.ref r0), (.int x1)] (Q49_1 Z r0 x1 x2 c3 t4 u5 x6 x7 h0 n0) := by
  refine own_open (plainFor_of_name pn_java_lang_StringUTF16) (L0 := #[lR r0, lI x1]) (fun _ => by first | (simp [entryFrame, mkF, argsToLocals, Value.category]; done) | rfl) ?_
  intro p e s m below meth c s₁ hx hby hml hret hnn hZ hown X0 e0
  have N0 := Fr.nil n0; have w := @ww Z a0 hw
  obtain ⟨_, T6, Lc6, X6, hQ6, st6⟩ := own_cS X0 hx hZ hown e0 (rm50_1 l Z a0 hw [] x1 r0 x2 c3 t4 u5 h0 n0 O0 f1 f2 hc3 hc4 hc5) (w 239 rfl) (w 240 rfl) (w 182 rfl) (w 241 rfl) (by decide) (W := 0) (by decide) (by decide) (by decide) (by decide) (g := (mkF m 2 #[lR r0, lI x1] [(.ref r0), (.int x1)])) rfl (by rw [hml]; rfl) (argsL := [(.int x1), (.ref r0)]) (rest := []) (lenOf pd__I_B_V rfl) rfl (own_W rfl) (hb hby d49_2)
  obtain ⟨rfl, N6q, E6⟩ := hQ6
  have N6 := Fr.app N0 N6q
  obtain ⟨_, T16, Lc16, X16, hQ16, st16⟩ := own_cS X6 hx hZ hown E6 (rm41_1 l Z a0 hw [] r0 x1 x2 c3 t4 x6 x7 h0 n0 O0 f7 f1 he8 hc9 hc10 f11 he12 hc13 hc14 f15) (w 206 rfl) (w 207 rfl) (w 182 rfl) (w 208 rfl) (by decide) (W := 0) (by decide) (by decide) (by decide) (by decide) (g := (mkF m 7 #[lR r0, lI x1] [(.int x1), (.ref r0)])) rfl (by rw [hml]; rfl) (argsL := [(.ref r0), (.int x1)]) (rest := []) (lenOf pd___BI_C rfl) rfl (own_W rfl) (hb hby d49_7)
  obtain ⟨rfl, N16q, E16⟩ := hQ16
  have N16 := Fr.app N6 N16q
  refine ⟨some (.int (nar .char (nar .char ((((x6 &&& (255 : Int32)) <<< ((0 : Int32) &&& 31)) ||| ((x7 &&& (255 : Int32)) <<< ((8 : Int32) &&& 31))).toUInt32.toUInt16.toUInt32.toInt32)))), _, _, _, _, nofun, X16, by decide, by decide, ?_, fun fs hr => ?_⟩
  · rw [E16]; exact ⟨rfl, N16, rfl⟩
  · show SG p e below s₁ (mkF m 0 #[lR r0, lI x1] []) _
    refine qiN X0 hx hby d49_0 ?_
    refine qaN X0 hx hby d49_1 ?_
    refine st6 _ ?_
    refine qaN X6 hx hby d49_5 ?_
    refine qiN X6 hx hby d49_6 ?_
    refine st16 _ ?_
    exact retN X16 hx (t := .char) hret (by simp) (hb hby d49_10) hr
theorem d29_24 : DK cB29 24 (.ireturn) 1 := by decide +kernel
def Q29_2 (Z : State) (r0 : Addr) (x1 x2 x3 : Int32) (r4 : Addr) (x5 : Int32) (c6 : ClassId) (t7 : List Value) (u8 : Value) (x9 x10 : Int32) (h0 : Heap) (n0 : Nat) (v : Option Value) (h : Heap) (L : List Loc) : Prop := v = some (.int (nar .char (nar .char (nar .char ((((x9 &&& (255 : Int32)) <<< ((0 : Int32) &&& 31)) ||| ((x10 &&& (255 : Int32)) <<< ((8 : Int32) &&& 31))).toUInt32.toUInt16.toUInt32.toInt32))))) ∧ Fr n0 L ∧ h = h0
theorem rm29_2 (l : Launch) (Z : State) (a0 : Array Value) (hw : own_HW a0 Z) (ws : List Jvm.Cond) (r0 : Addr) (x1 x2 x3 : Int32) (r4 : Addr) (x5 : Int32) (c6 : ClassId) (t7 : List Value) (u8 : Value) (x9 x10 : Int32) (h0 : Heap) (n0 : Nat) (O0 : Old Z n0 h0) (f1 : Exa Z h0 r0 "java/lang/String") (f2 : Sta Z Z.heap "java/lang/String" "COMPACT_STRINGS" "Z" (.int x2)) (hc3 : ¬ (x2 = (0 : Int32))) (f4 : Fld Z h0 r0 "java/lang/String" "coder" "B" (.int x3)) (hc5 : ¬ (x3 = (0 : Int32))) (f7 : Fld Z h0 r0 "java/lang/String" "value" "[B" (.ref r4)) (f9 : Arv Z h0 r4 c6 .byte x5 t7 vI0) (f10 : Sta Z Z.heap cs7 "SIOOBE_FORMATTER" cs8 u8) (hc11 : u8.isRef = true) (hc12 : ¬ (x1 < (0 : Int32))) (hc13 : x1 < (x5 >>> ((1 : Int32) &&& 31))) (f14 : Sta Z Z.heap "java/lang/StringUTF16" "$assertionsDisabled" "Z" vI1) (he15 : t7.getD ((x1 <<< ((1 : Int32) &&& 31))).toNatClampNeg vI0 = (.int x9)) (hc16 : ¬ ((x1 <<< ((1 : Int32) &&& 31)) < (0 : Int32))) (hc17 : (x1 <<< ((1 : Int32) &&& 31)) < x5) (f18 : Sta Z Z.heap "java/lang/StringUTF16" "HI_BYTE_SHIFT" "I" vI0) (he19 : t7.getD (((x1 <<< ((1 : Int32) &&& 31)) + (1 : Int32))).toNatClampNeg vI0 = (.int x10)) (hc20 : ¬ (((x1 <<< ((1 : Int32) &&& 31)) + (1 : Int32)) < (0 : Int32))) (hc21 : ((x1 <<< ((1 : Int32) &&& 31)) + (1 : Int32)) < x5) (f22 : Sta Z Z.heap "java/lang/StringUTF16" "LO_BYTE_SHIFT" "I" vI8) :
    own_MF l mN31 jdk_42_method_56_code 2 (some .char) ws rR4_0_0_53 Z h0 #[(.ref r0), (.int x1)] (Q29_2 Z r0 x1 x2 x3 r4 x5 c6 t7 u8 x9 x10 h0 n0) := by
  refine own_open (plainFor_of_name pn_java_lang_String) (L0 := #[lR r0, lI x1]) (fun _ => by first | (simp [entryFrame, mkF, argsToLocals, Value.category]; done) | rfl) ?_
  intro p e s m below meth c s₁ hx hby hml hret hnn hZ hown X0 e0
  have N0 := Fr.nil n0; have w := @ww Z a0 hw
  obtain ⟨_, T6, Lc6, X6, hQ6, st6⟩ := own_cV X0 hx hZ hown e0 (rm30_2 l Z a0 hw [] r0 x2 x3 h0 n0 O0 f2 hc3 f4 hc5) f1 (w 163 rfl) (w 164 rfl) (w 166 rfl) (w 165 rfl) (w 167 rfl) (w 4 rfl) (by decide) (W := 0) (by decide) (by decide) (by decide) (by decide) (g := (mkF m 1 #[lR r0, lI x1] [(.ref r0)])) rfl (by rw [hml]; rfl) (argsL := []) (rest := []) (lenOf pd___Z rfl) rfl (own_W rfl) (hb hby d29_1)
  obtain ⟨rfl, N6q, E6⟩ := hQ6
  have N6 := Fr.app N0 N6q
  obtain ⟨T8, X8, e8, st8⟩ := getF X6 hx hZ hown (host := "") (Or.inl (w 21 rfl)) Via.refl E6 f7 (g := (mkF m 17 #[lR r0, lI x1] [(.ref r0)])) rfl rfl (hb hby d29_17)
  obtain ⟨_, T23, Lc23, X23, hQ23, st23⟩ := own_cS X8 hx hZ hown e8 (rm49_1 l Z a0 hw [] r4 x1 x5 c6 t7 u8 x9 x10 h0 n0 O0 f9 f10 hc11 hc12 hc13 f14 he15 hc16 hc17 f18 he19 hc20 hc21 f22) (w 236 rfl) (w 237 rfl) (w 182 rfl) (w 238 rfl) (by decide) (W := 0) (by decide) (by decide) (by decide) (by decide) (g := (mkF m 21 #[lR r0, lI x1] [(.int x1), (.ref r4)])) rfl (by rw [hml]; rfl) (argsL := [(.ref r4), (.int x1)]) (rest := []) (lenOf pd___BI_C rfl) rfl (own_W rfl) (hb hby d29_21)
  obtain ⟨rfl, N23q, E23⟩ := hQ23
  have N23 := Fr.app N6 N23q
  refine ⟨some (.int (nar .char (nar .char (nar .char ((((x9 &&& (255 : Int32)) <<< ((0 : Int32) &&& 31)) ||| ((x10 &&& (255 : Int32)) <<< ((8 : Int32) &&& 31))).toUInt32.toUInt16.toUInt32.toInt32))))), _, _, _, _, nofun, X23, by decide, by decide, ?_, fun fs hr => ?_⟩
  · rw [E23]; exact ⟨rfl, N23, rfl⟩
  · show SG p e below s₁ (mkF m 0 #[lR r0, lI x1] []) _
    refine qaN X0 hx hby d29_0 ?_
    refine st6 _ ?_
    refine XS.ifYes X6.here hx rfl (pc0 := 4) (pc' := 16) rfl (hb hby d29_4) rfl ((if0 _ _).trans (teq (rfl : (0 : Int32) = (0 : Int32))).1) (by decide) (by decide) ?_
    refine qaN X6 hx hby d29_16 ?_
    refine st8 _ ?_
    refine qiN X8 hx hby d29_20 ?_
    refine st23 _ ?_
    exact retN X23 hx (t := .char) hret (by simp) (hb hby d29_24) hr
def Q0_2 (Z : State) (x0 x1 : Int32) (x2 x3 : Int32) (x4 x5 : Int32) (x6 x7 : Int32) (u8 : Value) (h0 : Heap) (n0 : Nat) (v : Option Value) (h : Heap) (L : List Loc) : Prop := v = some vI1 ∧ Fr n0 L
theorem rm0_2 (l : Launch) (Z : State) (a0 : Array Value) (hw : own_HW a0 Z) (ws : List Jvm.Cond) (x0 x1 : Int32) (x2 x3 : Int32) (x4 x5 : Int32) (x6 x7 : Int32) (u8 : Value) (h0 : Heap) (n0 : Nat) (O0 : Old Z n0 h0) (hc1 : (x0 &&& (3 : Int32)) = (1 : Int32)) (hq2 : ((x1 &&& (65535 : Int32)).toUInt32.toUInt16.toUInt32.toInt32) = x4) (hq3 : ((x2 &&& (65535 : Int32)).toUInt32.toUInt16.toUInt32.toInt32) = x5) (hq4 : ((x3 &&& (65535 : Int32)).toUInt32.toUInt16.toUInt32.toInt32) = x6) (f20 : Sta Z Z.heap "java/lang/String" "COMPACT_STRINGS" "Z" (.int x7)) (hc21 : ¬ (x7 = (0 : Int32))) (hc22 : (255 : Int32) < (nar .char x4)) (f23 : Sta Z Z.heap "java/lang/StringUTF16" "$assertionsDisabled" "Z" vI1) (f24 : Sta Z Z.heap "java/lang/StringUTF16" "HI_BYTE_SHIFT" "I" vI0) (f25 : Sta Z Z.heap "java/lang/StringUTF16" "LO_BYTE_SHIFT" "I" vI8) (hc26 : (255 : Int32) < (nar .char ((((((((nar .char x4) >>> ((0 : Int32) &&& 31)).toInt8.toInt32).toInt8.toInt32) &&& (255 : Int32)) <<< ((0 : Int32) &&& 31)) ||| ((((((nar .char x4) >>> ((8 : Int32) &&& 31)).toInt8.toInt32).toInt8.toInt32) &&& (255 : Int32)) <<< ((8 : Int32) &&& 31))).toUInt32.toUInt16.toUInt32.toInt32))) (f43 : Sta Z Z.heap cs7 "SIOOBE_FORMATTER" cs8 u8) (hc44 : u8.isRef = true) (hc67 : (nar .char (nar .char (nar .char ((((((((nar .char x4) >>> ((0 : Int32) &&& 31)).toInt8.toInt32).toInt8.toInt32) &&& (255 : Int32)) <<< ((0 : Int32) &&& 31)) ||| ((((((nar .char x4) >>> ((8 : Int32) &&& 31)).toInt8.toInt32).toInt8.toInt32) &&& (255 : Int32)) <<< ((8 : Int32) &&& 31))).toUInt32.toUInt16.toUInt32.toInt32)))) = x4) :
    own_MH l x code maxLocals ret ws room_1 Z h0 #[(.int x0), (.int x1), (.int x2), (.int x3)] (Q0_2 Z x0 x1 x2 x3 x4 x5 x6 x7 u8 h0 n0) := by
  have hEL : EW Z a0 consts_1 := own_EW hw
  refine own_openH hEL (plainFor_of_name pn_com_example_manojo_manojo_ParameterNamedPinLaw) (L0 := #[lI x0, lI x1, lI x2, lI x3, lU, lU, lU, lU, lU, lU, lU, lU]) (fun _ => by first | (simp [entryFrame, mkF, argsToLocals, Value.category, maxLocals]; done) | rfl) ?_
  intro p e s m below meth c s₁ hx hby hml hret hnn hZ hown X0 e0 R0
  have N0 := Fr.nil n0; have w := @ww Z a0 hw
  obtain ⟨T5, h5, k5, X5, e5, E5, A5, B5, st5⟩ := newPE X0 hx hZ (w 1 rfl) e0 (g := (mkF m 28 #[lI x0, lI x1, lI x2, lI x3, lV vI1, lI x4, lI x5, lI x6, lU, lU, lU, lU] [vI1])) rfl (hb hby at_28) rfl (by decide) (cap := 1) (by decide) (by decide) (by decide) (by decide) (ad := "[C") rfl
  obtain ⟨b5, g5⟩ : ∃ z, z = h0.size := ⟨_, rfl⟩
  have sf6 : Safe Z consts_1 s.vm h0 b5 := Safe.new (Nat.le_of_eq g5.symm)
  rw [← g5] at A5 B5 st5
  have R7 := CHr.trans R0 (CHr.ext E5 R0.1)
  have V5 : Arv Z h5 b5 k5 .char (1 : Int32) [vI0] vI0 := (Arv.new A5 (by decide)).pad (pad_rep [] vI0 1)
  obtain ⟨clq8, Arq8, qq8, Sq8, Nq8, Hq8, Gq8⟩ := id V5
  have zz9 : n0 ≤ h0.size := by rw [← O0.1]; exact O0.2.1
  have g10 := Nat.le_trans zz9 (Nat.le_of_eq g5.symm)
  obtain ⟨T11, h11, X11, e11, W11, st11⟩ := stC X5 hx hZ e5 Arq8 (j := (0 : Int32)) (inb_of Sq8 ⟨(by decide : ¬ ((0 : Int32) < (0 : Int32))), (by decide : (0 : Int32) < (1 : Int32))⟩) (g := (mkF m 42 #[lI x0, lI x1, lI x2, lI x3, lV vI1, lI x4, lI x5, lI x6, lR b5, lU, lU, lU] [(.int x4), vI0, (.ref b5)])) rfl rfl (hb hby at_42)
  have sf12 : Safe Z consts_1 s.vm h5 b5 := (Safe.exa hZ.alike B5 (by decide) (by decide))
  have R13 := CHr.trans R7 (CHr.wr W11 sf12 R7.1)
  have V11 : Arv Z h11 b5 k5 .char (1 : Int32) [(.int (nar .char x4))] vI0 := Arv.set Arq8 qq8 Sq8 Nq8 Hq8 Gq8 (fits_nar_char _) W11 0 rfl (Nat.le_of_ble_eq_true rfl)
  have N11 := Fr.snoc X11 N0 g10
  obtain ⟨T14, h14, X14, e14, E14, A14, D14, -, st14⟩ := newO X11 hx hZ hown (w 2 rfl) (w 3 rfl) (w 4 rfl) e11 (g := (mkF m 67 #[lI x0, lI x1, lI x2, lI x3, lV vI1, lI x4, lI x5, lI x6, lR b5, lU, lU, lU] [])) rfl (hb hby at_67) (by decide) (by decide)
  obtain ⟨b14, g14⟩ : ∃ z, z = h11.size := ⟨_, rfl⟩
  have sf15 : Safe Z consts_1 s.vm h11 b14 := Safe.new (Nat.le_of_eq g14.symm)
  rw [← g14] at A14 D14 st14
  have R16 := CHr.trans R13 (CHr.ext E14 R13.1)
  have f17 : Fld Z h14 b14 "java/lang/String" "value" "[B" .null := D14 (Or.inr (w 17 rfl)) (ty := (.array .byte)) (by decide)
  have f18 : Fld Z h14 b14 "java/lang/String" "coder" "B" vI0 := D14 (Or.inr (w 18 rfl)) (ty := .byte) (by decide)
  have f19 := (V11.ext E14)
  have o28 := Old.ext O0 E5
  have o29 := Old.wr o28 W11 g10
  have zz27 : n0 ≤ h11.size := by rw [← o29.1]; exact o29.2.1
  have g30 := Nat.le_trans zz27 (Nat.le_of_eq g14.symm)
  have o31 := Old.ext o29 E14
  obtain ⟨_, T32, Lc32, X32, hQ32, st32⟩ := own_fin (X14.specialBack hx (y := mN1) rfl hown (mvT hZ (w 5 rfl)) (mvT hZ (w 6 rfl)) (mvT hZ (w 7 rfl)) (by decide) (backOf (W := 1) (rm1_2 l Z a0 hw [] b14 b5 k5 (nar .char x4) x7 h14 n0 o31 f19 f20 hc21 hc22 f23 f24 f25 hc26 A14 f18 g30 f17 A14.lt) hZ (w 7 rfl) (w 4 rfl) (by decide) (by decide)) (g := (mkF m 73 #[lI x0, lI x1, lI x2, lI x3, lV vI1, lI x4, lI x5, lI x6, lR b5, lU, lU, lU] [(.ref b5), (.ref b14), (.ref b14)])) rfl (by rw [hml]; rfl) (Steps.refl _) (a := b14) (argsL := [(.ref b5)]) (rest := [(.ref b14)]) (lenOf pd___C_V rfl) rfl (own_W rfl) (hb hby at_73) (fun _ _ => ⟨rfl, e14, (by decide : 2 + 2 ≤ _), (by decide : 5 + 3 ≤ _)⟩))
  obtain ⟨b32_0, k32_0, rfl, N32q, K32, f33, f34, f35, f36, f37⟩ := hQ32
  have N32 := Fr.app N11 N32q
  have sf38 := (Safe.ext E14 R13.1 sf15)
  have R39 := CHr.trans R16 (CHr.keep K32 (sfS sf38 sf0) R16.1)
  have sf40 : Safe Z consts_1 s.vm h14 b32_0 := Safe.new f35
  have f41 := (A14.keep K32)
  have zs42 := K32.1
  have o45 := Old.keep o31 K32 (allS g30 all0)
  have hS46 := (State.WarmedH.refl s).since 0
  obtain ⟨_, _, ⟨T47, L47, k47, n47⟩, -, X47, hs47, hg47, ⟨Lc47, hQ47, l47, y47, z47, cr47⟩, st47⟩ := callSS X32 hx (y := mN25) hown (mvT hZ (w 23 rfl)) (mvT hZ (w 24 rfl)) (mvT hZ (w 25 rfl)) (mvT hZ (w 26 rfl)) (by decide) (backOfSH (s := s) (vm0 := s.vm) (W := 0) (rm4_2 l Z a0 hw [] b14 x7 b32_0 k32_0 ((((nar .char x4) >>> ((0 : Int32) &&& 31)).toInt8.toInt32).toInt8.toInt32) ((((nar .char x4) >>> ((8 : Int32) &&& 31)).toInt8.toInt32).toInt8.toInt32) u8 T32.heap n0 o45 f20 hc21 f41 f34 (Nat.lt_of_lt_of_le A14.lt zs42) f37 f36.lt f33 f43 hc44 f23 f24 f25) hZ (w 26 rfl) (w 25 rfl) (by decide) (by decide) hEL R39.1) (g := (mkF m 80 #[lI x0, lI x1, lI x2, lI x3, lV vI1, lI x4, lI x5, lI x6, lR b5, lR b14, lU, lU] [(.ref b14)])) rfl (by rw [hml]; rfl) (argsL := [(.ref b14)]) (rest := []) (lenOf pd__Ljava_lang_String__Lcom_example_manojo_manojo_QueryTree_Parameter_ rfl) rfl (own_W rfl) (hb hby at_80) (fun _ _ => ⟨rfl, rfl, (by decide : 4 + 8 ≤ _), (by decide : 8 + 81 ≤ _)⟩)
  dsimp only [Pt.U, Pt.locs, Pt.cells, Pt.slots] at X47 l47 y47 z47 st47 hQ47 hs47 hg47 cr47
  subst l47 y47 z47
  obtain ⟨X47, hS47, hZ47, ho47⟩ := rebS (s := s) (vm0 := s.vm) hS46 ((Nat.zero_le _)) X47 hs47 hg47 hZ hown
  obtain ⟨b47_0, b47_1, b47_2, k47_0, rfl, N47q, K47, f48, f49, f50, f51, f52, f53, f54, f55, f56, f57, f58, f59, f60⟩ := hQ47
  have N47 := Fr.app N32 N47q
  have R61 := CHr.trans R39 cr47
  have o62 := Old.keep o45 K47 all0
  obtain ⟨_, T63, Lc63, X63, hQ63, st63⟩ := own_cV X47 hx hZ47 ho47 rfl (rm28_1 l Z a0 hw [] b47_0 b47_1 T47.heap n0 o62 f50) f49 (w 152 rfl) (w 153 rfl) (w 155 rfl) (w 154 rfl) (w 156 rfl) (w 25 rfl) (by decide) (W := 0) (by decide) (by decide) (by decide) (by decide) (g := (mkF m 87 #[lI x0, lI x1, lI x2, lI x3, lV vI1, lI x4, lI x5, lI x6, lR b5, lR b14, lR b47_0, lU] [(.ref b47_0)])) rfl (by rw [hml]; rfl) (argsL := []) (rest := []) (lenOf pd___Ljava_lang_String_ rfl) rfl (own_W rfl) (hb hby at_87)
  obtain ⟨rfl, N63q, E63⟩ := hQ63
  have N63 := Fr.app N47 N63q
  obtain ⟨_, T64, Lc64, X64, hQ64, st64⟩ := own_cV X63 hx hZ47 ho47 E63 (rm9_1 l Z a0 hw [] b47_1 b47_2 (4 : Int32) k47_0 ([vI58, vI0, (.int ((((nar .char x4) >>> ((0 : Int32) &&& 31)).toInt8.toInt32).toInt8.toInt32)), (.int ((((nar .char x4) >>> ((8 : Int32) &&& 31)).toInt8.toInt32).toInt8.toInt32))]) x7 (1 : Int32) T47.heap n0 o62 f54 f56 f52 f20 hc21 f53) f52 (w 157 rfl) (w 59 rfl) (w 61 rfl) (w 60 rfl) (w 62 rfl) (w 4 rfl) (by decide) (W := 0) (by decide) (by decide) (by decide) (by decide) (g := (mkF m 99 #[lI x0, lI x1, lI x2, lI x3, lV vI1, lI x4, lI x5, lI x6, lR b5, lR b14, lR b47_0, lR b47_1] [(.ref b47_1)])) rfl (by rw [hml]; rfl) (argsL := []) (rest := []) (lenOf pd___I rfl) rfl (own_W rfl) (hb hby at_99)
  obtain ⟨rfl, N64q, E64⟩ := hQ64
  have N64 := Fr.app N63 N64q
  obtain ⟨_, T65, Lc65, X65, hQ65, st65⟩ := own_cV X64 hx hZ47 ho47 E64 (rm29_2 l Z a0 hw [] b47_1 (0 : Int32) x7 (1 : Int32) b47_2 (4 : Int32) k47_0 ([vI58, vI0, (.int ((((nar .char x4) >>> ((0 : Int32) &&& 31)).toInt8.toInt32).toInt8.toInt32)), (.int ((((nar .char x4) >>> ((8 : Int32) &&& 31)).toInt8.toInt32).toInt8.toInt32))]) u8 (58 : Int32) (0 : Int32) T47.heap n0 o62 f52 f20 hc21 f53 (by decide) f54 f56 f43 hc44 (by decide) (by decide) f23 (own_gd (n := 0) rfl rfl) (by decide) (by decide) f24 (own_gd (n := 1) rfl rfl) (by decide) (by decide) f25) f52 (w 158 rfl) (w 159 rfl) (w 161 rfl) (w 160 rfl) (w 162 rfl) (w 4 rfl) (by decide) (W := 0) (by decide) (by decide) (by decide) (by decide) (g := (mkF m 114 #[lI x0, lI x1, lI x2, lI x3, lV vI1, lI x4, lI x5, lI x6, lR b5, lR b14, lR b47_0, lR b47_1] [vI0, (.ref b47_1)])) rfl (by rw [hml]; rfl) (argsL := [vI0]) (rest := []) (lenOf pd__I_C rfl) rfl (own_W rfl) (hb hby at_114)
  obtain ⟨rfl, N65q, E65⟩ := hQ65
  have N65 := Fr.app N64 N65q
  obtain ⟨_, T66, Lc66, X66, hQ66, st66⟩ := own_cV X65 hx hZ47 ho47 E65 (rm29_2 l Z a0 hw [] b47_1 (1 : Int32) x7 (1 : Int32) b47_2 (4 : Int32) k47_0 ([vI58, vI0, (.int ((((nar .char x4) >>> ((0 : Int32) &&& 31)).toInt8.toInt32).toInt8.toInt32)), (.int ((((nar .char x4) >>> ((8 : Int32) &&& 31)).toInt8.toInt32).toInt8.toInt32))]) u8 ((((nar .char x4) >>> ((0 : Int32) &&& 31)).toInt8.toInt32).toInt8.toInt32) ((((nar .char x4) >>> ((8 : Int32) &&& 31)).toInt8.toInt32).toInt8.toInt32) T47.heap n0 o62 f52 f20 hc21 f53 (by decide) f54 f56 f43 hc44 (by decide) (by decide) f23 (own_gd (n := 2) rfl rfl) (by decide) (by decide) f24 (own_gd (n := 3) rfl rfl) (by decide) (by decide) f25) f52 (w 158 rfl) (w 159 rfl) (w 161 rfl) (w 160 rfl) (w 162 rfl) (w 4 rfl) (by decide) (W := 0) (by decide) (by decide) (by decide) (by decide) (g := (mkF m 132 #[lI x0, lI x1, lI x2, lI x3, lV vI1, lI x4, lI x5, lI x6, lR b5, lR b14, lR b47_0, lR b47_1] [vI1, (.ref b47_1)])) rfl (by rw [hml]; rfl) (argsL := [vI1]) (rest := []) (lenOf pd__I_C rfl) rfl (own_W rfl) (hb hby at_132)
  obtain ⟨rfl, N66q, E66⟩ := hQ66
  have N66 := Fr.app N65 N66q
  refine ⟨some vI1, _, _, _, _, _, _, _, nofun, X66, by decide, by decide, hS47, (by rw [E66]; exact (Nat.le_refl _)), hZ47, E66, R61, ?_, fun fs hr => ?_⟩
  · rw [E66]; exact ⟨rfl, N66⟩
  · show SG p e below s₁ (mkF m 0 #[lI x0, lI x1, lI x2, lI x3, lU, lU, lU, lU, lU, lU, lU, lU] []) _
    refine qiN X0 hx hby at_0 ?_
    refine qc X0 hx hby at_1 ?_
    refine XS.iand X0.here hx rfl (hb hby at_2) rfl ?_
    show SG p e below s₁ (mkF m 3 #[lI x0, lI x1, lI x2, lI x3, lU, lU, lU, lU, lU, lU, lU, lU] [(.int (x0 &&& (3 : Int32)))]) _
    rw [hc1]
    refine XS.istore X0.here hx rfl (hb hby at_3) rfl (l' := #[lI x0, lI x1, lI x2, lI x3, lV vI1, lU, lU, lU, lU, lU, lU, lU]) rfl ?_
    refine qiN X0 hx hby at_5 ?_
    refine X0.ldcInt hx hown (mvT hZ (w 0 rfl)) (g := (mkF m 6 #[lI x0, lI x1, lI x2, lI x3, lV vI1, lU, lU, lU, lU, lU, lU, lU] [(.int x1)])) rfl (hb hby at_6) _ ?_
    refine XS.iand X0.here hx rfl (hb hby at_8) rfl ?_
    refine XS.i2c X0.here hx rfl (hb hby at_9) rfl ?_
    show SG p e below s₁ (mkF m 10 #[lI x0, lI x1, lI x2, lI x3, lV vI1, lU, lU, lU, lU, lU, lU, lU] [(.int ((x1 &&& (65535 : Int32)).toUInt32.toUInt16.toUInt32.toInt32))]) _
    rw [hq2]
    refine XS.istore X0.here hx rfl (hb hby at_10) rfl (l' := #[lI x0, lI x1, lI x2, lI x3, lV vI1, lI x4, lU, lU, lU, lU, lU, lU]) rfl ?_
    refine qiN X0 hx hby at_12 ?_
    show SG p e below s₁ (mkF m 13 #[lI x0, lI x1, lI x2, lI x3, lV vI1, lI x4, lU, lU, lU, lU, lU, lU] [(.int x2)]) _
    refine X0.ldcInt hx hown (mvT hZ (w 0 rfl)) (g := (mkF m 13 #[lI x0, lI x1, lI x2, lI x3, lV vI1, lI x4, lU, lU, lU, lU, lU, lU] [(.int x2)])) rfl (hb hby at_13) _ ?_
    refine XS.iand X0.here hx rfl (hb hby at_15) rfl ?_
    refine XS.i2c X0.here hx rfl (hb hby at_16) rfl ?_
    show SG p e below s₁ (mkF m 17 #[lI x0, lI x1, lI x2, lI x3, lV vI1, lI x4, lU, lU, lU, lU, lU, lU] [(.int ((x2 &&& (65535 : Int32)).toUInt32.toUInt16.toUInt32.toInt32))]) _
    rw [hq3]
    refine XS.istore X0.here hx rfl (hb hby at_17) rfl (l' := #[lI x0, lI x1, lI x2, lI x3, lV vI1, lI x4, lI x5, lU, lU, lU, lU, lU]) rfl ?_
    refine qiN X0 hx hby at_19 ?_
    refine X0.ldcInt hx hown (mvT hZ (w 0 rfl)) (g := (mkF m 20 #[lI x0, lI x1, lI x2, lI x3, lV vI1, lI x4, lI x5, lU, lU, lU, lU, lU] [(.int x3)])) rfl (hb hby at_20) _ ?_
    refine XS.iand X0.here hx rfl (hb hby at_22) rfl ?_
    refine XS.i2c X0.here hx rfl (hb hby at_23) rfl ?_
    show SG p e below s₁ (mkF m 24 #[lI x0, lI x1, lI x2, lI x3, lV vI1, lI x4, lI x5, lU, lU, lU, lU, lU] [(.int ((x3 &&& (65535 : Int32)).toUInt32.toUInt16.toUInt32.toInt32))]) _
    rw [hq4]
    refine XS.istore X0.here hx rfl (hb hby at_24) rfl (l' := #[lI x0, lI x1, lI x2, lI x3, lV vI1, lI x4, lI x5, lI x6, lU, lU, lU, lU]) rfl ?_
    refine qi X0 hx hby at_26 ?_
    show SG p e below s₁ (mkF m 28 #[lI x0, lI x1, lI x2, lI x3, lV vI1, lI x4, lI x5, lI x6, lU, lU, lU, lU] [vI1]) _
    refine st5 _ ?_
    refine XS.astore X5.here hx rfl (hb hby at_30) rfl rfl (l' := #[lI x0, lI x1, lI x2, lI x3, lV vI1, lI x4, lI x5, lI x6, lR b5, lU, lU, lU]) rfl ?_
    refine qi X5 hx hby at_32 ?_
    refine XS.ifNo X5.here hx rfl (hb hby at_34) rfl ((if0 _ _).trans (tlt (by decide : (0 : Int32) < (1 : Int32))).2.2.2) ?_
    refine qa X5 hx hby at_37 ?_
    refine qc X5 hx hby at_39 ?_
    refine qi X5 hx hby at_40 ?_
    refine st11 _ ?_
    refine qi X11 hx hby at_43 ?_
    refine qc X11 hx hby at_45 ?_
    show SG p e below T11 (mkF m 46 #[lI x0, lI x1, lI x2, lI x3, lV vI1, lI x4, lI x5, lI x6, lR b5, lU, lU, lU] [vI1, vI1]) _
    refine XS.icmpYes X11.here hx rfl (pc0 := 46) (pc' := 55) rfl (hb hby at_46) rfl (flt (by decide : ¬ ((1 : Int32) < (1 : Int32)))).2.2.2 (by decide) (by decide) ?_
    refine qi X11 hx hby at_55 ?_
    refine qc X11 hx hby at_57 ?_
    refine XS.icmpYes X11.here hx rfl (pc0 := 58) (pc' := 67) rfl (hb hby at_58) rfl (flt (by decide : ¬ ((2 : Int32) < (1 : Int32)))).2.2.2 (by decide) (by decide) ?_
    refine st14 _ ?_
    refine qd X14 hx hby at_70 ?_
    refine qa X14 hx hby at_71 ?_
    refine st32.trans ?_
    refine XS.astore X32.here hx rfl (hb hby at_76) rfl rfl (l' := #[lI x0, lI x1, lI x2, lI x3, lV vI1, lI x4, lI x5, lI x6, lR b5, lR b14, lU, lU]) rfl ?_
    refine qa X32 hx hby at_78 ?_
    show SG p e below T32 (mkF m 80 #[lI x0, lI x1, lI x2, lI x3, lV vI1, lI x4, lI x5, lI x6, lR b5, lR b14, lU, lU] [(.ref b14)]) _
    refine st47.trans ?_
    refine XS.astore X47.here hx rfl (hb hby at_83) rfl rfl (l' := #[lI x0, lI x1, lI x2, lI x3, lV vI1, lI x4, lI x5, lI x6, lR b5, lR b14, lR b47_0, lU]) rfl ?_
    refine qa X47 hx hby at_85 ?_
    refine st63 _ ?_
    refine XS.astore X63.here hx rfl (hb hby at_90) rfl rfl (l' := #[lI x0, lI x1, lI x2, lI x3, lV vI1, lI x4, lI x5, lI x6, lR b5, lR b14, lR b47_0, lR b47_1]) rfl ?_
    refine qa X63 hx hby at_92 ?_
    refine XS.ifnullNo X63.here hx rfl (hb hby at_94) rfl ?_
    refine qa X63 hx hby at_97 ?_
    refine st64 _ ?_
    refine qi X64 hx hby at_102 ?_
    show SG p e below T64 (mkF m 104 #[lI x0, lI x1, lI x2, lI x3, lV vI1, lI x4, lI x5, lI x6, lR b5, lR b14, lR b47_0, lR b47_1] [vI1, vI2]) _
    refine qc X64 hx hby at_104 ?_
    refine XS.iadd X64.here hx rfl (hb hby at_105) rfl ?_
    refine XS.icmpYes X64.here hx rfl (pc0 := 106) (pc' := 111) rfl (hb hby at_106) rfl (teq (rfl : (2 : Int32) = (2 : Int32))).1 (by decide) (by decide) ?_
    refine qa X64 hx hby at_111 ?_
    refine qc X64 hx hby at_113 ?_
    refine st65 _ ?_
    refine qb X65 hx hby at_117 ?_
    refine XS.icmpYes X65.here hx rfl (pc0 := 119) (pc' := 124) rfl (hb hby at_119) rfl (teq (rfl : (58 : Int32) = (58 : Int32))).1 (by decide) (by decide) ?_
    refine qi X65 hx hby at_124 ?_
    refine XS.ifNo X65.here hx rfl (hb hby at_126) rfl ((if0 _ _).trans (tlt (by decide : (0 : Int32) < (1 : Int32))).2.2.2) ?_
    show SG p e below T65 (mkF m 129 #[lI x0, lI x1, lI x2, lI x3, lV vI1, lI x4, lI x5, lI x6, lR b5, lR b14, lR b47_0, lR b47_1] []) _
    refine qa X65 hx hby at_129 ?_
    refine qc X65 hx hby at_131 ?_
    refine st66 _ ?_
    refine qi X66 hx hby at_135 ?_
    refine XS.icmpYes X66.here hx rfl (pc0 := 137) (pc' := 142) rfl (hb hby at_137) rfl (teq hc67).1 (by decide) (by decide) ?_
    refine qi X66 hx hby at_142 ?_
    refine qc X66 hx hby at_144 ?_
    refine XS.icmpYes X66.here hx rfl (pc0 := 145) (pc' := 161) rfl (hb hby at_145) rfl (flt (by decide : ¬ ((1 : Int32) < (1 : Int32)))).2.2.2 (by decide) (by decide) ?_
    refine qi X66 hx hby at_161 ?_
    refine qc X66 hx hby at_163 ?_
    show SG p e below T66 (mkF m 164 #[lI x0, lI x1, lI x2, lI x3, lV vI1, lI x4, lI x5, lI x6, lR b5, lR b14, lR b47_0, lR b47_1] [vI2, vI1]) _
    refine XS.icmpYes X66.here hx rfl (pc0 := 164) (pc' := 180) rfl (hb hby at_164) rfl (flt (by decide : ¬ ((2 : Int32) < (1 : Int32)))).2.2.2 (by decide) (by decide) ?_
    refine qc X66 hx hby at_180 ?_
    exact retN X66 hx (t := .boolean) hret (by simp) (hb hby at_181) hr
def Q4_3 (Z : State) (r0 : Addr) (x1 : Int32) (r2 : Addr) (c3 : ClassId) (x4 : Int32) (h0 : Heap) (n0 : Nat) (v : Option Value) (h : Heap) (L : List Loc) : Prop := ∃ (b1 b87_0 b87_1 : Addr) (k87_0 : ClassId), v = some (.ref b1) ∧ Fr n0 L ∧ Keep h0 h [] ∧ h0.size ≤ b1 ∧ Exa Z h b1 cs5 ∧ Fld Z h b1 cs5 "name" "Ljava/lang/String;" (.ref b87_0) ∧ h0.size ≤ b87_0 ∧ Exa Z h b87_0 "java/lang/String" ∧ Fld Z h b87_0 "java/lang/String" "coder" "B" vI0 ∧ Fld Z h b87_0 "java/lang/String" "value" "[B" (.ref b87_1) ∧ h0.size ≤ b87_1 ∧ Arv Z h b87_1 k87_0 .byte (2 : Int32) [vI58, (.int x4)] vI0 ∧ Exa Z h b87_1 "[B" ∧ b1 ≠ b87_0 ∧ b1 ≠ b87_1 ∧ b87_0 ≠ b87_1
theorem rm4_3 (l : Launch) (Z : State) (a0 : Array Value) (hw : own_HW a0 Z) (ws : List Jvm.Cond) (r0 : Addr) (x1 : Int32) (r2 : Addr) (c3 : ClassId) (x4 : Int32) (h0 : Heap) (n0 : Nat) (O0 : Old Z n0 h0) (f12 : Sta Z Z.heap "java/lang/String" "COMPACT_STRINGS" "Z" (.int x1)) (hc13 : ¬ (x1 = (0 : Int32))) (f55 : Exa Z h0 r0 "java/lang/String") (f57 : Fld Z h0 r0 "java/lang/String" "value" "[B" (.ref r2)) (l58 : r0 < h0.size) (f64 : Arv Z h0 r2 c3 .byte (1 : Int32) [(.int x4)] vI0) (l65 : r2 < h0.size) (f69 : Fld Z h0 r0 "java/lang/String" "coder" "B" vI0) :
    own_MH l mN25 prog_22_method_2_code 1 (some (.object cs5)) ws rR6_7_49_99 Z h0 #[(.ref r0)] (Q4_3 Z r0 x1 r2 c3 x4 h0 n0) := by
  have hEL : EW Z a0 consts_1 := own_EW hw
  refine own_openH hEL (plainFor_of_name pn_com_example_manojo_manojo_QueryTree_Parameter) (L0 := #[lR r0]) (fun _ => by first | (simp [entryFrame, mkF, argsToLocals, Value.category]; done) | rfl) ?_
  intro p e s m below meth c s₁ hx hby hml hret hnn hZ hown X0 e0 R0
  have N0 := Fr.nil n0; have w := @ww Z a0 hw
  obtain ⟨T1, h1, X1, e1, E1, A1, D1, -, st1⟩ := newO X0 hx hZ hown (w 27 rfl) (w 28 rfl) (w 25 rfl) e0 (g := (mkF m 0 #[lR r0] [])) rfl (hb hby d4_0) (by decide) (by decide)
  obtain ⟨b1, g1⟩ : ∃ z, z = h0.size := ⟨_, rfl⟩
  have sf2 : Safe Z consts_1 s.vm h0 b1 := Safe.new (Nat.le_of_eq g1.symm)
  rw [← g1] at A1 D1 st1
  have R3 := CHr.trans R0 (CHr.ext E1 R0.1)
  have f4 : Fld Z h1 b1 cs5 "name" "Ljava/lang/String;" .null := D1 (Or.inr (w 151 rfl)) (ty := (.object "java/lang/String")) (by decide)
  obtain ⟨T5, h5, X5, e5, E5, A5, D5, -, st5⟩ := newO X1 hx hZ hown (w 29 rfl) (w 30 rfl) (w 31 rfl) e1 (g := (mkF m 4 #[lR r0] [(.ref b1), (.ref b1)])) rfl (hb hby d4_4) (by decide) (by decide)
  obtain ⟨b5, g5⟩ : ∃ z, z = h1.size := ⟨_, rfl⟩
  have sf6 : Safe Z consts_1 s.vm h1 b5 := Safe.new (Nat.le_of_eq g5.symm)
  rw [← g5] at A5 D5 st5
  have R7 := CHr.trans R3 (CHr.ext E5 R3.1)
  have f8 : Fld Z h5 b5 cs0 "value" "[B" .null := D5 (Or.inl (w 44 rfl)) (ty := (.array .byte)) (by decide)
  have f9 : Fld Z h5 b5 cs0 "coder" "B" vI0 := D5 (Or.inl (w 46 rfl)) (ty := .byte) (by decide)
  have f10 : Fld Z h5 b5 cs0 "count" "I" vI0 := D5 (Or.inl (w 70 rfl)) (ty := .int) (by decide)
  have f11 : Fld Z h5 b5 cs0 "maybeLatin1" "Z" vI0 := D5 (Or.inl (w 235 rfl)) (ty := .boolean) (by decide)
  have o15 := Old.ext O0 E1
  have zz14 : n0 ≤ h1.size := by rw [← o15.1]; exact o15.2.1
  have g16 := Nat.le_trans zz14 (Nat.le_of_eq g5.symm)
  have o17 := Old.ext o15 E5
  obtain ⟨_, T18, Lc18, X18, hQ18, st18⟩ := own_fin (X5.specialBack hx (y := mN3) rfl hown (mvT hZ (w 32 rfl)) (mvT hZ (w 33 rfl)) (mvT hZ (w 34 rfl)) (by decide) (backOf (W := 3) (rm5_1 l Z a0 hw [] b5 x1 h5 n0 o17 f12 hc13 A5 f8 g16 f9 f10 f11 A5.lt) hZ (w 34 rfl) (w 31 rfl) (by decide) (by decide)) (g := (mkF m 8 #[lR r0] [(.ref b5), (.ref b5), (.ref b1), (.ref b1)])) rfl (by rw [hml]; rfl) (Steps.refl _) (a := b5) (argsL := []) (rest := [(.ref b5), (.ref b1), (.ref b1)]) (lenOf pd___V rfl) rfl (own_W rfl) (hb hby d4_8) (fun _ _ => ⟨rfl, e5, (by decide : 2 + 1 ≤ _), (by decide : 5 + 16 ≤ _)⟩))
  obtain ⟨b18_0, k18_0, rfl, N18q, K18, f19, f20, f21, f22, f23, f24, f25⟩ := hQ18
  have N18 := Fr.app N0 N18q
  have R26 := CHr.trans R7 (CHr.keep K18 (sfS (Safe.exa hZ.alike A5 (by decide) (by decide)) sf0) R7.1)
  have sf27 : Safe Z consts_1 s.vm h5 b18_0 := Safe.new f23
  have hS28 := (State.WarmedH.refl s).since 0
  have hstr : ∀ a ∈ Bundle.stringAtoms, a.before a0 Z = true := fun a q => hw a (own_str a q)
  obtain ⟨a29, T29, h29, kk29, b29, k29, X29, e29, E29, hS29, hk29, hZ29, ho29, EE29, C29, F29, V29, l29, m29, CR29, -, ne29, st29⟩ := ldcCH (s := s) (vm0 := s.vm) X18 hx hZ hown (w 47 rfl) hstr rfl hS28 (Nat.zero_le _) hEL (by simp [consts_1]) R26.1 (vs := [vI58]) (z := (1 : Int32)) ⟨by decide, by decide⟩ (by decide) rfl (g := (mkF m 11 #[lR r0] [(.ref b5), (.ref b1), (.ref b1)])) rfl (hb hby d4_11) (n := 4) (by decide) (by decide) (by decide) (by decide)
  have R30 := CHr.trans R26 CR29
  have f31 := (((A1.ext E5).keep K18).ext E29)
  have nl32 := ne29 _ (Safe.exa hZ29.alike f31 (by decide) (by decide))
  have f33 := ((A5.keep K18).ext E29)
  have nl34 := ne29 _ (Safe.exa hZ29.alike f33 (by decide) (by decide))
  have sf35 := (CHr.safe CR29 f24.lt (Safe.keep K18 (sfS (Safe.exa hZ.alike A5 (by decide) (by decide)) sf0) R7.1 sf27))
  have nl36 := ne29 _ sf35
  have f37 := (f21.ext E29)
  have f38 := (f19.ext E29)
  have f39 := (f24.ext E29)
  have f40 := (f20.ext E29)
  have zz41 : n0 ≤ h5.size := by rw [← o17.1]; exact o17.2.1
  have g42 := Nat.le_trans zz41 f23
  have n43 := Nat.ne_of_lt (Nat.lt_of_lt_of_le A5.lt f23)
  have f44 := (f22.ext E29)
  have o45 := Old.keep o17 K18 (allS g16 all0)
  have o46 := Old.ext o45 E29
  obtain ⟨_, T47, Lc47, X47, hQ47, st47⟩ := own_cV X29 hx hZ29 ho29 e29 (rm7_1 l Z a0 hw [] b5 a29 b29 (1 : Int32) k29 ([vI58]) x1 (0 : Int32) (0 : Int32) b18_0 (16 : Int32) k18_0 ([vI0, vI0, vI0, vI0, vI0, vI0, vI0, vI0, vI0, vI0, vI0, vI0, vI0, vI0, vI0, vI0]) (0 : Int32) (0 : Int32) h29 n0 o46 EE29 F29 V29 f12 hc13 C29 f37 f33 f38 f39 f40 (by decide) (by decide) (by decide) (by decide) (by decide) (by decide) (by decide) (by decide) g42 n43 g16 f44) f33 (w 48 rfl) (w 49 rfl) (w 51 rfl) (w 50 rfl) (w 52 rfl) (w 31 rfl) (by decide) (W := 2) (by decide) (by decide) (by decide) (by decide) (g := (mkF m 13 #[lR r0] [(.ref a29), (.ref b5), (.ref b1), (.ref b1)])) rfl (by rw [hml]; rfl) (argsL := [(.ref a29)]) (rest := [(.ref b1), (.ref b1)]) (lenOf pd__Ljava_lang_String__Ljava_lang_StringBuilder_ rfl) rfl (own_W rfl) (hb hby d4_13)
  obtain ⟨rfl, N47q, K47, f48, f49, f50, f51, f52⟩ := hQ47
  have N47 := Fr.app N18 N47q
  have R53 := CHr.trans R30 (CHr.keep K47 (sfS sf35 (sfS (Safe.exa hZ29.alike f33 (by decide) (by decide)) sf0)) R30.1)
  have f54 : Arv Z T47.heap b18_0 k18_0 .byte (16 : Int32) [vI58, vI0, vI0, vI0, vI0, vI0, vI0, vI0, vI0, vI0, vI0, vI0, vI0, vI0, vI0, vI0] vI0 := own_cpx (by decide : (((0 : Int32) <<< ((0 : Int32) &&& 31))).toNatClampNeg = 0) (by decide : (((0 : Int32) <<< ((0 : Int32) &&& 31))).toNatClampNeg + ((1 : Int32)).toNatClampNeg = 1) f48
  have f56 := (((((f55.ext E1).ext E5).keep K18).ext E29).keep K47)
  have zs59 := E1.1
  have n60 := Nat.ne_of_lt (Nat.lt_of_lt_of_le (Nat.lt_of_lt_of_le l58 zs59) (Nat.le_of_eq g5.symm))
  have zs61 := Nat.le_trans zs59 E5.1
  have n62 := Nat.ne_of_lt (Nat.lt_of_lt_of_le (Nat.lt_of_lt_of_le l58 zs61) f23)
  have f63 := (((((f57.ext E1).ext E5).keep K18 (ninS n60 nin0)).ext E29).keep K47 (ninS n62 (ninS n60 nin0)))
  have n66 := Nat.ne_of_lt (Nat.lt_of_lt_of_le (Nat.lt_of_lt_of_le l65 zs59) (Nat.le_of_eq g5.symm))
  have n67 := Nat.ne_of_lt (Nat.lt_of_lt_of_le (Nat.lt_of_lt_of_le l65 zs61) f23)
  have f68 := (((((f64.ext E1).ext E5).keep K18 (ninS n66 nin0)).ext E29).keep K47 (ninS n67 (ninS n66 nin0)))
  have f70 := (((((f69.ext E1).ext E5).keep K18 (ninS n60 nin0)).ext E29).keep K47 (ninS n62 (ninS n60 nin0)))
  have f71 := (f33.keep K47)
  have o72 := Old.keep o46 K47 (allS g42 (allS g16 all0))
  obtain ⟨_, T73, Lc73, X73, hQ73, st73⟩ := own_cV X47 hx hZ29 ho29 rfl (rm7_1 l Z a0 hw [] b5 r0 r2 (1 : Int32) c3 ([(.int x4)]) x1 (0 : Int32) (1 : Int32) b18_0 (16 : Int32) k18_0 ([vI58, vI0, vI0, vI0, vI0, vI0, vI0, vI0, vI0, vI0, vI0, vI0, vI0, vI0, vI0, vI0]) (0 : Int32) (0 : Int32) T47.heap n0 o72 f56 f63 f68 f12 hc13 f70 f49 f71 f50 f54 f51 (by decide) (by decide) (by decide) (own_lenK (n := 1) rfl (by decide) : [(.int x4)].length = ((1 : Int32)).toNatClampNeg) (by decide) (by decide) (by decide) (by decide) g42 n43 g16 f52) f71 (w 48 rfl) (w 49 rfl) (w 51 rfl) (w 50 rfl) (w 52 rfl) (w 31 rfl) (by decide) (W := 2) (by decide) (by decide) (by decide) (by decide) (g := (mkF m 17 #[lR r0] [(.ref r0), (.ref b5), (.ref b1), (.ref b1)])) rfl (by rw [hml]; rfl) (argsL := [(.ref r0)]) (rest := [(.ref b1), (.ref b1)]) (lenOf pd__Ljava_lang_String__Ljava_lang_StringBuilder_ rfl) rfl (own_W rfl) (hb hby d4_17)
  obtain ⟨rfl, N73q, K73, f74, f75, f76, f77, f78⟩ := hQ73
  have N73 := Fr.app N47 N73q
  have sf79 := (Safe.keep K47 (sfS sf35 (sfS (Safe.exa hZ29.alike f33 (by decide) (by decide)) sf0)) R30.1 sf35)
  have R80 := CHr.trans R53 (CHr.keep K73 (sfS sf79 (sfS (Safe.exa hZ29.alike f71 (by decide) (by decide)) sf0)) R53.1)
  have f81 : Arv Z T73.heap b18_0 k18_0 .byte (16 : Int32) [vI58, (.int x4), vI0, vI0, vI0, vI0, vI0, vI0, vI0, vI0, vI0, vI0, vI0, vI0, vI0, vI0] vI0 := own_cpx (by decide : (((1 : Int32) <<< ((0 : Int32) &&& 31))).toNatClampNeg = 1) (by decide : (((1 : Int32) <<< ((0 : Int32) &&& 31))).toNatClampNeg + ((1 : Int32)).toNatClampNeg = 2) f74
  have f82 := (f71.keep K73)
  have zs83 := E29.1
  have zs84 := Nat.le_trans zs83 K47.1
  have zs85 := Nat.le_trans zs84 K73.1
  have o86 := Old.keep o72 K73 (allS g42 (allS g16 all0))
  obtain ⟨_, T87, Lc87, X87, hQ87, st87⟩ := own_cV X73 hx hZ29 ho29 rfl (rm15_1 l Z a0 hw [] b5 b18_0 (2 : Int32) x1 (0 : Int32) (16 : Int32) k18_0 ([vI58, (.int x4), vI0, vI0, vI0, vI0, vI0, vI0, vI0, vI0, vI0, vI0, vI0, vI0, vI0, vI0]) T73.heap n0 o86 f82 f76 f75 f12 hc13 f77 (by decide) f81 (Nat.lt_of_lt_of_le f24.lt zs85) (by decide) (by decide) (by decide) (by decide) (by decide) (by decide)) f82 (w 96 rfl) (w 97 rfl) (w 99 rfl) (w 98 rfl) (w 100 rfl) (w 31 rfl) (by decide) (W := 2) (by decide) (by decide) (by decide) (by decide) (g := (mkF m 20 #[lR r0] [(.ref b5), (.ref b1), (.ref b1)])) rfl (by rw [hml]; rfl) (argsL := []) (rest := [(.ref b1), (.ref b1)]) (lenOf pd___Ljava_lang_String_ rfl) rfl (own_W rfl) (hb hby d4_20)
  obtain ⟨b87_0, b87_1, k87_0, rfl, N87q, K87, f88, f89, f90, f91, f92, f93, f94, f95⟩ := hQ87
  have N87 := Fr.app N73 N87q
  have R96 := CHr.trans R80 (CHr.keep K87 sf0 R80.1)
  have sf97 : Safe Z consts_1 T29.vm T73.heap b87_0 := Safe.new f88
  have sf98 : Safe Z consts_1 T29.vm T73.heap b87_1 := Safe.new f92
  have f99 : Arv Z T87.heap b87_1 k87_0 .byte (2 : Int32) [vI58, (.int x4)] vI0 := own_trunc (ws := [vI58, (.int x4)]) (rest := [vI0, vI0, vI0, vI0, vI0, vI0, vI0, vI0, vI0, vI0, vI0, vI0, vI0, vI0]) (own_lenK (n := 2) rfl (by decide)) f93
  have f100 := (((f31.keep K47).keep K73).keep K87)
  have n101 := Nat.ne_of_lt (Nat.lt_of_lt_of_le A1.lt (Nat.le_of_eq g5.symm))
  have zs102 := E5.1
  have n103 := Nat.ne_of_lt (Nat.lt_of_lt_of_le (Nat.lt_of_lt_of_le A1.lt zs102) f23)
  have f104 := ((((((f4.ext E5).keep K18 (ninS n101 nin0)).ext E29).keep K47 (ninS n103 (ninS n101 nin0))).keep K73 (ninS n103 (ninS n101 nin0))).keep K87 nin0)
  have zz105 : n0 ≤ h0.size := by rw [← O0.1]; exact O0.2.1
  have g106 := Nat.le_trans zz105 (Nat.le_of_eq g1.symm)
  have o107 := Old.keep o86 K87 all0
  obtain ⟨_, T108, Lc108, X108, hQ108, st108⟩ := own_fin (X87.specialBack hx (y := mN24) rfl ho29 (mvT hZ29 (w 141 rfl)) (mvT hZ29 (w 142 rfl)) (mvT hZ29 (w 143 rfl)) (by decide) (backOf (W := 1) (rm26_1 l Z a0 hw [] b1 b87_0 T87.heap n0 o107 f100 f104 g106) hZ29 (w 143 rfl) (w 25 rfl) (by decide) (by decide)) (g := (mkF m 23 #[lR r0] [(.ref b87_0), (.ref b1), (.ref b1)])) rfl (by rw [hml]; rfl) (Steps.refl _) (a := b1) (argsL := [(.ref b87_0)]) (rest := [(.ref b1)]) (lenOf pd__Ljava_lang_String__V rfl) rfl (own_W rfl) (hb hby d4_23) (fun _ _ => ⟨rfl, rfl, (by decide : 7 + 0 ≤ _), (by decide : 49 + 0 ≤ _)⟩))
  obtain ⟨rfl, N108q, K108, f109⟩ := hQ108
  have N108 := Fr.app N87 N108q
  have R110 := CHr.trans R96 (CHr.keep K108 (sfS (Safe.exa hZ29.alike f100 (by decide) (by decide)) sf0) R96.1)
  have f111 := (f100.keep K108)
  have zs112 := Nat.le_trans zs61 K18.1
  have zs113 := Nat.le_trans zs112 E29.1
  have zs114 := Nat.le_trans zs113 K47.1
  have zs115 := Nat.le_trans zs114 K73.1
  have f116 := (f89.keep K108)
  have zs117 := Nat.le_trans zs102 K18.1
  have zs118 := Nat.le_trans zs117 E29.1
  have zs119 := Nat.le_trans zs118 K47.1
  have zs120 := Nat.le_trans zs119 K73.1
  have n121 := Nat.ne_of_lt (Nat.lt_of_lt_of_le (Nat.lt_of_lt_of_le A1.lt zs120) f88)
  have f122 := (f90.keep K108 (ninS (Ne.symm n121) nin0))
  have f123 := (f91.keep K108 (ninS (Ne.symm n121) nin0))
  have n124 := Nat.ne_of_lt (Nat.lt_of_lt_of_le (Nat.lt_of_lt_of_le A1.lt zs120) f92)
  have f125 := (f99.keep K108 (ninS (Ne.symm n124) nin0))
  have f126 := (f94.keep K108)
  have kp127 : Keep h0 h1 [] := (Keep.refl h0 []).ext E1
  have kp128 : Keep h0 h5 [] := kp127.ext E5
  have kp129 : Keep h0 T18.heap [] := kp128.trans K18 (allS (Or.inr (Nat.le_trans zs59 (Nat.le_of_eq g5.symm))) all0)
  have kp130 : Keep h0 h29 [] := kp129.ext E29
  have kp131 : Keep h0 T47.heap [] := kp130.trans K47 (allS (Or.inr (Nat.le_trans zs61 f23)) (allS (Or.inr (Nat.le_trans zs59 (Nat.le_of_eq g5.symm))) all0))
  have kp132 : Keep h0 T73.heap [] := kp131.trans K73 (allS (Or.inr (Nat.le_trans zs61 f23)) (allS (Or.inr (Nat.le_trans zs59 (Nat.le_of_eq g5.symm))) all0))
  have kp133 : Keep h0 T87.heap [] := kp132.trans K87 all0
  have kp134 : Keep h0 T108.heap [] := kp133.trans K108 (allS (Or.inr (Nat.le_of_eq g1.symm)) all0)
  have zs135 := K47.1
  have zs136 := Nat.le_trans zs135 K73.1
  have zs137 := Nat.le_trans zs136 K87.1
  have zs138 := Nat.le_trans zs137 K108.1
  refine ⟨some (.ref b1), _, _, _, _, _, _, _, nofun, X108, by decide, by decide, hS29, ((Nat.le_trans hk29 zs138)), hZ29, rfl, R110, ?_, fun fs hr => ?_⟩
  · exact ⟨b1, b87_0, b87_1, k87_0, rfl, N108, kp134, (Nat.le_of_eq g1.symm), f111, f109, (Nat.le_trans zs115 f88), f116, f122, f123, (Nat.le_trans zs115 f92), f125, f126, n121, n124, f95⟩
  · show SG p e below s₁ (mkF m 0 #[lR r0] []) _
    refine st1 _ ?_
    refine qd X1 hx hby d4_3 ?_
    refine st5 _ ?_
    refine qd X5 hx hby d4_7 ?_
    refine st18.trans ?_
    refine st29 _ ?_
    refine st47 _ ?_
    refine qaN X47 hx hby d4_16 ?_
    refine st73 _ ?_
    refine st87 _ ?_
    show SG p e below T87 (mkF m 23 #[lR r0] [(.ref b87_0), (.ref b1), (.ref b1)]) _
    refine st108.trans ?_
    exact retOut X108 hx (i := .areturn) hret rfl (Or.inr (Or.inr (Or.inr (Or.inr ⟨rfl, rfl, rfl⟩)))) (hb hby d4_26) hr
def Q0_3 (Z : State) (x0 x1 : Int32) (x2 x3 : Int32) (x4 x5 : Int32) (x6 x7 : Int32) (u8 : Value) (h0 : Heap) (n0 : Nat) (v : Option Value) (h : Heap) (L : List Loc) : Prop := v = some vI1 ∧ Fr n0 L
theorem rm0_3 (l : Launch) (Z : State) (a0 : Array Value) (hw : own_HW a0 Z) (ws : List Jvm.Cond) (x0 x1 : Int32) (x2 x3 : Int32) (x4 x5 : Int32) (x6 x7 : Int32) (u8 : Value) (h0 : Heap) (n0 : Nat) (O0 : Old Z n0 h0) (hc1 : (x0 &&& (3 : Int32)) = (1 : Int32)) (hq2 : ((x1 &&& (65535 : Int32)).toUInt32.toUInt16.toUInt32.toInt32) = x4) (hq3 : ((x2 &&& (65535 : Int32)).toUInt32.toUInt16.toUInt32.toInt32) = x5) (hq4 : ((x3 &&& (65535 : Int32)).toUInt32.toUInt16.toUInt32.toInt32) = x6) (f20 : Sta Z Z.heap "java/lang/String" "COMPACT_STRINGS" "Z" (.int x7)) (hc25 : ¬ (x7 = (0 : Int32))) (hc28 : ¬ ((255 : Int32) < (nar .char x4))) (f61 : Sta Z Z.heap cs7 "SIOOBE_FORMATTER" cs8 u8) (hc62 : u8.isRef = true) (hc65 : (nar .char (nar .char ((((nar .char x4).toInt8.toInt32) &&& (255 : Int32)).toUInt32.toUInt16.toUInt32.toInt32))) = x4) :
    own_MH l x code maxLocals ret ws room_1 Z h0 #[(.int x0), (.int x1), (.int x2), (.int x3)] (Q0_3 Z x0 x1 x2 x3 x4 x5 x6 x7 u8 h0 n0) := by
  have hEL : EW Z a0 consts_1 := own_EW hw
  refine own_openH hEL (plainFor_of_name pn_com_example_manojo_manojo_ParameterNamedPinLaw) (L0 := #[lI x0, lI x1, lI x2, lI x3, lU, lU, lU, lU, lU, lU, lU, lU]) (fun _ => by first | (simp [entryFrame, mkF, argsToLocals, Value.category, maxLocals]; done) | rfl) ?_
  intro p e s m below meth c s₁ hx hby hml hret hnn hZ hown X0 e0 R0
  have N0 := Fr.nil n0; have w := @ww Z a0 hw
  obtain ⟨T5, h5, k5, X5, e5, E5, A5, B5, st5⟩ := newPE X0 hx hZ (w 1 rfl) e0 (g := (mkF m 28 #[lI x0, lI x1, lI x2, lI x3, lV vI1, lI x4, lI x5, lI x6, lU, lU, lU, lU] [vI1])) rfl (hb hby at_28) rfl (by decide) (cap := 1) (by decide) (by decide) (by decide) (by decide) (ad := "[C") rfl
  obtain ⟨b5, g5⟩ : ∃ z, z = h0.size := ⟨_, rfl⟩
  have sf6 : Safe Z consts_1 s.vm h0 b5 := Safe.new (Nat.le_of_eq g5.symm)
  rw [← g5] at A5 B5 st5
  have R7 := CHr.trans R0 (CHr.ext E5 R0.1)
  have V5 : Arv Z h5 b5 k5 .char (1 : Int32) [vI0] vI0 := (Arv.new A5 (by decide)).pad (pad_rep [] vI0 1)
  obtain ⟨clq8, Arq8, qq8, Sq8, Nq8, Hq8, Gq8⟩ := id V5
  have zz9 : n0 ≤ h0.size := by rw [← O0.1]; exact O0.2.1
  have g10 := Nat.le_trans zz9 (Nat.le_of_eq g5.symm)
  obtain ⟨T11, h11, X11, e11, W11, st11⟩ := stC X5 hx hZ e5 Arq8 (j := (0 : Int32)) (inb_of Sq8 ⟨(by decide : ¬ ((0 : Int32) < (0 : Int32))), (by decide : (0 : Int32) < (1 : Int32))⟩) (g := (mkF m 42 #[lI x0, lI x1, lI x2, lI x3, lV vI1, lI x4, lI x5, lI x6, lR b5, lU, lU, lU] [(.int x4), vI0, (.ref b5)])) rfl rfl (hb hby at_42)
  have sf12 : Safe Z consts_1 s.vm h5 b5 := (Safe.exa hZ.alike B5 (by decide) (by decide))
  have R13 := CHr.trans R7 (CHr.wr W11 sf12 R7.1)
  have V11 : Arv Z h11 b5 k5 .char (1 : Int32) [(.int (nar .char x4))] vI0 := Arv.set Arq8 qq8 Sq8 Nq8 Hq8 Gq8 (fits_nar_char _) W11 0 rfl (Nat.le_of_ble_eq_true rfl)
  have N11 := Fr.snoc X11 N0 g10
  obtain ⟨T14, h14, X14, e14, E14, A14, D14, -, st14⟩ := newO X11 hx hZ hown (w 2 rfl) (w 3 rfl) (w 4 rfl) e11 (g := (mkF m 67 #[lI x0, lI x1, lI x2, lI x3, lV vI1, lI x4, lI x5, lI x6, lR b5, lU, lU, lU] [])) rfl (hb hby at_67) (by decide) (by decide)
  obtain ⟨b14, g14⟩ : ∃ z, z = h11.size := ⟨_, rfl⟩
  have sf15 : Safe Z consts_1 s.vm h11 b14 := Safe.new (Nat.le_of_eq g14.symm)
  rw [← g14] at A14 D14 st14
  have R16 := CHr.trans R13 (CHr.ext E14 R13.1)
  have f17 : Fld Z h14 b14 "java/lang/String" "value" "[B" .null := D14 (Or.inr (w 17 rfl)) (ty := (.array .byte)) (by decide)
  have f18 : Fld Z h14 b14 "java/lang/String" "coder" "B" vI0 := D14 (Or.inr (w 18 rfl)) (ty := .byte) (by decide)
  have f19 := (V11.ext E14)
  have o21 := Old.ext O0 E5
  have o22 := Old.wr o21 W11 g10
  have o23 := Old.ext o22 E14
  have f24 := f20.ext o23.2
  have zz26 : n0 ≤ h11.size := by rw [← o22.1]; exact o22.2.1
  have g27 := Nat.le_trans zz26 (Nat.le_of_eq g14.symm)
  obtain ⟨_, T29, Lc29, X29, hQ29, st29⟩ := own_fin (X14.specialBack hx (y := mN1) rfl hown (mvT hZ (w 5 rfl)) (mvT hZ (w 6 rfl)) (mvT hZ (w 7 rfl)) (by decide) (own_newStr hZ hw (w 3 rfl) (cs := [(nar .char x4)]) (n := 1) g27 A14 f17 f18 f19 f24 hc25 rfl rfl (by decide) (by decide) (own_acS hc28 own_ac0) (own_bsS rfl own_bs0) (by decide) (by decide : 1 + 65 ≤ _)) (g := (mkF m 73 #[lI x0, lI x1, lI x2, lI x3, lV vI1, lI x4, lI x5, lI x6, lR b5, lU, lU, lU] [(.ref b5), (.ref b14), (.ref b14)])) rfl (by rw [hml]; rfl) (Steps.refl _) (a := b14) (argsL := [(.ref b5)]) (rest := [(.ref b14)]) (lenOf pd___C_V rfl) rfl (own_W rfl) (hb hby at_73) (fun _ _ => ⟨rfl, e14, (by decide : 2 + 1 ≤ _), (by decide : 5 + 1 ≤ _)⟩))
  obtain ⟨b29_0, k29_0, rfl, N29q, K29, f30, f31, f32, f33, f34, f35⟩ := hQ29
  have N29 := Fr.app N11 N29q
  have sf36 := (Safe.ext E14 R13.1 sf15)
  have R37 := CHr.trans R16 (CHr.keep K29 (sfS sf36 sf0) R16.1)
  have sf38 : Safe Z consts_1 s.vm h14 b29_0 := Safe.new f32
  have f39 := (A14.keep K29)
  have zs40 := K29.1
  have o41 := Old.keep o23 K29 (allS g27 all0)
  have hS42 := (State.WarmedH.refl s).since 0
  obtain ⟨_, _, ⟨T43, L43, k43, n43⟩, -, X43, hs43, hg43, ⟨Lc43, hQ43, l43, y43, z43, cr43⟩, st43⟩ := callSS X29 hx (y := mN25) hown (mvT hZ (w 23 rfl)) (mvT hZ (w 24 rfl)) (mvT hZ (w 25 rfl)) (mvT hZ (w 26 rfl)) (by decide) (backOfSH (s := s) (vm0 := s.vm) (W := 0) (rm4_3 l Z a0 hw [] b14 x7 b29_0 k29_0 ((nar .char x4).toInt8.toInt32) T29.heap n0 o41 f20 hc25 f39 f31 (Nat.lt_of_lt_of_le A14.lt zs40) f33 f33.lt f30) hZ (w 26 rfl) (w 25 rfl) (by decide) (by decide) hEL R37.1) (g := (mkF m 80 #[lI x0, lI x1, lI x2, lI x3, lV vI1, lI x4, lI x5, lI x6, lR b5, lR b14, lU, lU] [(.ref b14)])) rfl (by rw [hml]; rfl) (argsL := [(.ref b14)]) (rest := []) (lenOf pd__Ljava_lang_String__Lcom_example_manojo_manojo_QueryTree_Parameter_ rfl) rfl (own_W rfl) (hb hby at_80) (fun _ _ => ⟨rfl, rfl, (by decide : 3 + 7 ≤ _), (by decide : 6 + 49 ≤ _)⟩)
  dsimp only [Pt.U, Pt.locs, Pt.cells, Pt.slots] at X43 l43 y43 z43 st43 hQ43 hs43 hg43 cr43
  subst l43 y43 z43
  obtain ⟨X43, hS43, hZ43, ho43⟩ := rebS (s := s) (vm0 := s.vm) hS42 ((Nat.zero_le _)) X43 hs43 hg43 hZ hown
  obtain ⟨b43_0, b43_1, b43_2, k43_0, rfl, N43q, K43, f44, f45, f46, f47, f48, f49, f50, f51, f52, f53, f54, f55, f56⟩ := hQ43
  have N43 := Fr.app N29 N43q
  have R57 := CHr.trans R37 cr43
  have o58 := Old.keep o41 K43 all0
  obtain ⟨_, T59, Lc59, X59, hQ59, st59⟩ := own_cV X43 hx hZ43 ho43 rfl (rm28_1 l Z a0 hw [] b43_0 b43_1 T43.heap n0 o58 f46) f45 (w 152 rfl) (w 153 rfl) (w 155 rfl) (w 154 rfl) (w 156 rfl) (w 25 rfl) (by decide) (W := 0) (by decide) (by decide) (by decide) (by decide) (g := (mkF m 87 #[lI x0, lI x1, lI x2, lI x3, lV vI1, lI x4, lI x5, lI x6, lR b5, lR b14, lR b43_0, lU] [(.ref b43_0)])) rfl (by rw [hml]; rfl) (argsL := []) (rest := []) (lenOf pd___Ljava_lang_String_ rfl) rfl (own_W rfl) (hb hby at_87)
  obtain ⟨rfl, N59q, E59⟩ := hQ59
  have N59 := Fr.app N43 N59q
  obtain ⟨_, T60, Lc60, X60, hQ60, st60⟩ := own_cV X59 hx hZ43 ho43 E59 (rm9_1 l Z a0 hw [] b43_1 b43_2 (2 : Int32) k43_0 ([vI58, (.int ((nar .char x4).toInt8.toInt32))]) x7 (0 : Int32) T43.heap n0 o58 f50 f52 f48 f20 hc25 f49) f48 (w 157 rfl) (w 59 rfl) (w 61 rfl) (w 60 rfl) (w 62 rfl) (w 4 rfl) (by decide) (W := 0) (by decide) (by decide) (by decide) (by decide) (g := (mkF m 99 #[lI x0, lI x1, lI x2, lI x3, lV vI1, lI x4, lI x5, lI x6, lR b5, lR b14, lR b43_0, lR b43_1] [(.ref b43_1)])) rfl (by rw [hml]; rfl) (argsL := []) (rest := []) (lenOf pd___I rfl) rfl (own_W rfl) (hb hby at_99)
  obtain ⟨rfl, N60q, E60⟩ := hQ60
  have N60 := Fr.app N59 N60q
  obtain ⟨_, T63, Lc63, X63, hQ63, st63⟩ := own_cV X60 hx hZ43 ho43 E60 (rm29_1 l Z a0 hw [] b43_1 (0 : Int32) x7 (0 : Int32) b43_2 (2 : Int32) k43_0 ([vI58, (.int ((nar .char x4).toInt8.toInt32))]) u8 (58 : Int32) T43.heap n0 o58 f48 f20 hc25 f49 (by decide) f50 f52 f61 hc62 (by decide) (by decide) (own_gd (n := 0) rfl rfl)) f48 (w 158 rfl) (w 159 rfl) (w 161 rfl) (w 160 rfl) (w 162 rfl) (w 4 rfl) (by decide) (W := 0) (by decide) (by decide) (by decide) (by decide) (g := (mkF m 114 #[lI x0, lI x1, lI x2, lI x3, lV vI1, lI x4, lI x5, lI x6, lR b5, lR b14, lR b43_0, lR b43_1] [vI0, (.ref b43_1)])) rfl (by rw [hml]; rfl) (argsL := [vI0]) (rest := []) (lenOf pd__I_C rfl) rfl (own_W rfl) (hb hby at_114)
  obtain ⟨rfl, N63q, E63⟩ := hQ63
  have N63 := Fr.app N60 N63q
  obtain ⟨_, T64, Lc64, X64, hQ64, st64⟩ := own_cV X63 hx hZ43 ho43 E63 (rm29_1 l Z a0 hw [] b43_1 (1 : Int32) x7 (0 : Int32) b43_2 (2 : Int32) k43_0 ([vI58, (.int ((nar .char x4).toInt8.toInt32))]) u8 ((nar .char x4).toInt8.toInt32) T43.heap n0 o58 f48 f20 hc25 f49 (by decide) f50 f52 f61 hc62 (by decide) (by decide) (own_gd (n := 1) rfl rfl)) f48 (w 158 rfl) (w 159 rfl) (w 161 rfl) (w 160 rfl) (w 162 rfl) (w 4 rfl) (by decide) (W := 0) (by decide) (by decide) (by decide) (by decide) (g := (mkF m 132 #[lI x0, lI x1, lI x2, lI x3, lV vI1, lI x4, lI x5, lI x6, lR b5, lR b14, lR b43_0, lR b43_1] [vI1, (.ref b43_1)])) rfl (by rw [hml]; rfl) (argsL := [vI1]) (rest := []) (lenOf pd__I_C rfl) rfl (own_W rfl) (hb hby at_132)
  obtain ⟨rfl, N64q, E64⟩ := hQ64
  have N64 := Fr.app N63 N64q
  refine ⟨some vI1, _, _, _, _, _, _, _, nofun, X64, by decide, by decide, hS43, (by rw [E64]; exact (Nat.le_refl _)), hZ43, E64, R57, ?_, fun fs hr => ?_⟩
  · rw [E64]; exact ⟨rfl, N64⟩
  · show SG p e below s₁ (mkF m 0 #[lI x0, lI x1, lI x2, lI x3, lU, lU, lU, lU, lU, lU, lU, lU] []) _
    refine qiN X0 hx hby at_0 ?_
    refine qc X0 hx hby at_1 ?_
    refine XS.iand X0.here hx rfl (hb hby at_2) rfl ?_
    show SG p e below s₁ (mkF m 3 #[lI x0, lI x1, lI x2, lI x3, lU, lU, lU, lU, lU, lU, lU, lU] [(.int (x0 &&& (3 : Int32)))]) _
    rw [hc1]
    refine XS.istore X0.here hx rfl (hb hby at_3) rfl (l' := #[lI x0, lI x1, lI x2, lI x3, lV vI1, lU, lU, lU, lU, lU, lU, lU]) rfl ?_
    refine qiN X0 hx hby at_5 ?_
    refine X0.ldcInt hx hown (mvT hZ (w 0 rfl)) (g := (mkF m 6 #[lI x0, lI x1, lI x2, lI x3, lV vI1, lU, lU, lU, lU, lU, lU, lU] [(.int x1)])) rfl (hb hby at_6) _ ?_
    refine XS.iand X0.here hx rfl (hb hby at_8) rfl ?_
    refine XS.i2c X0.here hx rfl (hb hby at_9) rfl ?_
    show SG p e below s₁ (mkF m 10 #[lI x0, lI x1, lI x2, lI x3, lV vI1, lU, lU, lU, lU, lU, lU, lU] [(.int ((x1 &&& (65535 : Int32)).toUInt32.toUInt16.toUInt32.toInt32))]) _
    rw [hq2]
    refine XS.istore X0.here hx rfl (hb hby at_10) rfl (l' := #[lI x0, lI x1, lI x2, lI x3, lV vI1, lI x4, lU, lU, lU, lU, lU, lU]) rfl ?_
    refine qiN X0 hx hby at_12 ?_
    show SG p e below s₁ (mkF m 13 #[lI x0, lI x1, lI x2, lI x3, lV vI1, lI x4, lU, lU, lU, lU, lU, lU] [(.int x2)]) _
    refine X0.ldcInt hx hown (mvT hZ (w 0 rfl)) (g := (mkF m 13 #[lI x0, lI x1, lI x2, lI x3, lV vI1, lI x4, lU, lU, lU, lU, lU, lU] [(.int x2)])) rfl (hb hby at_13) _ ?_
    refine XS.iand X0.here hx rfl (hb hby at_15) rfl ?_
    refine XS.i2c X0.here hx rfl (hb hby at_16) rfl ?_
    show SG p e below s₁ (mkF m 17 #[lI x0, lI x1, lI x2, lI x3, lV vI1, lI x4, lU, lU, lU, lU, lU, lU] [(.int ((x2 &&& (65535 : Int32)).toUInt32.toUInt16.toUInt32.toInt32))]) _
    rw [hq3]
    refine XS.istore X0.here hx rfl (hb hby at_17) rfl (l' := #[lI x0, lI x1, lI x2, lI x3, lV vI1, lI x4, lI x5, lU, lU, lU, lU, lU]) rfl ?_
    refine qiN X0 hx hby at_19 ?_
    refine X0.ldcInt hx hown (mvT hZ (w 0 rfl)) (g := (mkF m 20 #[lI x0, lI x1, lI x2, lI x3, lV vI1, lI x4, lI x5, lU, lU, lU, lU, lU] [(.int x3)])) rfl (hb hby at_20) _ ?_
    refine XS.iand X0.here hx rfl (hb hby at_22) rfl ?_
    refine XS.i2c X0.here hx rfl (hb hby at_23) rfl ?_
    show SG p e below s₁ (mkF m 24 #[lI x0, lI x1, lI x2, lI x3, lV vI1, lI x4, lI x5, lU, lU, lU, lU, lU] [(.int ((x3 &&& (65535 : Int32)).toUInt32.toUInt16.toUInt32.toInt32))]) _
    rw [hq4]
    refine XS.istore X0.here hx rfl (hb hby at_24) rfl (l' := #[lI x0, lI x1, lI x2, lI x3, lV vI1, lI x4, lI x5, lI x6, lU, lU, lU, lU]) rfl ?_
    refine qi X0 hx hby at_26 ?_
    show SG p e below s₁ (mkF m 28 #[lI x0, lI x1, lI x2, lI x3, lV vI1, lI x4, lI x5, lI x6, lU, lU, lU, lU] [vI1]) _
    refine st5 _ ?_
    refine XS.astore X5.here hx rfl (hb hby at_30) rfl rfl (l' := #[lI x0, lI x1, lI x2, lI x3, lV vI1, lI x4, lI x5, lI x6, lR b5, lU, lU, lU]) rfl ?_
    refine qi X5 hx hby at_32 ?_
    refine XS.ifNo X5.here hx rfl (hb hby at_34) rfl ((if0 _ _).trans (tlt (by decide : (0 : Int32) < (1 : Int32))).2.2.2) ?_
    refine qa X5 hx hby at_37 ?_
    refine qc X5 hx hby at_39 ?_
    refine qi X5 hx hby at_40 ?_
    refine st11 _ ?_
    refine qi X11 hx hby at_43 ?_
    refine qc X11 hx hby at_45 ?_
    show SG p e below T11 (mkF m 46 #[lI x0, lI x1, lI x2, lI x3, lV vI1, lI x4, lI x5, lI x6, lR b5, lU, lU, lU] [vI1, vI1]) _
    refine XS.icmpYes X11.here hx rfl (pc0 := 46) (pc' := 55) rfl (hb hby at_46) rfl (flt (by decide : ¬ ((1 : Int32) < (1 : Int32)))).2.2.2 (by decide) (by decide) ?_
    refine qi X11 hx hby at_55 ?_
    refine qc X11 hx hby at_57 ?_
    refine XS.icmpYes X11.here hx rfl (pc0 := 58) (pc' := 67) rfl (hb hby at_58) rfl (flt (by decide : ¬ ((2 : Int32) < (1 : Int32)))).2.2.2 (by decide) (by decide) ?_
    refine st14 _ ?_
    refine qd X14 hx hby at_70 ?_
    refine qa X14 hx hby at_71 ?_
    refine st29.trans ?_
    refine XS.astore X29.here hx rfl (hb hby at_76) rfl rfl (l' := #[lI x0, lI x1, lI x2, lI x3, lV vI1, lI x4, lI x5, lI x6, lR b5, lR b14, lU, lU]) rfl ?_
    refine qa X29 hx hby at_78 ?_
    show SG p e below T29 (mkF m 80 #[lI x0, lI x1, lI x2, lI x3, lV vI1, lI x4, lI x5, lI x6, lR b5, lR b14, lU, lU] [(.ref b14)]) _
    refine st43.trans ?_
    refine XS.astore X43.here hx rfl (hb hby at_83) rfl rfl (l' := #[lI x0, lI x1, lI x2, lI x3, lV vI1, lI x4, lI x5, lI x6, lR b5, lR b14, lR b43_0, lU]) rfl ?_
    refine qa X43 hx hby at_85 ?_
    refine st59 _ ?_
    refine XS.astore X59.here hx rfl (hb hby at_90) rfl rfl (l' := #[lI x0, lI x1, lI x2, lI x3, lV vI1, lI x4, lI x5, lI x6, lR b5, lR b14, lR b43_0, lR b43_1]) rfl ?_
    refine qa X59 hx hby at_92 ?_
    refine XS.ifnullNo X59.here hx rfl (hb hby at_94) rfl ?_
    refine qa X59 hx hby at_97 ?_
    refine st60 _ ?_
    refine qi X60 hx hby at_102 ?_
    show SG p e below T60 (mkF m 104 #[lI x0, lI x1, lI x2, lI x3, lV vI1, lI x4, lI x5, lI x6, lR b5, lR b14, lR b43_0, lR b43_1] [vI1, vI2]) _
    refine qc X60 hx hby at_104 ?_
    refine XS.iadd X60.here hx rfl (hb hby at_105) rfl ?_
    refine XS.icmpYes X60.here hx rfl (pc0 := 106) (pc' := 111) rfl (hb hby at_106) rfl (teq (rfl : (2 : Int32) = (2 : Int32))).1 (by decide) (by decide) ?_
    refine qa X60 hx hby at_111 ?_
    refine qc X60 hx hby at_113 ?_
    refine st63 _ ?_
    refine qb X63 hx hby at_117 ?_
    refine XS.icmpYes X63.here hx rfl (pc0 := 119) (pc' := 124) rfl (hb hby at_119) rfl (teq (rfl : (58 : Int32) = (58 : Int32))).1 (by decide) (by decide) ?_
    refine qi X63 hx hby at_124 ?_
    refine XS.ifNo X63.here hx rfl (hb hby at_126) rfl ((if0 _ _).trans (tlt (by decide : (0 : Int32) < (1 : Int32))).2.2.2) ?_
    show SG p e below T63 (mkF m 129 #[lI x0, lI x1, lI x2, lI x3, lV vI1, lI x4, lI x5, lI x6, lR b5, lR b14, lR b43_0, lR b43_1] []) _
    refine qa X63 hx hby at_129 ?_
    refine qc X63 hx hby at_131 ?_
    refine st64 _ ?_
    refine qi X64 hx hby at_135 ?_
    refine XS.icmpYes X64.here hx rfl (pc0 := 137) (pc' := 142) rfl (hb hby at_137) rfl (teq hc65).1 (by decide) (by decide) ?_
    refine qi X64 hx hby at_142 ?_
    refine qc X64 hx hby at_144 ?_
    refine XS.icmpYes X64.here hx rfl (pc0 := 145) (pc' := 161) rfl (hb hby at_145) rfl (flt (by decide : ¬ ((1 : Int32) < (1 : Int32)))).2.2.2 (by decide) (by decide) ?_
    refine qi X64 hx hby at_161 ?_
    refine qc X64 hx hby at_163 ?_
    show SG p e below T64 (mkF m 164 #[lI x0, lI x1, lI x2, lI x3, lV vI1, lI x4, lI x5, lI x6, lR b5, lR b14, lR b43_0, lR b43_1] [vI2, vI1]) _
    refine XS.icmpYes X64.here hx rfl (pc0 := 164) (pc' := 180) rfl (hb hby at_164) rfl (flt (by decide : ¬ ((2 : Int32) < (1 : Int32)))).2.2.2 (by decide) (by decide) ?_
    refine qc X64 hx hby at_180 ?_
    exact retN X64 hx (t := .boolean) hret (by simp) (hb hby at_181) hr
def Q35_2 (Z : State) (r0 r1 : Addr) (c2 : ClassId) (x3 x4 : Int32) (h0 : Heap) (n0 : Nat) (v : Option Value) (h : Heap) (L : List Loc) : Prop := v = some vI0 ∧ Fr n0 L ∧ h = h0
theorem rm35_2 (l : Launch) (Z : State) (a0 : Array Value) (hw : own_HW a0 Z) (ws : List Jvm.Cond) (r0 r1 : Addr) (c2 : ClassId) (x3 x4 : Int32) (h0 : Heap) (n0 : Nat) (O0 : Old Z n0 h0) (f1 : Arv Z h0 r0 c2 .char (2 : Int32) [(.int x3), (.int x4)] vI0) (hc3 : (255 : Int32) < x3) :
    own_MF l mN32 jdk_52_method_21_code 7 (some .int) ws rR0_0_0_0 Z h0 #[(.ref r0), vI0, (.ref r1), vI0, vI2] (Q35_2 Z r0 r1 c2 x3 x4 h0 n0) := by
  refine own_open (plainFor_of_name pn_java_lang_StringUTF16) (L0 := #[lR r0, lV vI0, lR r1, lV vI0, lV vI2, lU, lU]) (fun _ => by first | (simp [entryFrame, mkF, argsToLocals, Value.category]; done) | rfl) ?_
  intro p e s m below meth c s₁ hx hby hml hret hnn hZ hown X0 e0
  have N0 := Fr.nil n0
  obtain ⟨clq2, Arq2, qq2, Sq2, Nq2, Hq2, Gq2⟩ := id f1
  refine ⟨some vI0, _, _, _, _, nofun, X0, by decide, by decide, ?_, fun fs hr => ?_⟩
  · rw [e0]; exact ⟨rfl, N0, rfl⟩
  · show SG p e below s₁ (mkF m 0 #[lR r0, lV vI0, lR r1, lV vI0, lV vI2, lU, lU] []) _
    refine qc X0 hx hby d35_0 ?_
    refine XS.istore X0.here hx rfl (hb hby d35_1) rfl (l' := #[lR r0, lV vI0, lR r1, lV vI0, lV vI2, lV vI0, lU]) rfl ?_
    refine qi X0 hx hby d35_3 ?_
    refine qi X0 hx hby d35_5 ?_
    refine XS.icmpNo X0.here hx rfl (hb hby d35_7) rfl (tlt (by decide : (0 : Int32) < (2 : Int32))).2.1 ?_
    refine qaN X0 hx hby d35_10 ?_
    refine qiN X0 hx hby d35_11 ?_
    refine X0.caload hx (j := (0 : Int32)) (v := (.int x3)) (by rw [e0]; exact Arq2.1) (State.isArrayOf_alike hZ.alike Arq2.2.1) Arq2.2.2 (inb_of Sq2 ⟨(by decide : ¬ ((0 : Int32) < (0 : Int32))), (by decide : (0 : Int32) < (2 : Int32))⟩) (Has.at Hq2 (inb_of Sq2 ⟨(by decide : ¬ ((0 : Int32) < (0 : Int32))), (by decide : (0 : Int32) < (2 : Int32))⟩) rfl) (g := (mkF m 12 #[lR r0, lV vI0, lR r1, lV vI0, lV vI2, lV vI0, lU] [vI0, (.ref r0)])) rfl rfl (hb hby d35_12) _ ?_
    refine XS.istore X0.here hx rfl (hb hby d35_13) rfl (l' := #[lR r0, lV vI0, lR r1, lV vI0, lV vI2, lV vI0, lI x3]) rfl ?_
    refine qi X0 hx hby d35_15 ?_
    show SG p e below s₁ (mkF m 17 #[lR r0, lV vI0, lR r1, lV vI0, lV vI2, lV vI0, lI x3] [(.int x3)]) _
    refine XS.sipush X0.here hx rfl (hb hby d35_17) ?_
    refine XS.icmpNo X0.here hx rfl (hb hby d35_20) rfl (tlt hc3).2.2.2 ?_
    refine qi X0 hx hby d35_23 ?_
    exact retOut X0 hx (i := .ireturn) hret rfl (Or.inl ⟨rfl, Or.inl rfl, _, rfl⟩) (hb hby d35_25) hr
def Q39_3 (Z : State)  (h0 : Heap) (n0 : Nat) (v : Option Value) (h : Heap) (L : List Loc) : Prop := v = some vI4 ∧ Fr n0 L ∧ h = h0
theorem rm39_3 (l : Launch) (Z : State) (a0 : Array Value) (hw : own_HW a0 Z) (ws : List Jvm.Cond)  (h0 : Heap) (n0 : Nat) (O0 : Old Z n0 h0) :
    own_MF l mN33 jdk_52_method_3_code 1 (some .int) ws rR0_0_0_0 Z h0 #[vI2] (Q39_3 Z  h0 n0) := by
  refine own_open (plainFor_of_name pn_java_lang_StringUTF16) (L0 := #[lV vI2]) (fun _ => by first | (simp [entryFrame, mkF, argsToLocals, Value.category]; done) | rfl) ?_
  intro p e s m below meth c s₁ hx hby hml hret hnn hZ hown X0 e0
  have N0 := Fr.nil n0
  refine ⟨some vI4, _, _, _, _, nofun, X0, by decide, by decide, ?_, fun fs hr => ?_⟩
  · rw [e0]; exact ⟨rfl, N0, rfl⟩
  · show SG p e below s₁ (mkF m 0 #[lV vI2] []) _
    refine qiN X0 hx hby d39_0 ?_
    refine XS.ifYes X0.here hx rfl (pc0 := 1) (pc' := 12) rfl (hb hby d39_1) rfl ((if0 _ _).trans (flt (by decide : ¬ ((2 : Int32) < (0 : Int32)))).2.1) (by decide) (by decide) ?_
    refine qiN X0 hx hby d39_12 ?_
    refine X0.ldcInt hx hown (mvT hZ (ww hw 199 rfl)) (g := (mkF m 13 #[lV vI2] [vI2])) rfl (hb hby d39_13) _ ?_
    refine XS.icmpYes X0.here hx rfl (pc0 := 15) (pc' := 55) rfl (hb hby d39_15) rfl (tlt (by decide : (2 : Int32) < (1073741823 : Int32))).1 (by decide) (by decide) ?_
    refine qiN X0 hx hby d39_55 ?_
    refine qc X0 hx hby d39_56 ?_
    refine XS.ishl X0.here hx rfl (hb hby d39_57) rfl ?_
    exact retOut X0 hx (i := .ireturn) hret rfl (Or.inl ⟨rfl, Or.inl rfl, _, rfl⟩) (hb hby d39_58) hr
def Q38_3 (Z : State)  (h0 : Heap) (n0 : Nat) (v : Option Value) (h : Heap) (L : List Loc) : Prop := ∃ (b2 : Addr) (k2 : ClassId), v = some (.ref b2) ∧ Fr n0 L ∧ Keep h0 h [] ∧ h0.size ≤ b2 ∧ Arv Z h b2 k2 .byte (4 : Int32) [vI0, vI0, vI0, vI0] vI0 ∧ Exa Z h b2 "[B"
theorem rm38_3 (l : Launch) (Z : State) (a0 : Array Value) (hw : own_HW a0 Z) (ws : List Jvm.Cond)  (h0 : Heap) (n0 : Nat) (O0 : Old Z n0 h0) :
    own_MF l mN34 jdk_52_method_2_code 1 (some (.array .byte)) ws rR1_1_4_12 Z h0 #[vI2] (Q38_3 Z  h0 n0) := by
  refine own_open (plainFor_of_name pn_java_lang_StringUTF16) (L0 := #[lV vI2]) (fun _ => by first | (simp [entryFrame, mkF, argsToLocals, Value.category]; done) | rfl) ?_
  intro p e s m below meth c s₁ hx hby hml hret hnn hZ hown X0 e0
  have N0 := Fr.nil n0; have w := @ww Z a0 hw
  obtain ⟨_, T1, Lc1, X1, hQ1, st1⟩ := own_cS X0 hx hZ hown e0 (rm39_3 l Z a0 hw [] h0 n0 O0) (w 196 rfl) (w 197 rfl) (w 182 rfl) (w 198 rfl) (by decide) (W := 0) (by decide) (by decide) (by decide) (by decide) (g := (mkF m 1 #[lV vI2] [vI2])) rfl (by rw [hml]; rfl) (argsL := [vI2]) (rest := []) (lenOf pd__I_I rfl) rfl (own_W rfl) (hb hby d38_1)
  obtain ⟨rfl, N1q, E1⟩ := hQ1
  have N1 := Fr.app N0 N1q
  obtain ⟨T2, h2, k2, X2, e2, E2, A2, B2, st2⟩ := newPE X1 hx hZ (w 16 rfl) E1 (g := (mkF m 4 #[lV vI2] [vI4])) rfl (hb hby d38_4) rfl (by decide) (cap := 4) (by decide) (by decide) (by decide) (by decide) (ad := "[B") rfl
  obtain ⟨b2, g2⟩ : ∃ z, z = h0.size := ⟨_, rfl⟩
  rw [← g2] at A2 B2 st2
  have V2 : Arv Z h2 b2 k2 .byte (4 : Int32) [vI0, vI0, vI0, vI0] vI0 := (Arv.new A2 (by decide)).pad (pad_rep [] vI0 4)
  have kp3 : Keep h0 h2 [] := (Keep.refl h0 []).ext E2
  refine ⟨some (.ref b2), _, _, _, _, nofun, X2, by decide, by decide, ?_, fun fs hr => ?_⟩
  · rw [e2]; exact ⟨b2, k2, rfl, N1, kp3, (Nat.le_of_eq g2.symm), V2, B2⟩
  · show SG p e below s₁ (mkF m 0 #[lV vI2] []) _
    refine qiN X0 hx hby d38_0 ?_
    refine st1 _ ?_
    refine st2 _ ?_
    exact retOut X2 hx (i := .areturn) hret rfl (Or.inr (Or.inr (Or.inr (Or.inr ⟨rfl, rfl, rfl⟩)))) (hb hby d38_6) hr
def Q40_3 (Z : State) (r0 : Addr) (x1 : Int32) (c2 : ClassId) (h0 : Heap) (n0 : Nat) (v : Option Value) (h : Heap) (L : List Loc) : Prop := v = none ∧ Fr n0 L ∧ Keep h0 h [r0] ∧ Arv Z h r0 c2 .byte (4 : Int32) [(.int (((x1 >>> ((0 : Int32) &&& 31)).toInt8.toInt32).toInt8.toInt32)), (.int (((x1 >>> ((8 : Int32) &&& 31)).toInt8.toInt32).toInt8.toInt32)), vI0, vI0] vI0
theorem rm40_3 (l : Launch) (Z : State) (a0 : Array Value) (hw : own_HW a0 Z) (ws : List Jvm.Cond) (r0 : Addr) (x1 : Int32) (c2 : ClassId) (h0 : Heap) (n0 : Nat) (O0 : Old Z n0 h0) (f1 : Sta Z Z.heap "java/lang/StringUTF16" "$assertionsDisabled" "Z" vI1) (f4 : Sta Z Z.heap "java/lang/StringUTF16" "HI_BYTE_SHIFT" "I" vI0) (f7 : Arv Z h0 r0 c2 .byte (4 : Int32) [vI0, vI0, vI0, vI0] vI0) (g9 : n0 ≤ r0) (f11 : Sta Z Z.heap "java/lang/StringUTF16" "LO_BYTE_SHIFT" "I" vI8) :
    own_MF l mN35 jdk_52_method_4_code 3 none ws rR0_0_0_0 Z h0 #[(.ref r0), vI0, (.int x1)] (Q40_3 Z r0 x1 c2 h0 n0) := by
  refine own_open (plainFor_of_name pn_java_lang_StringUTF16) (L0 := #[lR r0, lV vI0, lI x1]) (fun _ => by first | (simp [entryFrame, mkF, argsToLocals, Value.category]; done) | rfl) ?_
  intro p e s m below meth c s₁ hx hby hml hret hnn hZ hown X0 e0
  have N0 := Fr.nil n0
  have f2 := f1.ext O0.2
  obtain ⟨T3, X3, e3, st3⟩ := getS2 X0 hx hZ hown (host := "") (Or.inl (ww hw 203 rfl)) Via.refl e0 f2 (g := (mkF m 0 #[lR r0, lV vI0, lI x1] [])) rfl (hb hby d40_0)
  have f5 := f4.ext O0.2
  obtain ⟨T6, X6, e6, st6⟩ := getS2 X3 hx hZ hown (host := "") (Or.inl (ww hw 204 rfl)) Via.refl e3 f5 (g := (mkF m 38 #[lR r0, lV vI1, lI x1] [(.int x1), vI0, (.ref r0)])) rfl (hb hby d40_38)
  obtain ⟨clq8, Arq8, qq8, Sq8, Nq8, Hq8, Gq8⟩ := id f7
  obtain ⟨T10, h10, X10, e10, W10, st10⟩ := stB X6 hx hZ e6 Arq8 (j := (0 : Int32)) (inb_of Sq8 ⟨(by decide : ¬ ((0 : Int32) < (0 : Int32))), (by decide : (0 : Int32) < (4 : Int32))⟩) (g := (mkF m 43 #[lR r0, lV vI1, lI x1] [(.int ((x1 >>> ((0 : Int32) &&& 31)).toInt8.toInt32)), vI0, (.ref r0)])) rfl rfl (hb hby d40_43)
  have V10 : Arv Z h10 r0 c2 .byte (4 : Int32) [(.int (((x1 >>> ((0 : Int32) &&& 31)).toInt8.toInt32).toInt8.toInt32)), vI0, vI0, vI0] vI0 := Arv.set Arq8 qq8 Sq8 Nq8 Hq8 Gq8 (fits_nar_byte _) W10 0 rfl (Nat.le_of_ble_eq_true rfl)
  have N10 := Fr.snoc X10 N0 g9
  have o12 := Old.wr O0 W10 g9
  have f13 := f11.ext o12.2
  obtain ⟨T14, X14, e14, st14⟩ := getS2 X10 hx hZ hown (host := "") (Or.inl (ww hw 205 rfl)) Via.refl e10 f13 (g := (mkF m 47 #[lR r0, lV vI1, lI x1] [(.int x1), vI1, (.ref r0)])) rfl (hb hby d40_47)
  obtain ⟨clq15, Arq15, qq15, Sq15, Nq15, Hq15, Gq15⟩ := id V10
  obtain ⟨T16, h16, X16, e16, W16, st16⟩ := stB X14 hx hZ e14 Arq15 (j := (1 : Int32)) (inb_of Sq15 ⟨(by decide : ¬ ((1 : Int32) < (0 : Int32))), (by decide : (1 : Int32) < (4 : Int32))⟩) (g := (mkF m 52 #[lR r0, lV vI1, lI x1] [(.int ((x1 >>> ((8 : Int32) &&& 31)).toInt8.toInt32)), vI1, (.ref r0)])) rfl rfl (hb hby d40_52)
  have V16 : Arv Z h16 r0 c2 .byte (4 : Int32) [(.int (((x1 >>> ((0 : Int32) &&& 31)).toInt8.toInt32).toInt8.toInt32)), (.int (((x1 >>> ((8 : Int32) &&& 31)).toInt8.toInt32).toInt8.toInt32)), vI0, vI0] vI0 := Arv.set Arq15 qq15 Sq15 Nq15 Hq15 Gq15 (fits_nar_byte _) W16 1 rfl (Nat.le_of_ble_eq_true rfl)
  have N16 := Fr.snoc X16 N10 g9
  have kp17 : Keep h0 h10 [r0] := (Keep.refl h0 [r0]).wr W10 (Or.inl (List.mem_of_getElem? (i := 0) rfl))
  have kp18 : Keep h0 h16 [r0] := kp17.wr W16 (Or.inl (List.mem_of_getElem? (i := 0) rfl))
  refine ⟨none, _, _, _, _, (fun _ => rfl), X16, by decide, by decide, ?_, fun fs hr => ?_⟩
  · rw [e16]; exact ⟨rfl, N16, kp18, V16⟩
  · show SG p e below s₁ (mkF m 0 #[lR r0, lV vI0, lI x1] []) _
    refine st3 _ ?_
    refine XS.ifYes X3.here hx rfl (pc0 := 3) (pc' := 28) rfl (hb hby d40_3) rfl ((if0 _ _).trans (feq (by decide : ¬ ((1 : Int32) = (0 : Int32)))).2) (by decide) (by decide) ?_
    refine qiN X3 hx hby d40_28 ?_
    refine qc X3 hx hby d40_29 ?_
    refine XS.ishl X3.here hx rfl (hb hby d40_30) rfl ?_
    refine XS.istoreN X3.here hx rfl (hb hby d40_31) rfl (l' := #[lR r0, lV vI0, lI x1]) rfl ?_
    refine qaN X3 hx hby d40_32 ?_
    refine qiN X3 hx hby d40_33 ?_
    refine XS.iinc X3.here hx rfl (hb hby d40_34) rfl (l' := #[lR r0, lV vI1, lI x1]) rfl ?_
    refine qiN X3 hx hby d40_37 ?_
    show SG p e below T3 (mkF m 38 #[lR r0, lV vI1, lI x1] [(.int x1), vI0, (.ref r0)]) _
    refine st6 _ ?_
    refine XS.ishr X6.here hx rfl (hb hby d40_41) rfl ?_
    refine XS.i2b X6.here hx rfl (hb hby d40_42) rfl ?_
    refine st10 _ ?_
    refine qaN X10 hx hby d40_44 ?_
    refine qiN X10 hx hby d40_45 ?_
    refine qiN X10 hx hby d40_46 ?_
    refine st14 _ ?_
    refine XS.ishr X14.here hx rfl (hb hby d40_50) rfl ?_
    refine XS.i2b X14.here hx rfl (hb hby d40_51) rfl ?_
    show SG p e below T14 (mkF m 52 #[lR r0, lV vI1, lI x1] [(.int ((x1 >>> ((8 : Int32) &&& 31)).toInt8.toInt32)), vI1, (.ref r0)]) _
    refine st16 _ ?_
    exact X16.returnOut hx hret (hb hby d40_53) hr
def Q40_4 (Z : State) (r0 : Addr) (x1 : Int32) (c2 : ClassId) (x3 x4 : Int32) (h0 : Heap) (n0 : Nat) (v : Option Value) (h : Heap) (L : List Loc) : Prop := v = none ∧ Fr n0 L ∧ Keep h0 h [r0] ∧ Arv Z h r0 c2 .byte (4 : Int32) [(.int x3), (.int x4), (.int (((x1 >>> ((0 : Int32) &&& 31)).toInt8.toInt32).toInt8.toInt32)), (.int (((x1 >>> ((8 : Int32) &&& 31)).toInt8.toInt32).toInt8.toInt32))] vI0
theorem rm40_4 (l : Launch) (Z : State) (a0 : Array Value) (hw : own_HW a0 Z) (ws : List Jvm.Cond) (r0 : Addr) (x1 : Int32) (c2 : ClassId) (x3 x4 : Int32) (h0 : Heap) (n0 : Nat) (O0 : Old Z n0 h0) (f1 : Sta Z Z.heap "java/lang/StringUTF16" "$assertionsDisabled" "Z" vI1) (f4 : Sta Z Z.heap "java/lang/StringUTF16" "HI_BYTE_SHIFT" "I" vI0) (f7 : Arv Z h0 r0 c2 .byte (4 : Int32) [(.int x3), (.int x4), vI0, vI0] vI0) (g9 : n0 ≤ r0) (f11 : Sta Z Z.heap "java/lang/StringUTF16" "LO_BYTE_SHIFT" "I" vI8) :
    own_MF l mN35 jdk_52_method_4_code 3 none ws rR0_0_0_0 Z h0 #[(.ref r0), vI1, (.int x1)] (Q40_4 Z r0 x1 c2 x3 x4 h0 n0) := by
  refine own_open (plainFor_of_name pn_java_lang_StringUTF16) (L0 := #[lR r0, lV vI1, lI x1]) (fun _ => by first | (simp [entryFrame, mkF, argsToLocals, Value.category]; done) | rfl) ?_
  intro p e s m below meth c s₁ hx hby hml hret hnn hZ hown X0 e0
  have N0 := Fr.nil n0
  have f2 := f1.ext O0.2
  obtain ⟨T3, X3, e3, st3⟩ := getS2 X0 hx hZ hown (host := "") (Or.inl (ww hw 203 rfl)) Via.refl e0 f2 (g := (mkF m 0 #[lR r0, lV vI1, lI x1] [])) rfl (hb hby d40_0)
  have f5 := f4.ext O0.2
  obtain ⟨T6, X6, e6, st6⟩ := getS2 X3 hx hZ hown (host := "") (Or.inl (ww hw 204 rfl)) Via.refl e3 f5 (g := (mkF m 38 #[lR r0, lV vI3, lI x1] [(.int x1), vI2, (.ref r0)])) rfl (hb hby d40_38)
  obtain ⟨clq8, Arq8, qq8, Sq8, Nq8, Hq8, Gq8⟩ := id f7
  obtain ⟨T10, h10, X10, e10, W10, st10⟩ := stB X6 hx hZ e6 Arq8 (j := (2 : Int32)) (inb_of Sq8 ⟨(by decide : ¬ ((2 : Int32) < (0 : Int32))), (by decide : (2 : Int32) < (4 : Int32))⟩) (g := (mkF m 43 #[lR r0, lV vI3, lI x1] [(.int ((x1 >>> ((0 : Int32) &&& 31)).toInt8.toInt32)), vI2, (.ref r0)])) rfl rfl (hb hby d40_43)
  have V10 : Arv Z h10 r0 c2 .byte (4 : Int32) [(.int x3), (.int x4), (.int (((x1 >>> ((0 : Int32) &&& 31)).toInt8.toInt32).toInt8.toInt32)), vI0] vI0 := Arv.set Arq8 qq8 Sq8 Nq8 Hq8 Gq8 (fits_nar_byte _) W10 2 rfl (Nat.le_of_ble_eq_true rfl)
  have N10 := Fr.snoc X10 N0 g9
  have o12 := Old.wr O0 W10 g9
  have f13 := f11.ext o12.2
  obtain ⟨T14, X14, e14, st14⟩ := getS2 X10 hx hZ hown (host := "") (Or.inl (ww hw 205 rfl)) Via.refl e10 f13 (g := (mkF m 47 #[lR r0, lV vI3, lI x1] [(.int x1), vI3, (.ref r0)])) rfl (hb hby d40_47)
  obtain ⟨clq15, Arq15, qq15, Sq15, Nq15, Hq15, Gq15⟩ := id V10
  obtain ⟨T16, h16, X16, e16, W16, st16⟩ := stB X14 hx hZ e14 Arq15 (j := (3 : Int32)) (inb_of Sq15 ⟨(by decide : ¬ ((3 : Int32) < (0 : Int32))), (by decide : (3 : Int32) < (4 : Int32))⟩) (g := (mkF m 52 #[lR r0, lV vI3, lI x1] [(.int ((x1 >>> ((8 : Int32) &&& 31)).toInt8.toInt32)), vI3, (.ref r0)])) rfl rfl (hb hby d40_52)
  have V16 : Arv Z h16 r0 c2 .byte (4 : Int32) [(.int x3), (.int x4), (.int (((x1 >>> ((0 : Int32) &&& 31)).toInt8.toInt32).toInt8.toInt32)), (.int (((x1 >>> ((8 : Int32) &&& 31)).toInt8.toInt32).toInt8.toInt32))] vI0 := Arv.set Arq15 qq15 Sq15 Nq15 Hq15 Gq15 (fits_nar_byte _) W16 3 rfl (Nat.le_of_ble_eq_true rfl)
  have N16 := Fr.snoc X16 N10 g9
  have kp17 : Keep h0 h10 [r0] := (Keep.refl h0 [r0]).wr W10 (Or.inl (List.mem_of_getElem? (i := 0) rfl))
  have kp18 : Keep h0 h16 [r0] := kp17.wr W16 (Or.inl (List.mem_of_getElem? (i := 0) rfl))
  refine ⟨none, _, _, _, _, (fun _ => rfl), X16, by decide, by decide, ?_, fun fs hr => ?_⟩
  · rw [e16]; exact ⟨rfl, N16, kp18, V16⟩
  · show SG p e below s₁ (mkF m 0 #[lR r0, lV vI1, lI x1] []) _
    refine st3 _ ?_
    refine XS.ifYes X3.here hx rfl (pc0 := 3) (pc' := 28) rfl (hb hby d40_3) rfl ((if0 _ _).trans (feq (by decide : ¬ ((1 : Int32) = (0 : Int32)))).2) (by decide) (by decide) ?_
    refine qiN X3 hx hby d40_28 ?_
    refine qc X3 hx hby d40_29 ?_
    refine XS.ishl X3.here hx rfl (hb hby d40_30) rfl ?_
    refine XS.istoreN X3.here hx rfl (hb hby d40_31) rfl (l' := #[lR r0, lV vI2, lI x1]) rfl ?_
    refine qaN X3 hx hby d40_32 ?_
    refine qiN X3 hx hby d40_33 ?_
    refine XS.iinc X3.here hx rfl (hb hby d40_34) rfl (l' := #[lR r0, lV vI3, lI x1]) rfl ?_
    refine qiN X3 hx hby d40_37 ?_
    show SG p e below T3 (mkF m 38 #[lR r0, lV vI3, lI x1] [(.int x1), vI2, (.ref r0)]) _
    refine st6 _ ?_
    refine XS.ishr X6.here hx rfl (hb hby d40_41) rfl ?_
    refine XS.i2b X6.here hx rfl (hb hby d40_42) rfl ?_
    refine st10 _ ?_
    refine qaN X10 hx hby d40_44 ?_
    refine qiN X10 hx hby d40_45 ?_
    refine qiN X10 hx hby d40_46 ?_
    refine st14 _ ?_
    refine XS.ishr X14.here hx rfl (hb hby d40_50) rfl ?_
    refine XS.i2b X14.here hx rfl (hb hby d40_51) rfl ?_
    show SG p e below T14 (mkF m 52 #[lR r0, lV vI3, lI x1] [(.int ((x1 >>> ((8 : Int32) &&& 31)).toInt8.toInt32)), vI3, (.ref r0)]) _
    refine st16 _ ?_
    exact X16.returnOut hx hret (hb hby d40_53) hr
def Q37_2 (Z : State) (r0 : Addr) (c1 : ClassId) (x2 x3 : Int32) (h0 : Heap) (n0 : Nat) (v : Option Value) (h : Heap) (L : List Loc) : Prop := ∃ (b1_0 : Addr) (k1_0 : ClassId), v = some (.ref b1_0) ∧ Fr n0 L ∧ Keep h0 h [] ∧ h0.size ≤ b1_0 ∧ Exa Z h b1_0 "[B" ∧ Arv Z h b1_0 k1_0 .byte (4 : Int32) [(.int (((x2 >>> ((0 : Int32) &&& 31)).toInt8.toInt32).toInt8.toInt32)), (.int (((x2 >>> ((8 : Int32) &&& 31)).toInt8.toInt32).toInt8.toInt32)), (.int (((x3 >>> ((0 : Int32) &&& 31)).toInt8.toInt32).toInt8.toInt32)), (.int (((x3 >>> ((8 : Int32) &&& 31)).toInt8.toInt32).toInt8.toInt32))] vI0
theorem rm37_2 (l : Launch) (Z : State) (a0 : Array Value) (hw : own_HW a0 Z) (ws : List Jvm.Cond) (r0 : Addr) (c1 : ClassId) (x2 x3 : Int32) (h0 : Heap) (n0 : Nat) (O0 : Old Z n0 h0) (f5 : Arv Z h0 r0 c1 .char (2 : Int32) [(.int x2), (.int x3)] vI0) (f8 : Sta Z Z.heap "java/lang/StringUTF16" "$assertionsDisabled" "Z" vI1) (f9 : Sta Z Z.heap "java/lang/StringUTF16" "HI_BYTE_SHIFT" "I" vI0) (f12 : Sta Z Z.heap "java/lang/StringUTF16" "LO_BYTE_SHIFT" "I" vI8) (l16 : r0 < h0.size) :
    own_MF l mN36 jdk_52_method_14_code 5 (some (.array .byte)) ws rR2_1_4_24 Z h0 #[(.ref r0), vI0, vI2] (Q37_2 Z r0 c1 x2 x3 h0 n0) := by
  refine own_open (plainFor_of_name pn_java_lang_StringUTF16) (L0 := #[lR r0, lV vI0, lV vI2, lU, lU]) (fun _ => by first | (simp [entryFrame, mkF, argsToLocals, Value.category]; done) | rfl) ?_
  intro p e s m below meth c s₁ hx hby hml hret hnn hZ hown X0 e0
  have N0 := Fr.nil n0; have w := @ww Z a0 hw
  obtain ⟨_, T1, Lc1, X1, hQ1, st1⟩ := own_cS X0 hx hZ hown e0 (rm38_3 l Z a0 hw [] h0 n0 O0) (w 193 rfl) (w 194 rfl) (w 182 rfl) (w 195 rfl) (by decide) (W := 0) (by decide) (by decide) (by decide) (by decide) (g := (mkF m 1 #[lR r0, lV vI0, lV vI2, lU, lU] [vI2])) rfl (by rw [hml]; rfl) (argsL := [vI2]) (rest := []) (lenOf pd__I__B rfl) rfl (own_W rfl) (hb hby d37_1)
  obtain ⟨b1_0, k1_0, rfl, N1q, K1, f2, f3, f4⟩ := hQ1
  have N1 := Fr.app N0 N1q
  have f6 := (f5.keep K1 nin0)
  obtain ⟨clq7, Arq7, qq7, Sq7, Nq7, Hq7, Gq7⟩ := id f6
  have zz10 : n0 ≤ h0.size := by rw [← O0.1]; exact O0.2.1
  have g11 := Nat.le_trans zz10 f2
  have o13 := Old.keep O0 K1 all0
  obtain ⟨_, T14, Lc14, X14, hQ14, st14⟩ := own_cS X1 hx hZ hown rfl (rm40_3 l Z a0 hw [] b1_0 x2 k1_0 T1.heap n0 o13 f8 f9 f3 g11 f12) (w 200 rfl) (w 201 rfl) (w 182 rfl) (w 202 rfl) (by decide) (W := 0) (by decide) (by decide) (by decide) (by decide) (g := (mkF m 20 #[lR r0, lV vI0, lV vI2, lR b1_0, lV vI0] [(.int x2), vI0, (.ref b1_0)])) rfl (by rw [hml]; rfl) (argsL := [(.ref b1_0), vI0, (.int x2)]) (rest := []) (lenOf pd___BII_V rfl) rfl (own_W rfl) (hb hby d37_20)
  obtain ⟨rfl, N14q, K14, f15⟩ := hQ14
  have N14 := Fr.app N1 N14q
  have n17 := Nat.ne_of_lt (Nat.lt_of_lt_of_le l16 f2)
  have f18 := (f6.keep K14 (ninS n17 nin0))
  obtain ⟨clq19, Arq19, qq19, Sq19, Nq19, Hq19, Gq19⟩ := id f18
  have o20 := Old.keep o13 K14 (allS g11 all0)
  obtain ⟨_, T21, Lc21, X21, hQ21, st21⟩ := own_cS X14 hx hZ hown rfl (rm40_4 l Z a0 hw [] b1_0 x3 k1_0 (((x2 >>> ((0 : Int32) &&& 31)).toInt8.toInt32).toInt8.toInt32) (((x2 >>> ((8 : Int32) &&& 31)).toInt8.toInt32).toInt8.toInt32) T14.heap n0 o20 f8 f9 f15 g11 f12) (w 200 rfl) (w 201 rfl) (w 182 rfl) (w 202 rfl) (by decide) (W := 0) (by decide) (by decide) (by decide) (by decide) (g := (mkF m 20 #[lR r0, lV vI1, lV vI2, lR b1_0, lV vI1] [(.int x3), vI1, (.ref b1_0)])) rfl (by rw [hml]; rfl) (argsL := [(.ref b1_0), vI1, (.int x3)]) (rest := []) (lenOf pd___BII_V rfl) rfl (own_W rfl) (hb hby d37_20)
  obtain ⟨rfl, N21q, K21, f22⟩ := hQ21
  have N21 := Fr.app N14 N21q
  have f23 := ((f4.keep K14).keep K21)
  have kp24 : Keep h0 T1.heap [] := (Keep.refl h0 []).trans K1 all0
  have kp25 : Keep h0 T14.heap [] := kp24.trans K14 (allS (Or.inr f2) all0)
  have kp26 : Keep h0 T21.heap [] := kp25.trans K21 (allS (Or.inr f2) all0)
  refine ⟨some (.ref b1_0), _, _, _, _, nofun, X21, by decide, by decide, ?_, fun fs hr => ?_⟩
  · exact ⟨b1_0, k1_0, rfl, N21, kp26, f2, f23, f22⟩
  · show SG p e below s₁ (mkF m 0 #[lR r0, lV vI0, lV vI2, lU, lU] []) _
    refine qiN X0 hx hby d37_0 ?_
    refine st1 _ ?_
    refine XS.astoreN X1.here hx rfl (hb hby d37_4) rfl rfl (l' := #[lR r0, lV vI0, lV vI2, lR b1_0, lU]) rfl ?_
    refine qc X1 hx hby d37_5 ?_
    refine XS.istore X1.here hx rfl (hb hby d37_6) rfl (l' := #[lR r0, lV vI0, lV vI2, lR b1_0, lV vI0]) rfl ?_
    refine qi X1 hx hby d37_8 ?_
    refine qiN X1 hx hby d37_10 ?_
    refine XS.icmpNo X1.here hx rfl (hb hby d37_11) rfl (tlt (by decide : (0 : Int32) < (2 : Int32))).2.1 ?_
    refine qaN X1 hx hby d37_14 ?_
    refine qi X1 hx hby d37_15 ?_
    show SG p e below T1 (mkF m 17 #[lR r0, lV vI0, lV vI2, lR b1_0, lV vI0] [vI0, (.ref b1_0)]) _
    refine qaN X1 hx hby d37_17 ?_
    refine qiN X1 hx hby d37_18 ?_
    refine X1.caload hx (j := (0 : Int32)) (v := (.int x2)) (Arq7.1) (State.isArrayOf_alike hZ.alike Arq7.2.1) Arq7.2.2 (inb_of Sq7 ⟨(by decide : ¬ ((0 : Int32) < (0 : Int32))), (by decide : (0 : Int32) < (2 : Int32))⟩) (Has.at Hq7 (inb_of Sq7 ⟨(by decide : ¬ ((0 : Int32) < (0 : Int32))), (by decide : (0 : Int32) < (2 : Int32))⟩) rfl) (g := (mkF m 19 #[lR r0, lV vI0, lV vI2, lR b1_0, lV vI0] [vI0, (.ref r0), vI0, (.ref b1_0)])) rfl rfl (hb hby d37_19) _ ?_
    refine st14 _ ?_
    refine XS.iinc X14.here hx rfl (hb hby d37_23) rfl (l' := #[lR r0, lV vI1, lV vI2, lR b1_0, lV vI0]) rfl ?_
    refine XS.iinc X14.here hx rfl (hb hby d37_26) rfl (l' := #[lR r0, lV vI1, lV vI2, lR b1_0, lV vI1]) rfl ?_
    refine XS.goto X14.here hx rfl (pc0 := 29) (pc' := 8) rfl (hb hby d37_29) (by decide) (by decide) ?_
    refine qi X14 hx hby d37_8 ?_
    refine qiN X14 hx hby d37_10 ?_
    refine XS.icmpNo X14.here hx rfl (hb hby d37_11) rfl (tlt (by decide : (1 : Int32) < (2 : Int32))).2.1 ?_
    show SG p e below T14 (mkF m 14 #[lR r0, lV vI1, lV vI2, lR b1_0, lV vI1] []) _
    refine qaN X14 hx hby d37_14 ?_
    refine qi X14 hx hby d37_15 ?_
    refine qaN X14 hx hby d37_17 ?_
    refine qiN X14 hx hby d37_18 ?_
    refine X14.caload hx (j := (1 : Int32)) (v := (.int x3)) (Arq19.1) (State.isArrayOf_alike hZ.alike Arq19.2.1) Arq19.2.2 (inb_of Sq19 ⟨(by decide : ¬ ((1 : Int32) < (0 : Int32))), (by decide : (1 : Int32) < (2 : Int32))⟩) (Has.at Hq19 (inb_of Sq19 ⟨(by decide : ¬ ((1 : Int32) < (0 : Int32))), (by decide : (1 : Int32) < (2 : Int32))⟩) rfl) (g := (mkF m 19 #[lR r0, lV vI1, lV vI2, lR b1_0, lV vI1] [vI1, (.ref r0), vI1, (.ref b1_0)])) rfl rfl (hb hby d37_19) _ ?_
    refine st21 _ ?_
    refine XS.iinc X21.here hx rfl (hb hby d37_23) rfl (l' := #[lR r0, lV vI2, lV vI2, lR b1_0, lV vI1]) rfl ?_
    refine XS.iinc X21.here hx rfl (hb hby d37_26) rfl (l' := #[lR r0, lV vI2, lV vI2, lR b1_0, lV vI2]) rfl ?_
    refine XS.goto X21.here hx rfl (pc0 := 29) (pc' := 8) rfl (hb hby d37_29) (by decide) (by decide) ?_
    refine qi X21 hx hby d37_8 ?_
    show SG p e below T21 (mkF m 10 #[lR r0, lV vI2, lV vI2, lR b1_0, lV vI2] [vI2]) _
    refine qiN X21 hx hby d37_10 ?_
    refine XS.icmpYes X21.here hx rfl (pc0 := 11) (pc' := 32) rfl (hb hby d37_11) rfl (flt (by decide : ¬ ((2 : Int32) < (2 : Int32)))).2.1 (by decide) (by decide) ?_
    refine qaN X21 hx hby d37_32 ?_
    exact retOut X21 hx (i := .areturn) hret rfl (Or.inr (Or.inr (Or.inr (Or.inr ⟨rfl, rfl, rfl⟩)))) (hb hby d37_33) hr
def Q34_2 (Z : State) (r0 : Addr) (c1 : ClassId) (x2 x3 : Int32) (h0 : Heap) (n0 : Nat) (v : Option Value) (h : Heap) (L : List Loc) : Prop := ∃ (b12_0 : Addr) (k12_0 : ClassId), v = some (.ref b12_0) ∧ Fr n0 L ∧ Keep h0 h [] ∧ h0.size ≤ b12_0 ∧ Exa Z h b12_0 "[B" ∧ Arv Z h b12_0 k12_0 .byte (4 : Int32) [(.int (((x2 >>> ((0 : Int32) &&& 31)).toInt8.toInt32).toInt8.toInt32)), (.int (((x2 >>> ((8 : Int32) &&& 31)).toInt8.toInt32).toInt8.toInt32)), (.int (((x3 >>> ((0 : Int32) &&& 31)).toInt8.toInt32).toInt8.toInt32)), (.int (((x3 >>> ((8 : Int32) &&& 31)).toInt8.toInt32).toInt8.toInt32))] vI0
theorem rm34_2 (l : Launch) (Z : State) (a0 : Array Value) (hw : own_HW a0 Z) (ws : List Jvm.Cond) (r0 : Addr) (c1 : ClassId) (x2 x3 : Int32) (h0 : Heap) (n0 : Nat) (O0 : Old Z n0 h0) (f2 : Arv Z h0 r0 c1 .char (2 : Int32) [(.int x2), (.int x3)] vI0) (hc4 : (255 : Int32) < x2) (f7 : Sta Z Z.heap "java/lang/StringUTF16" "$assertionsDisabled" "Z" vI1) (f8 : Sta Z Z.heap "java/lang/StringUTF16" "HI_BYTE_SHIFT" "I" vI0) (f9 : Sta Z Z.heap "java/lang/StringUTF16" "LO_BYTE_SHIFT" "I" vI8) (l10 : r0 < h0.size) (hc18 : (255 : Int32) < (nar .char (((((((x2 >>> ((0 : Int32) &&& 31)).toInt8.toInt32).toInt8.toInt32) &&& (255 : Int32)) <<< ((0 : Int32) &&& 31)) ||| (((((x2 >>> ((8 : Int32) &&& 31)).toInt8.toInt32).toInt8.toInt32) &&& (255 : Int32)) <<< ((8 : Int32) &&& 31))).toUInt32.toUInt16.toUInt32.toInt32))) :
    own_MF l mN38 jdk_52_method_16_code 6 (some (.array .byte)) ws rR3_2_6_40 Z h0 #[(.ref r0), vI0, vI2] (Q34_2 Z r0 c1 x2 x3 h0 n0) := by
  refine own_open (plainFor_of_name pn_java_lang_StringUTF16) (L0 := #[lR r0, lV vI0, lV vI2, lU, lU, lU]) (fun _ => by first | (simp [entryFrame, mkF, argsToLocals, Value.category]; done) | rfl) ?_
  intro p e s m below meth c s₁ hx hby hml hret hnn hZ hown X0 e0
  have N0 := Fr.nil n0; have w := @ww Z a0 hw
  obtain ⟨T1, h1, k1, X1, e1, E1, A1, B1, st1⟩ := newPE X0 hx hZ (w 16 rfl) e0 (g := (mkF m 1 #[lR r0, lV vI0, lV vI2, lU, lU, lU] [vI2])) rfl (hb hby d34_1) rfl (by decide) (cap := 2) (by decide) (by decide) (by decide) (by decide) (ad := "[B") rfl
  obtain ⟨b1, g1⟩ : ∃ z, z = h0.size := ⟨_, rfl⟩
  rw [← g1] at A1 B1 st1
  have V1 : Arv Z h1 b1 k1 .byte (2 : Int32) [vI0, vI0] vI0 := (Arv.new A1 (by decide)).pad (pad_rep [] vI0 2)
  have f3 := (f2.ext E1)
  have o5 := Old.ext O0 E1
  obtain ⟨_, T6, Lc6, X6, hQ6, st6⟩ := own_cS X1 hx hZ hown e1 (rm35_2 l Z a0 hw [] r0 b1 c1 x2 x3 h1 n0 o5 f3 hc4) (w 184 rfl) (w 185 rfl) (w 182 rfl) (w 186 rfl) (by decide) (W := 0) (by decide) (by decide) (by decide) (by decide) (g := (mkF m 9 #[lR r0, lV vI0, lV vI2, lR b1, lU, lU] [vI2, vI0, (.ref b1), vI0, (.ref r0)])) rfl (by rw [hml]; rfl) (argsL := [(.ref r0), vI0, (.ref b1), vI0, vI2]) (rest := []) (lenOf pd___CI_BII_I rfl) rfl (own_W rfl) (hb hby d34_9)
  obtain ⟨rfl, N6q, E6⟩ := hQ6
  have N6 := Fr.app N0 N6q
  have zs11 := E1.1
  obtain ⟨_, T12, Lc12, X12, hQ12, st12⟩ := own_cS X6 hx hZ hown E6 (rm37_2 l Z a0 hw [] r0 c1 x2 x3 h1 n0 o5 f3 f7 f8 f9 (Nat.lt_of_lt_of_le l10 zs11)) (w 190 rfl) (w 191 rfl) (w 182 rfl) (w 192 rfl) (by decide) (W := 0) (by decide) (by decide) (by decide) (by decide) (g := (mkF m 23 #[lR r0, lV vI0, lV vI2, lR b1, lV vI0, lU] [vI2, vI0, (.ref r0)])) rfl (by rw [hml]; rfl) (argsL := [(.ref r0), vI0, vI2]) (rest := []) (lenOf pd___CII__B rfl) rfl (own_W rfl) (hb hby d34_23)
  obtain ⟨b12_0, k12_0, rfl, N12q, K12, f13, f14, f15⟩ := hQ12
  have N12 := Fr.app N6 N12q
  have o16 := Old.keep o5 K12 all0
  obtain ⟨_, T17, Lc17, X17, hQ17, st17⟩ := own_cS X12 hx hZ hown rfl (rm41_1 l Z a0 hw [] b12_0 (0 : Int32) (4 : Int32) k12_0 ([(.int (((x2 >>> ((0 : Int32) &&& 31)).toInt8.toInt32).toInt8.toInt32)), (.int (((x2 >>> ((8 : Int32) &&& 31)).toInt8.toInt32).toInt8.toInt32)), (.int (((x3 >>> ((0 : Int32) &&& 31)).toInt8.toInt32).toInt8.toInt32)), (.int (((x3 >>> ((8 : Int32) &&& 31)).toInt8.toInt32).toInt8.toInt32))]) (((x2 >>> ((0 : Int32) &&& 31)).toInt8.toInt32).toInt8.toInt32) (((x2 >>> ((8 : Int32) &&& 31)).toInt8.toInt32).toInt8.toInt32) T12.heap n0 o16 f7 f15 (own_gd (n := 0) rfl rfl) (by decide) (by decide) f8 (own_gd (n := 1) rfl rfl) (by decide) (by decide) f9) (w 206 rfl) (w 207 rfl) (w 182 rfl) (w 208 rfl) (by decide) (W := 0) (by decide) (by decide) (by decide) (by decide) (g := (mkF m 32 #[lR r0, lV vI0, lV vI2, lR b1, lV vI0, lR b12_0] [vI0, (.ref b12_0)])) rfl (by rw [hml]; rfl) (argsL := [(.ref b12_0), vI0]) (rest := []) (lenOf pd___BI_C rfl) rfl (own_W rfl) (hb hby d34_32)
  obtain ⟨rfl, N17q, E17⟩ := hQ17
  have N17 := Fr.app N12 N17q
  have kp19 : Keep h0 h1 [] := (Keep.refl h0 []).ext E1
  have kp20 : Keep h0 T12.heap [] := kp19.trans K12 all0
  refine ⟨some (.ref b12_0), _, _, _, _, nofun, X17, by decide, by decide, ?_, fun fs hr => ?_⟩
  · rw [E17]; exact ⟨b12_0, k12_0, rfl, N17, kp20, (Nat.le_trans zs11 f13), f14, f15⟩
  · show SG p e below s₁ (mkF m 0 #[lR r0, lV vI0, lV vI2, lU, lU, lU] []) _
    refine qiN X0 hx hby d34_0 ?_
    refine st1 _ ?_
    refine XS.astoreN X1.here hx rfl (hb hby d34_3) rfl rfl (l' := #[lR r0, lV vI0, lV vI2, lR b1, lU, lU]) rfl ?_
    refine qaN X1 hx hby d34_4 ?_
    refine qiN X1 hx hby d34_5 ?_
    refine qaN X1 hx hby d34_6 ?_
    refine qc X1 hx hby d34_7 ?_
    refine qiN X1 hx hby d34_8 ?_
    refine st6 _ ?_
    refine XS.istore X6.here hx rfl (hb hby d34_12) rfl (l' := #[lR r0, lV vI0, lV vI2, lR b1, lV vI0, lU]) rfl ?_
    show SG p e below T6 (mkF m 14 #[lR r0, lV vI0, lV vI2, lR b1, lV vI0, lU] []) _
    refine qi X6 hx hby d34_14 ?_
    refine qiN X6 hx hby d34_16 ?_
    refine XS.icmpNo X6.here hx rfl (hb hby d34_17) rfl (feq (by decide : ¬ ((0 : Int32) = (2 : Int32)))).1 ?_
    refine qaN X6 hx hby d34_20 ?_
    refine qiN X6 hx hby d34_21 ?_
    refine qiN X6 hx hby d34_22 ?_
    refine st12 _ ?_
    refine XS.astore X12.here hx rfl (hb hby d34_26) rfl rfl (l' := #[lR r0, lV vI0, lV vI2, lR b1, lV vI0, lR b12_0]) rfl ?_
    refine qa X12 hx hby d34_28 ?_
    refine qi X12 hx hby d34_30 ?_
    show SG p e below T12 (mkF m 32 #[lR r0, lV vI0, lV vI2, lR b1, lV vI0, lR b12_0] [vI0, (.ref b12_0)]) _
    refine st17 _ ?_
    refine XS.sipush X17.here hx rfl (hb hby d34_35) ?_
    refine XS.icmpYes X17.here hx rfl (pc0 := 38) (pc' := 54) rfl (hb hby d34_38) rfl (tlt hc18).2.2.1 (by decide) (by decide) ?_
    refine qa X17 hx hby d34_54 ?_
    exact retOut X17 hx (i := .areturn) hret rfl (Or.inr (Or.inr (Or.inr (Or.inr ⟨rfl, rfl, rfl⟩)))) (hb hby d34_56) hr
def Q36_2 (Z : State) (r0 : Addr) (c1 : ClassId) (x2 x3 : Int32) (x4 x5 : Int32) (h0 : Heap) (n0 : Nat) (v : Option Value) (h : Heap) (L : List Loc) : Prop := v = some vI1 ∧ Fr n0 L ∧ h = h0
theorem rm36_2 (l : Launch) (Z : State) (a0 : Array Value) (hw : own_HW a0 Z) (ws : List Jvm.Cond) (r0 : Addr) (c1 : ClassId) (x2 x3 : Int32) (x4 x5 : Int32) (h0 : Heap) (n0 : Nat) (O0 : Old Z n0 h0) (f1 : Arv Z h0 r0 c1 .byte (4 : Int32) [(.int x2), (.int x3), (.int x4), (.int x5)] vI0) :
    own_MF l mN39 jdk_52_method_15_code 2 (some .byte) ws rR0_0_0_0 Z h0 #[(.ref r0), vI2] (Q36_2 Z r0 c1 x2 x3 x4 x5 h0 n0) := by
  refine own_open (plainFor_of_name pn_java_lang_StringUTF16) (L0 := #[lR r0, lV vI2]) (fun _ => by first | (simp [entryFrame, mkF, argsToLocals, Value.category]; done) | rfl) ?_
  intro p e s m below meth c s₁ hx hby hml hret hnn hZ hown X0 e0
  have N0 := Fr.nil n0
  obtain ⟨clq2, Arq2, qq2, Sq2, Nq2, Hq2, Gq2⟩ := id f1
  refine ⟨some vI1, _, _, _, _, nofun, X0, by decide, by decide, ?_, fun fs hr => ?_⟩
  · rw [e0]; exact ⟨rfl, N0, rfl⟩
  · show SG p e below s₁ (mkF m 0 #[lR r0, lV vI2] []) _
    refine qiN X0 hx hby d36_0 ?_
    refine qaN X0 hx hby d36_1 ?_
    refine X0.arraylength hx (by rw [e0]; exact Arq2.1) (State.isArrayOf_alike hZ.alike Arq2.2.1) (g := (mkF m 2 #[lR r0, lV vI2] [(.ref r0), vI2])) rfl rfl (hb hby d36_2) _ ?_
    rw [len_of Sq2 Nq2]
    refine XS.isub X0.here hx rfl (hb hby d36_3) rfl ?_
    refine qb X0 hx hby d36_4 ?_
    refine XS.iushr X0.here hx rfl (hb hby d36_6) rfl ?_
    refine XS.i2b X0.here hx rfl (hb hby d36_7) rfl ?_
    exact retN X0 hx (t := .byte) hret (by simp) (hb hby d36_8) hr
def Q2_3 (Z : State) (r0 r1 : Addr) (x2 : Int32) (c3 : ClassId) (x4 x5 : Int32) (h0 : Heap) (n0 : Nat) (v : Option Value) (h : Heap) (L : List Loc) : Prop := ∃ (b13_0 : Addr) (k13_0 : ClassId), v = none ∧ Fr n0 L ∧ Keep h0 h [r0] ∧ Fld Z h r0 "java/lang/String" "coder" "B" vI1 ∧ Fld Z h r0 "java/lang/String" "value" "[B" (.ref b13_0) ∧ h0.size ≤ b13_0 ∧ Exa Z h b13_0 "[B" ∧ Arv Z h b13_0 k13_0 .byte (4 : Int32) [(.int (((x4 >>> ((0 : Int32) &&& 31)).toInt8.toInt32).toInt8.toInt32)), (.int (((x4 >>> ((8 : Int32) &&& 31)).toInt8.toInt32).toInt8.toInt32)), (.int (((x5 >>> ((0 : Int32) &&& 31)).toInt8.toInt32).toInt8.toInt32)), (.int (((x5 >>> ((8 : Int32) &&& 31)).toInt8.toInt32).toInt8.toInt32))] vI0
theorem rm2_3 (l : Launch) (Z : State) (a0 : Array Value) (hw : own_HW a0 Z) (ws : List Jvm.Cond) (r0 r1 : Addr) (x2 : Int32) (c3 : ClassId) (x4 x5 : Int32) (h0 : Heap) (n0 : Nat) (O0 : Old Z n0 h0) (f2 : Sta Z Z.heap "java/lang/String" "COMPACT_STRINGS" "Z" (.int x2)) (hc5 : ¬ (x2 = (0 : Int32))) (f6 : Arv Z h0 r1 c3 .char (2 : Int32) [(.int x4), (.int x5)] vI0) (hc7 : (255 : Int32) < x4) (f8 : Sta Z Z.heap "java/lang/StringUTF16" "$assertionsDisabled" "Z" vI1) (f9 : Sta Z Z.heap "java/lang/StringUTF16" "HI_BYTE_SHIFT" "I" vI0) (f10 : Sta Z Z.heap "java/lang/StringUTF16" "LO_BYTE_SHIFT" "I" vI8) (l11 : r1 < h0.size) (hc12 : (255 : Int32) < (nar .char (((((((x4 >>> ((0 : Int32) &&& 31)).toInt8.toInt32).toInt8.toInt32) &&& (255 : Int32)) <<< ((0 : Int32) &&& 31)) ||| (((((x4 >>> ((8 : Int32) &&& 31)).toInt8.toInt32).toInt8.toInt32) &&& (255 : Int32)) <<< ((8 : Int32) &&& 31))).toUInt32.toUInt16.toUInt32.toInt32))) (f19 : Exa Z h0 r0 "java/lang/String") (f21 : Fld Z h0 r0 "java/lang/String" "coder" "B" vI0) (g23 : n0 ≤ r0) (f26 : Fld Z h0 r0 "java/lang/String" "value" "[B" .null) (l31 : r0 < h0.size) :
    own_MF l mN0 jdk_42_method_149_code 6 none ws rR4_2_6_57 Z h0 #[(.ref r0), (.ref r1), vI0, vI2, .null] (Q2_3 Z r0 r1 x2 c3 x4 x5 h0 n0) := by
  refine own_open (plainFor_of_name pn_java_lang_String) (L0 := #[lR r0, lR r1, lV vI0, lV vI2, .val .null, lU]) (fun _ => by first | (simp [entryFrame, mkF, argsToLocals, Value.category]; done) | rfl) ?_
  intro p e s m below meth c s₁ hx hby hml hret hnn hZ hown X0 e0
  have N0 := Fr.nil n0; have w := @ww Z a0 hw
  have hnm := (name_of_methodNamed hnn.1 hnn.2).1
  obtain ⟨T1, X1, e1, st1⟩ := initO X0 hx hZ hown (w 12 rfl) (w 13 rfl) (w 14 rfl) e0 (g := (mkF m 1 #[lR r0, lR r1, lV vI0, lV vI2, .val .null, lU] [(.ref r0)])) rfl (by rw [hml]; rfl) rfl (hb hby d2_1) (by decide) (W := 0) (own_W rfl) (by decide)
  have f3 := f2.ext O0.2
  obtain ⟨T4, X4, e4, st4⟩ := getS2 X1 hx hZ hown (host := "") (Or.inl (w 68 rfl)) Via.refl e1 f3 (g := (mkF m 27 #[lR r0, lR r1, lV vI0, lV vI2, .val .null, lU] [])) rfl (hb hby d2_27)
  obtain ⟨_, T13, Lc13, X13, hQ13, st13⟩ := own_cS X4 hx hZ hown e4 (rm34_2 l Z a0 hw [] r1 c3 x4 x5 h0 n0 O0 f6 hc7 f8 f9 f10 l11 hc12) (w 180 rfl) (w 181 rfl) (w 182 rfl) (w 183 rfl) (by decide) (W := 0) (by decide) (by decide) (by decide) (by decide) (g := (mkF m 36 #[lR r0, lR r1, lV vI0, lV vI2, .val .null, lU] [vI2, vI0, (.ref r1)])) rfl (by rw [hml]; rfl) (argsL := [(.ref r1), vI0, vI2]) (rest := []) (lenOf pd___CII__B rfl) rfl (own_W rfl) (hb hby d2_36)
  obtain ⟨b13_0, k13_0, rfl, N13q, K13, f14, f15, f16⟩ := hQ13
  have N13 := Fr.app N0 N13q
  have o17 := Old.keep O0 K13 all0
  obtain ⟨_, T18, Lc18, X18, hQ18, st18⟩ := own_cS X13 hx hZ hown rfl (rm36_2 l Z a0 hw [] b13_0 k13_0 (((x4 >>> ((0 : Int32) &&& 31)).toInt8.toInt32).toInt8.toInt32) (((x4 >>> ((8 : Int32) &&& 31)).toInt8.toInt32).toInt8.toInt32) (((x5 >>> ((0 : Int32) &&& 31)).toInt8.toInt32).toInt8.toInt32) (((x5 >>> ((8 : Int32) &&& 31)).toInt8.toInt32).toInt8.toInt32) T13.heap n0 o17 f16) (w 187 rfl) (w 188 rfl) (w 182 rfl) (w 189 rfl) (by decide) (W := 1) (by decide) (by decide) (by decide) (by decide) (g := (mkF m 45 #[lR r0, lR r1, lV vI0, lV vI2, .val .null, lR b13_0] [vI2, (.ref b13_0), (.ref r0)])) rfl (by rw [hml]; rfl) (argsL := [(.ref b13_0), vI2]) (rest := [(.ref r0)]) (lenOf pd___BI_B rfl) rfl (own_W rfl) (hb hby d2_45)
  obtain ⟨rfl, N18q, E18⟩ := hQ18
  have N18 := Fr.app N13 N18q
  have f20 := (f19.keep K13)
  have f22 := (f21.keep K13 nin0)
  obtain ⟨T24, h24, X24, e24, W24, st24⟩ := putFN X18 hx hZ hown (w 22 rfl) Via.refl E18 f22 f20 (Or.inr ⟨(w 18 rfl), rfl, hnm⟩) (w 3 rfl) (ty := .byte) (v' := vI1) (by decide) rfl (by decide) (g := (mkF m 48 #[lR r0, lR r1, lV vI0, lV vI2, .val .null, lR b13_0] [vI1, (.ref r0)])) rfl rfl (hb hby d2_48)
  have Fw24 := f22.same W24
  have N24 := Fr.snoc X24 N18 g23
  have f25 := (f20.wr W24)
  have f27 := ((f26.keep K13 nin0).other W24 (Or.inr (slot_ne (Or.inr (w 17 rfl)) (Or.inr (w 18 rfl)) (by decide) (t := (.array .byte)) (t' := .byte) (by decide) (by decide))))
  obtain ⟨T28, h28, X28, e28, W28, st28⟩ := putF X24 hx hZ hown (host := "") (Or.inl (w 21 rfl)) Via.refl e24 f27 f25 (Or.inr ⟨(w 17 rfl), rfl, hnm⟩) (w 3 rfl) (ty := (.array .byte)) (by decide) rfl rfl (g := (mkF m 54 #[lR r0, lR r1, lV vI0, lV vI2, .val .null, lR b13_0] [(.ref b13_0), (.ref r0)])) rfl rfl (hb hby d2_54)
  have Fw28 := f27.same W28
  have N28 := Fr.snoc X28 N24 g23
  have f29 := (Fw24.other W28 (Or.inr (slot_ne (Or.inr (w 18 rfl)) (Or.inr (w 17 rfl)) (by decide) (t := .byte) (t' := (.array .byte)) (by decide) (by decide))))
  have f30 := ((f15.wr W24).wr W28)
  have n32 := Nat.ne_of_lt (Nat.lt_of_lt_of_le l31 f14)
  have f33 := ((f16.other W24 (Ne.symm n32)).other W28 (Ne.symm n32))
  have kp34 : Keep h0 T13.heap [r0] := (Keep.refl h0 [r0]).trans K13 all0
  have kp35 : Keep h0 h24 [r0] := kp34.wr W24 (Or.inl (List.mem_of_getElem? (i := 0) rfl))
  have kp36 : Keep h0 h28 [r0] := kp35.wr W28 (Or.inl (List.mem_of_getElem? (i := 0) rfl))
  refine ⟨none, _, _, _, _, (fun _ => rfl), X28, by decide, by decide, ?_, fun fs hr => ?_⟩
  · rw [e28]; exact ⟨b13_0, k13_0, rfl, N28, kp36, f29, Fw28, f14, f30, f33⟩
  · show SG p e below s₁ (mkF m 0 #[lR r0, lR r1, lV vI0, lV vI2, .val .null, lU] []) _
    refine qaN X0 hx hby d2_0 ?_
    refine st1 _ ?_
    refine qiN X1 hx hby d2_4 ?_
    refine XS.ifYes X1.here hx rfl (pc0 := 5) (pc' := 27) rfl (hb hby d2_5) rfl ((if0 _ _).trans (feq (by decide : ¬ ((2 : Int32) = (0 : Int32)))).2) (by decide) (by decide) ?_
    refine st4 _ ?_
    refine XS.ifNo X4.here hx rfl (hb hby d2_30) rfl ((if0 _ _).trans (feq hc5).1) ?_
    refine qaN X4 hx hby d2_33 ?_
    refine qiN X4 hx hby d2_34 ?_
    refine qiN X4 hx hby d2_35 ?_
    refine st13 _ ?_
    show SG p e below T13 (mkF m 39 #[lR r0, lR r1, lV vI0, lV vI2, .val .null, lU] [(.ref b13_0)]) _
    refine XS.astore X13.here hx rfl (hb hby d2_39) rfl rfl (l' := #[lR r0, lR r1, lV vI0, lV vI2, .val .null, lR b13_0]) rfl ?_
    refine qaN X13 hx hby d2_41 ?_
    refine qa X13 hx hby d2_42 ?_
    refine qiN X13 hx hby d2_44 ?_
    refine st18 _ ?_
    refine st24 _ ?_
    refine qaN X24 hx hby d2_51 ?_
    refine qa X24 hx hby d2_52 ?_
    refine st28 _ ?_
    exact X28.returnOut hx hret (hb hby d2_57) hr
def Q1_3 (Z : State) (r0 r1 : Addr) (c2 : ClassId) (x3 x4 x5 : Int32) (h0 : Heap) (n0 : Nat) (v : Option Value) (h : Heap) (L : List Loc) : Prop := ∃ (b16_0 : Addr) (k16_0 : ClassId), v = none ∧ Fr n0 L ∧ Keep h0 h [r0] ∧ Fld Z h r0 "java/lang/String" "coder" "B" vI1 ∧ Fld Z h r0 "java/lang/String" "value" "[B" (.ref b16_0) ∧ h0.size ≤ b16_0 ∧ Exa Z h b16_0 "[B" ∧ Arv Z h b16_0 k16_0 .byte (4 : Int32) [(.int (((x3 >>> ((0 : Int32) &&& 31)).toInt8.toInt32).toInt8.toInt32)), (.int (((x3 >>> ((8 : Int32) &&& 31)).toInt8.toInt32).toInt8.toInt32)), (.int (((x4 >>> ((0 : Int32) &&& 31)).toInt8.toInt32).toInt8.toInt32)), (.int (((x4 >>> ((8 : Int32) &&& 31)).toInt8.toInt32).toInt8.toInt32))] vI0
theorem rm1_3 (l : Launch) (Z : State) (a0 : Array Value) (hw : own_HW a0 Z) (ws : List Jvm.Cond) (r0 r1 : Addr) (c2 : ClassId) (x3 x4 x5 : Int32) (h0 : Heap) (n0 : Nat) (O0 : Old Z n0 h0) (f1 : Arv Z h0 r1 c2 .char (2 : Int32) [(.int x3), (.int x4)] vI0) (f3 : Sta Z Z.heap "java/lang/String" "COMPACT_STRINGS" "Z" (.int x5)) (hc4 : ¬ (x5 = (0 : Int32))) (hc5 : (255 : Int32) < x3) (f6 : Sta Z Z.heap "java/lang/StringUTF16" "$assertionsDisabled" "Z" vI1) (f7 : Sta Z Z.heap "java/lang/StringUTF16" "HI_BYTE_SHIFT" "I" vI0) (f8 : Sta Z Z.heap "java/lang/StringUTF16" "LO_BYTE_SHIFT" "I" vI8) (l9 : r1 < h0.size) (hc10 : (255 : Int32) < (nar .char (((((((x3 >>> ((0 : Int32) &&& 31)).toInt8.toInt32).toInt8.toInt32) &&& (255 : Int32)) <<< ((0 : Int32) &&& 31)) ||| (((((x3 >>> ((8 : Int32) &&& 31)).toInt8.toInt32).toInt8.toInt32) &&& (255 : Int32)) <<< ((8 : Int32) &&& 31))).toUInt32.toUInt16.toUInt32.toInt32))) (f11 : Exa Z h0 r0 "java/lang/String") (f12 : Fld Z h0 r0 "java/lang/String" "coder" "B" vI0) (g13 : n0 ≤ r0) (f14 : Fld Z h0 r0 "java/lang/String" "value" "[B" .null) (l15 : r0 < h0.size) :
    own_MF l mN1 jdk_42_method_3_code 2 none ws rR5_2_6_74 Z h0 #[(.ref r0), (.ref r1)] (Q1_3 Z r0 r1 c2 x3 x4 x5 h0 n0) := by
  refine own_open (plainFor_of_name pn_java_lang_String) (L0 := #[lR r0, lR r1]) (fun _ => by first | (simp [entryFrame, mkF, argsToLocals, Value.category]; done) | rfl) ?_
  intro p e s m below meth c s₁ hx hby hml hret hnn hZ hown X0 e0
  have N0 := Fr.nil n0; have w := @ww Z a0 hw
  obtain ⟨clq2, Arq2, qq2, Sq2, Nq2, Hq2, Gq2⟩ := id f1
  obtain ⟨_, T16, Lc16, X16, hQ16, st16⟩ := own_fin (X0.specialBack hx (y := mN0) rfl hown (mvT hZ (w 8 rfl)) (mvT hZ (w 9 rfl)) (mvT hZ (w 11 rfl)) (by decide) (backOf (W := 0) (rm2_3 l Z a0 hw [] r0 r1 x5 c2 x3 x4 h0 n0 O0 f3 hc4 f1 hc5 f6 f7 f8 l9 hc10 f11 f12 g13 f14 l15) hZ (w 11 rfl) (w 4 rfl) (by decide) (by decide)) (g := (mkF m 6 #[lR r0, lR r1] [.null, vI2, vI0, (.ref r1), (.ref r0)])) rfl (by rw [hml]; rfl) (Steps.refl _) (a := r0) (argsL := [(.ref r1), vI0, vI2, .null]) (rest := []) (lenOf pd___CIILjava_lang_Void__V rfl) rfl (own_W rfl) (hb hby d1_6) (fun _ _ => ⟨rfl, e0, (by decide : 0 + 2 ≤ _), (by decide : 0 + 6 ≤ _)⟩))
  obtain ⟨b16_0, k16_0, rfl, N16q, K16, f17, f18, f19, f20, f21⟩ := hQ16
  have N16 := Fr.app N0 N16q
  have kp22 : Keep h0 T16.heap [r0] := (Keep.refl h0 [r0]).trans K16 (allS (Or.inl (List.mem_of_getElem? (i := 0) rfl)) all0)
  refine ⟨none, _, _, _, _, (fun _ => rfl), X16, by decide, by decide, ?_, fun fs hr => ?_⟩
  · exact ⟨b16_0, k16_0, rfl, N16, kp22, f17, f18, f19, f20, f21⟩
  · show SG p e below s₁ (mkF m 0 #[lR r0, lR r1] []) _
    refine qaN X0 hx hby d1_0 ?_
    refine qaN X0 hx hby d1_1 ?_
    refine qc X0 hx hby d1_2 ?_
    refine qaN X0 hx hby d1_3 ?_
    refine X0.arraylength hx (by rw [e0]; exact Arq2.1) (State.isArrayOf_alike hZ.alike Arq2.2.1) (g := (mkF m 4 #[lR r0, lR r1] [(.ref r1), vI0, (.ref r1), (.ref r0)])) rfl rfl (hb hby d1_4) _ ?_
    rw [len_of Sq2 Nq2]
    refine XS.aconstNull X0.here hx rfl (hb hby d1_5) ?_
    refine st16.trans ?_
    exact X16.returnOut hx hret (hb hby d1_9) hr
def Q12_3 (Z : State) (r0 r1 : Addr) (x2 : Int32) (r3 : Addr) (c4 : ClassId) (u5 : Value) (r6 : Addr) (c7 : ClassId) (x8 x9 : Int32) (x10 x11 : Int32) (h0 : Heap) (n0 : Nat) (v : Option Value) (h : Heap) (L : List Loc) : Prop := ∃ (b18_0 : Addr) (k18_0 : ClassId), v = none ∧ Fr n0 L ∧ Keep h0 h [r0] ∧ Fld Z h r0 cs0 "coder" "B" vI1 ∧ Fld Z h r0 cs0 "value" "[B" (.ref b18_0) ∧ Fld Z h r0 cs0 "count" "I" vI1 ∧ Fld Z h r0 cs0 "maybeLatin1" "Z" vI0 ∧ h0.size ≤ b18_0 ∧ Exa Z h b18_0 "[B" ∧ Arv Z h b18_0 k18_0 .byte (32 : Int32) [vI58, vI0, (.int x8), (.int x9), (.int x10), (.int x11), vI0, vI0, vI0, vI0, vI0, vI0, vI0, vI0, vI0, vI0, vI0, vI0, vI0, vI0, vI0, vI0, vI0, vI0, vI0, vI0, vI0, vI0, vI0, vI0, vI0, vI0] vI0
theorem rm12_3 (l : Launch) (Z : State) (a0 : Array Value) (hw : own_HW a0 Z) (ws : List Jvm.Cond) (r0 r1 : Addr) (x2 : Int32) (r3 : Addr) (c4 : ClassId) (u5 : Value) (r6 : Addr) (c7 : ClassId) (x8 x9 : Int32) (x10 x11 : Int32) (h0 : Heap) (n0 : Nat) (O0 : Old Z n0 h0) (f1 : Exa Z h0 r0 "java/lang/StringBuilder") (f2 : Sta Z Z.heap "java/lang/String" "COMPACT_STRINGS" "Z" (.int x2)) (hc3 : ¬ (x2 = (0 : Int32))) (f4 : Fld Z h0 r0 cs0 "coder" "B" vI0) (f5 : Exa Z h0 r1 "java/lang/String") (f6 : Fld Z h0 r1 "java/lang/String" "coder" "B" vI1) (f7 : Fld Z h0 r0 cs0 "value" "[B" (.ref r3)) (f8 : Arv Z h0 r3 c4 .byte (16 : Int32) [vI58, vI0, vI0, vI0, vI0, vI0, vI0, vI0, vI0, vI0, vI0, vI0, vI0, vI0, vI0, vI0] vI0) (f9 : Fld Z h0 r0 cs0 "count" "I" vI1) (f10 : Sta Z Z.heap cs7 "SIOOBE_FORMATTER" cs8 u5) (hc11 : u5.isRef = true) (f12 : Sta Z Z.heap "java/lang/StringUTF16" "$assertionsDisabled" "Z" vI1) (f13 : Sta Z Z.heap "java/lang/StringUTF16" "HI_BYTE_SHIFT" "I" vI0) (f14 : Sta Z Z.heap "java/lang/StringUTF16" "LO_BYTE_SHIFT" "I" vI8) (l15 : r0 < h0.size) (g16 : n0 ≤ r0) (f17 : Fld Z h0 r0 cs0 "maybeLatin1" "Z" vI0) (n30 : r1 ≠ r0) (f32 : Fld Z h0 r1 "java/lang/String" "value" "[B" (.ref r6)) (f34 : Arv Z h0 r6 c7 .byte (4 : Int32) [(.int x8), (.int x9), (.int x10), (.int x11)] vI0) (n35 : r6 ≠ r0) :
    own_MF l mN9 jdk_68_method_73_code 3 none ws rR7_1_32_102 Z h0 #[(.ref r0), vI1, (.ref r1)] (Q12_3 Z r0 r1 x2 r3 c4 u5 r6 c7 x8 x9 x10 x11 h0 n0) := by
  refine own_open (plainFor_of_name pn_java_lang_AbstractStringBuilder) (L0 := #[lR r0, lV vI1, lR r1]) (fun _ => by first | (simp [entryFrame, mkF, argsToLocals, Value.category]; done) | rfl) ?_
  intro p e s m below meth c s₁ hx hby hml hret hnn hZ hown X0 e0
  have N0 := Fr.nil n0; have w := @ww Z a0 hw
  obtain ⟨cqq19, qq19, qq19'⟩ := f1.cell
  obtain ⟨_, T18, Lc18, X18, hQ18, st18⟩ := own_fin (X0.privateBack hx (y := mN7) hown (mvT hZ (w 81 rfl)) (mvT hZ (w 82 rfl)) (own_selfsel (mvT hZ (w 84 rfl)) (Cond.privateMethod_at (mvP hZ (w 83 rfl) (args := #[]))) (mvT hZ (w 82 rfl)) (by decide)) (Cond.privateMethod_at (mvP hZ (w 83 rfl) (args := #[]))) (mvT hZ (w 85 rfl)) (by decide) (backOf (W := 0) (rm13_2 l Z a0 hw [] r0 r1 x2 r3 c4 u5 h0 n0 O0 f2 hc3 f4 f5 f6 f1 f7 f8 f9 f10 hc11 f12 f13 f14 l15 g16 f17) hZ (w 85 rfl) (w 39 rfl) (by decide) (by decide)) (g := (mkF m 2 #[lR r0, lV vI1, lR r1] [(.ref r1), (.ref r0)])) rfl (by rw [hml]; rfl) (Steps.refl _) (a := r0) (by rw [e0]; exact qq19) qq19' (argsL := [(.ref r1)]) (rest := []) (lenOf pd__Ljava_lang_String__V rfl) rfl (own_W rfl) (hb hby d12_2) (fun _ _ => ⟨rfl, e0, (by decide : 0 + 1 ≤ _), (by decide : 0 + 32 ≤ _)⟩))
  obtain ⟨b18_0, k18_0, rfl, N18q, K18, f20, f21, f22, f23, f24, f25, f26⟩ := hQ18
  have N18 := Fr.app N0 N18q
  obtain ⟨T27, X27, e27, st27⟩ := getF X18 hx hZ hown (host := "") (Or.inl (w 43 rfl)) Via.refl rfl f21 (g := (mkF m 7 #[lR r0, lV vI1, lR r1] [(.ref r0), (.ref r1)])) rfl rfl (hb hby d12_7)
  obtain ⟨T28, X28, e28, st28⟩ := getF X27 hx hZ hown (host := "") (Or.inl (w 45 rfl)) Via.refl e27 f20 (g := (mkF m 12 #[lR r0, lV vI1, lR r1] [(.ref r0), vI1, (.ref b18_0), (.ref r1)])) rfl rfl (hb hby d12_12)
  have f29 := (f5.keep K18)
  have f31 := (f6.keep K18 (ninS n30 nin0))
  have f33 := (f32.keep K18 (ninS n30 nin0))
  have f36 := (f34.keep K18 (ninS n35 nin0))
  have zz37 : n0 ≤ h0.size := by rw [← O0.1]; exact O0.2.1
  have g38 := Nat.le_trans zz37 f24
  have o39 := Old.keep O0 K18 (allS g16 all0)
  obtain ⟨_, T40, Lc40, X40, hQ40, st40⟩ := own_cV X28 hx hZ hown e28 (rm14_1 l Z a0 hw [] r1 b18_0 (1 : Int32) (1 : Int32) x2 (1 : Int32) r6 (4 : Int32) c7 ([(.int x8), (.int x9), (.int x10), (.int x11)]) (32 : Int32) k18_0 ([vI58, vI0, vI0, vI0, vI0, vI0, vI0, vI0, vI0, vI0, vI0, vI0, vI0, vI0, vI0, vI0, vI0, vI0, vI0, vI0, vI0, vI0, vI0, vI0, vI0, vI0, vI0, vI0, vI0, vI0, vI0, vI0]) T18.heap n0 o39 f29 f2 hc3 f31 (by decide) f33 f36 f26 (own_lenK (n := 4) rfl (by decide) : [(.int x8), (.int x9), (.int x10), (.int x11)].length = ((4 : Int32)).toNatClampNeg) (by decide) (by decide) (by decide) (by decide) g38) f29 (w 87 rfl) (w 88 rfl) (w 90 rfl) (w 89 rfl) (w 91 rfl) (w 4 rfl) (by decide) (W := 0) (by decide) (by decide) (by decide) (by decide) (g := (mkF m 15 #[lR r0, lV vI1, lR r1] [vI1, vI1, (.ref b18_0), (.ref r1)])) rfl (by rw [hml]; rfl) (argsL := [(.ref b18_0), vI1, vI1]) (rest := []) (lenOf pd___BIB_V rfl) rfl (own_W rfl) (hb hby d12_15)
  obtain ⟨rfl, N40q, K40, f41⟩ := hQ40
  have N40 := Fr.app N18 N40q
  have f42 : Arv Z T40.heap b18_0 k18_0 .byte (32 : Int32) [vI58, vI0, (.int x8), (.int x9), (.int x10), (.int x11), vI0, vI0, vI0, vI0, vI0, vI0, vI0, vI0, vI0, vI0, vI0, vI0, vI0, vI0, vI0, vI0, vI0, vI0, vI0, vI0, vI0, vI0, vI0, vI0, vI0, vI0] vI0 := own_cpx (by decide : (((1 : Int32) <<< ((1 : Int32) &&& 31))).toNatClampNeg = 2) (by decide : (((1 : Int32) <<< ((1 : Int32) &&& 31))).toNatClampNeg + ((4 : Int32)).toNatClampNeg = 6) f41
  have n43 := Nat.ne_of_lt (Nat.lt_of_lt_of_le l15 f24)
  have f44 := (f20.keep K40 (ninS n43 nin0))
  have f45 := (f21.keep K40 (ninS n43 nin0))
  have f46 := (f22.keep K40 (ninS n43 nin0))
  have f47 := (f23.keep K40 (ninS n43 nin0))
  have f48 := (f25.keep K40)
  have kp49 : Keep h0 T18.heap [r0] := (Keep.refl h0 [r0]).trans K18 (allS (Or.inl (List.mem_of_getElem? (i := 0) rfl)) all0)
  have kp50 : Keep h0 T40.heap [r0] := kp49.trans K40 (allS (Or.inr f24) all0)
  refine ⟨none, _, _, _, _, (fun _ => rfl), X40, by decide, by decide, ?_, fun fs hr => ?_⟩
  · exact ⟨b18_0, k18_0, rfl, N40, kp50, f44, f45, f46, f47, f24, f48, f42⟩
  · show SG p e below s₁ (mkF m 0 #[lR r0, lV vI1, lR r1] []) _
    refine qaN X0 hx hby d12_0 ?_
    refine qaN X0 hx hby d12_1 ?_
    refine st18.trans ?_
    refine qaN X18 hx hby d12_5 ?_
    refine qaN X18 hx hby d12_6 ?_
    refine st27 _ ?_
    refine qiN X27 hx hby d12_10 ?_
    refine qaN X27 hx hby d12_11 ?_
    refine st28 _ ?_
    refine st40 _ ?_
    show SG p e below T40 (mkF m 18 #[lR r0, lV vI1, lR r1] []) _
    exact X40.returnOut hx hret (hb hby d12_18) hr
def Q8_3 (Z : State) (r0 r1 r2 : Addr) (c3 : ClassId) (x4 x5 : Int32) (x6 x7 x8 : Int32) (r9 : Addr) (c10 : ClassId) (u11 : Value) (h0 : Heap) (n0 : Nat) (v : Option Value) (h : Heap) (L : List Loc) : Prop := ∃ (b27_0 : Addr) (k27_0 : ClassId), v = some (.ref r0) ∧ Fr n0 L ∧ Keep h0 h [r0] ∧ Fld Z h r0 cs0 "coder" "B" vI1 ∧ Fld Z h r0 cs0 "value" "[B" (.ref b27_0) ∧ Fld Z h r0 cs0 "count" "I" vI3 ∧ Fld Z h r0 cs0 "maybeLatin1" "Z" vI0 ∧ h0.size ≤ b27_0 ∧ Exa Z h b27_0 "[B" ∧ Arv Z h b27_0 k27_0 .byte (32 : Int32) [vI58, vI0, (.int x4), (.int x5), (.int x6), (.int x7), vI0, vI0, vI0, vI0, vI0, vI0, vI0, vI0, vI0, vI0, vI0, vI0, vI0, vI0, vI0, vI0, vI0, vI0, vI0, vI0, vI0, vI0, vI0, vI0, vI0, vI0] vI0
theorem rm8_3 (l : Launch) (Z : State) (a0 : Array Value) (hw : own_HW a0 Z) (ws : List Jvm.Cond) (r0 r1 r2 : Addr) (c3 : ClassId) (x4 x5 : Int32) (x6 x7 x8 : Int32) (r9 : Addr) (c10 : ClassId) (u11 : Value) (h0 : Heap) (n0 : Nat) (O0 : Old Z n0 h0) (f1 : Exa Z h0 r1 "java/lang/String") (f2 : Fld Z h0 r1 "java/lang/String" "value" "[B" (.ref r2)) (f3 : Arv Z h0 r2 c3 .byte (4 : Int32) [(.int x4), (.int x5), (.int x6), (.int x7)] vI0) (f4 : Sta Z Z.heap "java/lang/String" "COMPACT_STRINGS" "Z" (.int x8)) (hc5 : ¬ (x8 = (0 : Int32))) (f6 : Fld Z h0 r1 "java/lang/String" "coder" "B" vI1) (f8 : Fld Z h0 r0 cs0 "count" "I" vI1) (f10 : Exa Z h0 r0 "java/lang/StringBuilder") (f11 : Fld Z h0 r0 cs0 "value" "[B" (.ref r9)) (f12 : Arv Z h0 r9 c10 .byte (16 : Int32) [vI58, vI0, vI0, vI0, vI0, vI0, vI0, vI0, vI0, vI0, vI0, vI0, vI0, vI0, vI0, vI0] vI0) (f13 : Fld Z h0 r0 cs0 "coder" "B" vI0) (f17 : Sta Z Z.heap cs7 "SIOOBE_FORMATTER" cs8 u11) (hc18 : u11.isRef = true) (f19 : Sta Z Z.heap "java/lang/StringUTF16" "$assertionsDisabled" "Z" vI1) (f20 : Sta Z Z.heap "java/lang/StringUTF16" "HI_BYTE_SHIFT" "I" vI0) (f21 : Sta Z Z.heap "java/lang/StringUTF16" "LO_BYTE_SHIFT" "I" vI8) (l22 : r0 < h0.size) (g23 : n0 ≤ r0) (f24 : Fld Z h0 r0 cs0 "maybeLatin1" "Z" vI0) (n25 : r1 ≠ r0) (n26 : r2 ≠ r0) :
    own_MF l mN10 jdk_68_method_22_code 3 (some (.object cs0)) ws rR8_1_32_116 Z h0 #[(.ref r0), (.ref r1)] (Q8_3 Z r0 r1 r2 c3 x4 x5 x6 x7 x8 r9 c10 u11 h0 n0) := by
  refine own_open (plainFor_of_name pn_java_lang_AbstractStringBuilder) (L0 := #[lR r0, lR r1, lU]) (fun _ => by first | (simp [entryFrame, mkF, argsToLocals, Value.category]; done) | rfl) ?_
  intro p e s m below meth c s₁ hx hby hml hret hnn hZ hown X0 e0
  have N0 := Fr.nil n0; have w := @ww Z a0 hw
  obtain ⟨_, T7, Lc7, X7, hQ7, st7⟩ := own_cV X0 hx hZ hown e0 (rm9_1 l Z a0 hw [] r1 r2 (4 : Int32) c3 ([(.int x4), (.int x5), (.int x6), (.int x7)]) x8 (1 : Int32) h0 n0 O0 f2 f3 f1 f4 hc5 f6) f1 (w 58 rfl) (w 59 rfl) (w 61 rfl) (w 60 rfl) (w 62 rfl) (w 4 rfl) (by decide) (W := 0) (by decide) (by decide) (by decide) (by decide) (g := (mkF m 10 #[lR r0, lR r1, lU] [(.ref r1)])) rfl (by rw [hml]; rfl) (argsL := []) (rest := []) (lenOf pd___I rfl) rfl (own_W rfl) (hb hby d8_10)
  obtain ⟨rfl, N7q, E7⟩ := hQ7
  have N7 := Fr.app N0 N7q
  obtain ⟨T9, X9, e9, st9⟩ := getF X7 hx hZ hown (host := "") (Or.inl (w 69 rfl)) Via.refl E7 f8 (g := (mkF m 16 #[lR r0, lR r1, lV vI2] [(.ref r0), (.ref r0)])) rfl rfl (hb hby d8_16)
  obtain ⟨cqq15, qq15, qq15'⟩ := f10.cell
  obtain ⟨_, T14, Lc14, X14, hQ14, st14⟩ := own_fin (X9.privateBack hx (y := mN6) hown (mvT hZ (w 71 rfl)) (mvT hZ (w 72 rfl)) (own_selfsel (mvT hZ (w 74 rfl)) (Cond.privateMethod_at (mvP hZ (w 73 rfl) (args := #[]))) (mvT hZ (w 72 rfl)) (by decide)) (Cond.privateMethod_at (mvP hZ (w 73 rfl) (args := #[]))) (mvT hZ (w 75 rfl)) (by decide) (backOf (W := 0) (rm11_1 l Z a0 hw [] r0 (3 : Int32) r9 (16 : Int32) c10 ([vI58, vI0, vI0, vI0, vI0, vI0, vI0, vI0, vI0, vI0, vI0, vI0, vI0, vI0, vI0, vI0]) (0 : Int32) h0 n0 O0 f11 f12 f13 (by decide)) hZ (w 75 rfl) (w 39 rfl) (by decide) (by decide)) (g := (mkF m 21 #[lR r0, lR r1, lV vI2] [vI3, (.ref r0)])) rfl (by rw [hml]; rfl) (Steps.refl _) (a := r0) (by rw [e9]; exact qq15) qq15' (argsL := [vI3]) (rest := []) (lenOf pd__I_V rfl) rfl (own_W rfl) (hb hby d8_21) (fun _ _ => ⟨rfl, e9, (by decide : 0 + 0 ≤ _), (by decide : 0 + 0 ≤ _)⟩))
  obtain ⟨rfl, N14q, E14⟩ := hQ14
  have N14 := Fr.app N7 N14q
  obtain ⟨T16, X16, e16, st16⟩ := getF X14 hx hZ hown (host := "") (Or.inl (w 69 rfl)) Via.refl E14 f8 (g := (mkF m 26 #[lR r0, lR r1, lV vI2] [(.ref r0), (.ref r0)])) rfl rfl (hb hby d8_26)
  obtain ⟨cqq28, qq28, qq28'⟩ := f10.cell
  obtain ⟨_, T27, Lc27, X27, hQ27, st27⟩ := own_fin (X16.privateBack hx (y := mN9) hown (mvT hZ (w 76 rfl)) (mvT hZ (w 77 rfl)) (own_selfsel (mvT hZ (w 79 rfl)) (Cond.privateMethod_at (mvP hZ (w 78 rfl) (args := #[]))) (mvT hZ (w 77 rfl)) (by decide)) (Cond.privateMethod_at (mvP hZ (w 78 rfl) (args := #[]))) (mvT hZ (w 80 rfl)) (by decide) (backOf (W := 0) (rm12_3 l Z a0 hw [] r0 r1 x8 r9 c10 u11 r2 c3 x4 x5 x6 x7 h0 n0 O0 f10 f4 hc5 f13 f1 f6 f11 f12 f8 f17 hc18 f19 f20 f21 l22 g23 f24 n25 f2 f3 n26) hZ (w 80 rfl) (w 39 rfl) (by decide) (by decide)) (g := (mkF m 30 #[lR r0, lR r1, lV vI2] [(.ref r1), vI1, (.ref r0)])) rfl (by rw [hml]; rfl) (Steps.refl _) (a := r0) (by rw [e16]; exact qq28) qq28' (argsL := [vI1, (.ref r1)]) (rest := []) (lenOf pd__ILjava_lang_String__V rfl) rfl (own_W rfl) (hb hby d8_30) (fun _ _ => ⟨rfl, e16, (by decide : 0 + 1 ≤ _), (by decide : 0 + 32 ≤ _)⟩))
  obtain ⟨b27_0, k27_0, rfl, N27q, K27, f29, f30, f31, f32, f33, f34, f35⟩ := hQ27
  have N27 := Fr.app N14 N27q
  obtain ⟨T36, X36, e36, st36⟩ := getF X27 hx hZ hown (host := "") (Or.inl (w 69 rfl)) Via.refl rfl f31 (g := (mkF m 35 #[lR r0, lR r1, lV vI2] [(.ref r0), (.ref r0)])) rfl rfl (hb hby d8_35)
  have f37 := (f10.keep K27)
  obtain ⟨T38, h38, X38, e38, W38, st38⟩ := putF X36 hx hZ hown (host := "") (Or.inl (w 69 rfl)) Via.refl e36 f31 f37 (Or.inl (w 70 rfl)) (w 30 rfl) (ty := .int) (by decide) rfl rfl (g := (mkF m 40 #[lR r0, lR r1, lV vI2] [vI3, (.ref r0)])) rfl rfl (hb hby d8_40)
  have Fw38 := f31.same W38
  have N38 := Fr.snoc X38 N27 g23
  have f39 := (f29.other W38 (Or.inr (slot_ne (Or.inl (w 46 rfl)) (Or.inl (w 70 rfl)) (by decide) (t := .byte) (t' := .int) (by decide) (by decide))))
  have f40 := (f30.other W38 (Or.inr (slot_ne (Or.inl (w 44 rfl)) (Or.inl (w 70 rfl)) (by decide) (t := (.array .byte)) (t' := .int) (by decide) (by decide))))
  have f41 := (f32.other W38 (Or.inr (slot_ne (Or.inl (w 235 rfl)) (Or.inl (w 70 rfl)) (by decide) (t := .boolean) (t' := .int) (by decide) (by decide))))
  have f42 := (f34.wr W38)
  have n43 := Nat.ne_of_lt (Nat.lt_of_lt_of_le l22 f33)
  have f44 := (f35.other W38 (Ne.symm n43))
  have kp45 : Keep h0 T27.heap [r0] := (Keep.refl h0 [r0]).trans K27 (allS (Or.inl (List.mem_of_getElem? (i := 0) rfl)) all0)
  have kp46 : Keep h0 h38 [r0] := kp45.wr W38 (Or.inl (List.mem_of_getElem? (i := 0) rfl))
  refine ⟨some (.ref r0), _, _, _, _, nofun, X38, by decide, by decide, ?_, fun fs hr => ?_⟩
  · rw [e38]; exact ⟨b27_0, k27_0, rfl, N38, kp46, f39, f40, Fw38, f41, f33, f42, f44⟩
  · show SG p e below s₁ (mkF m 0 #[lR r0, lR r1, lU] []) _
    refine qaN X0 hx hby d8_0 ?_
    refine XS.ifnonnullYes X0.here hx rfl (pc0 := 1) (pc' := 9) rfl (hb hby d8_1) rfl (by decide) (by decide) ?_
    refine qaN X0 hx hby d8_9 ?_
    refine st7 _ ?_
    refine XS.istoreN X7.here hx rfl (hb hby d8_13) rfl (l' := #[lR r0, lR r1, lV vI2]) rfl ?_
    refine qaN X7 hx hby d8_14 ?_
    refine qaN X7 hx hby d8_15 ?_
    refine st9 _ ?_
    refine qiN X9 hx hby d8_19 ?_
    refine XS.iadd X9.here hx rfl (hb hby d8_20) rfl ?_
    show SG p e below T9 (mkF m 21 #[lR r0, lR r1, lV vI2] [vI3, (.ref r0)]) _
    refine st14.trans ?_
    refine qaN X14 hx hby d8_24 ?_
    refine qaN X14 hx hby d8_25 ?_
    refine st16 _ ?_
    refine qaN X16 hx hby d8_29 ?_
    refine st27.trans ?_
    refine qaN X27 hx hby d8_33 ?_
    refine qd X27 hx hby d8_34 ?_
    refine st36 _ ?_
    refine qiN X36 hx hby d8_38 ?_
    show SG p e below T36 (mkF m 39 #[lR r0, lR r1, lV vI2] [vI2, vI1, (.ref r0)]) _
    refine XS.iadd X36.here hx rfl (hb hby d8_39) rfl ?_
    refine st38 _ ?_
    refine qaN X38 hx hby d8_43 ?_
    exact retOut X38 hx (i := .areturn) hret rfl (Or.inr (Or.inr (Or.inr (Or.inr ⟨rfl, rfl, rfl⟩)))) (hb hby d8_44) hr
def Q7_3 (Z : State) (r0 r1 r2 : Addr) (c3 : ClassId) (x4 x5 : Int32) (x6 x7 x8 : Int32) (r9 : Addr) (c10 : ClassId) (u11 : Value) (h0 : Heap) (n0 : Nat) (v : Option Value) (h : Heap) (L : List Loc) : Prop := ∃ (b22_0 : Addr) (k22_0 : ClassId), v = some (.ref r0) ∧ Fr n0 L ∧ Keep h0 h [r0] ∧ Fld Z h r0 cs0 "coder" "B" vI1 ∧ Fld Z h r0 cs0 "value" "[B" (.ref b22_0) ∧ Fld Z h r0 cs0 "count" "I" vI3 ∧ Fld Z h r0 cs0 "maybeLatin1" "Z" vI0 ∧ h0.size ≤ b22_0 ∧ Exa Z h b22_0 "[B" ∧ Arv Z h b22_0 k22_0 .byte (32 : Int32) [vI58, vI0, (.int x4), (.int x5), (.int x6), (.int x7), vI0, vI0, vI0, vI0, vI0, vI0, vI0, vI0, vI0, vI0, vI0, vI0, vI0, vI0, vI0, vI0, vI0, vI0, vI0, vI0, vI0, vI0, vI0, vI0, vI0, vI0] vI0
theorem rm7_3 (l : Launch) (Z : State) (a0 : Array Value) (hw : own_HW a0 Z) (ws : List Jvm.Cond) (r0 r1 r2 : Addr) (c3 : ClassId) (x4 x5 : Int32) (x6 x7 x8 : Int32) (r9 : Addr) (c10 : ClassId) (u11 : Value) (h0 : Heap) (n0 : Nat) (O0 : Old Z n0 h0) (f1 : Exa Z h0 r1 "java/lang/String") (f2 : Fld Z h0 r1 "java/lang/String" "value" "[B" (.ref r2)) (f3 : Arv Z h0 r2 c3 .byte (4 : Int32) [(.int x4), (.int x5), (.int x6), (.int x7)] vI0) (f4 : Sta Z Z.heap "java/lang/String" "COMPACT_STRINGS" "Z" (.int x8)) (hc5 : ¬ (x8 = (0 : Int32))) (f6 : Fld Z h0 r1 "java/lang/String" "coder" "B" vI1) (f7 : Fld Z h0 r0 cs0 "count" "I" vI1) (f8 : Exa Z h0 r0 "java/lang/StringBuilder") (f9 : Fld Z h0 r0 cs0 "value" "[B" (.ref r9)) (f10 : Arv Z h0 r9 c10 .byte (16 : Int32) [vI58, vI0, vI0, vI0, vI0, vI0, vI0, vI0, vI0, vI0, vI0, vI0, vI0, vI0, vI0, vI0] vI0) (f11 : Fld Z h0 r0 cs0 "coder" "B" vI0) (f12 : Sta Z Z.heap cs7 "SIOOBE_FORMATTER" cs8 u11) (hc13 : u11.isRef = true) (f14 : Sta Z Z.heap "java/lang/StringUTF16" "$assertionsDisabled" "Z" vI1) (f15 : Sta Z Z.heap "java/lang/StringUTF16" "HI_BYTE_SHIFT" "I" vI0) (f16 : Sta Z Z.heap "java/lang/StringUTF16" "LO_BYTE_SHIFT" "I" vI8) (l17 : r0 < h0.size) (g18 : n0 ≤ r0) (f19 : Fld Z h0 r0 cs0 "maybeLatin1" "Z" vI0) (n20 : r1 ≠ r0) (n21 : r2 ≠ r0) :
    own_MF l mN11 jdk_67_method_7_code 2 (some (.object "java/lang/StringBuilder")) ws rR9_1_32_130 Z h0 #[(.ref r0), (.ref r1)] (Q7_3 Z r0 r1 r2 c3 x4 x5 x6 x7 x8 r9 c10 u11 h0 n0) := by
  refine own_open (plainFor_of_name pn_java_lang_StringBuilder) (L0 := #[lR r0, lR r1]) (fun _ => by first | (simp [entryFrame, mkF, argsToLocals, Value.category]; done) | rfl) ?_
  intro p e s m below meth c s₁ hx hby hml hret hnn hZ hown X0 e0
  have N0 := Fr.nil n0; have w := @ww Z a0 hw
  obtain ⟨_, T22, Lc22, X22, hQ22, st22⟩ := own_fin (superBack X0 hx hZ (y := mN10) hown (w 53 rfl) (own_sameOwn (y := mN10) (w 74 rfl) rfl (w 54 rfl) (by decide)) (w 54 rfl) (w 55 rfl) (by decide) (backOf (W := 0) (rm8_3 l Z a0 hw [] r0 r1 r2 c3 x4 x5 x6 x7 x8 r9 c10 u11 h0 n0 O0 f1 f2 f3 f4 hc5 f6 f7 f8 f9 f10 f11 f12 hc13 f14 f15 f16 l17 g18 f19 n20 n21) hZ (w 57 rfl) (w 39 rfl) (by decide) (by decide)) e0 (Ins.self f8) (g := (mkF m 2 #[lR r0, lR r1] [(.ref r1), (.ref r0)])) rfl (by rw [hml]; rfl) (w 57 rfl) (argsL := [(.ref r1)]) (rest := []) (lenOf pd__Ljava_lang_String__Ljava_lang_AbstractStringBuilder_ rfl) rfl (own_W rfl) (hb hby d7_2) (fun _ _ => ⟨rfl, e0, (by decide : 0 + 1 ≤ _), (by decide : 0 + 32 ≤ _)⟩))
  obtain ⟨b22_0, k22_0, rfl, N22q, K22, f23, f24, f25, f26, f27, f28, f29⟩ := hQ22
  have N22 := Fr.app N0 N22q
  have kp30 : Keep h0 T22.heap [r0] := (Keep.refl h0 [r0]).trans K22 (allS (Or.inl (List.mem_of_getElem? (i := 0) rfl)) all0)
  refine ⟨some (.ref r0), _, _, _, _, nofun, X22, by decide, by decide, ?_, fun fs hr => ?_⟩
  · exact ⟨b22_0, k22_0, rfl, N22, kp30, f23, f24, f25, f26, f27, f28, f29⟩
  · show SG p e below s₁ (mkF m 0 #[lR r0, lR r1] []) _
    refine qaN X0 hx hby d7_0 ?_
    refine qaN X0 hx hby d7_1 ?_
    refine st22.trans ?_
    refine XS.pop X22.here hx rfl (hb hby d7_5) rfl rfl ?_
    refine qaN X22 hx hby d7_6 ?_
    exact retOut X22 hx (i := .areturn) hret rfl (Or.inr (Or.inr (Or.inr (Or.inr ⟨rfl, rfl, rfl⟩)))) (hb hby d7_7) hr
def Q4_4 (Z : State) (r0 : Addr) (x1 : Int32) (r2 : Addr) (c3 : ClassId) (x4 x5 : Int32) (x6 x7 : Int32) (u8 : Value) (h0 : Heap) (n0 : Nat) (v : Option Value) (h : Heap) (L : List Loc) : Prop := ∃ (b1 b93_0 b93_1 : Addr) (k93_0 : ClassId), v = some (.ref b1) ∧ Fr n0 L ∧ Keep h0 h [] ∧ h0.size ≤ b1 ∧ Exa Z h b1 cs5 ∧ Fld Z h b1 cs5 "name" "Ljava/lang/String;" (.ref b93_0) ∧ h0.size ≤ b93_0 ∧ Exa Z h b93_0 "java/lang/String" ∧ Fld Z h b93_0 "java/lang/String" "coder" "B" vI1 ∧ Fld Z h b93_0 "java/lang/String" "value" "[B" (.ref b93_1) ∧ h0.size ≤ b93_1 ∧ Arv Z h b93_1 k93_0 .byte (6 : Int32) [vI58, vI0, (.int x4), (.int x5), (.int x6), (.int x7)] vI0 ∧ Exa Z h b93_1 "[B" ∧ b1 ≠ b93_0 ∧ b1 ≠ b93_1 ∧ b93_0 ≠ b93_1
theorem rm4_4 (l : Launch) (Z : State) (a0 : Array Value) (hw : own_HW a0 Z) (ws : List Jvm.Cond) (r0 : Addr) (x1 : Int32) (r2 : Addr) (c3 : ClassId) (x4 x5 : Int32) (x6 x7 : Int32) (u8 : Value) (h0 : Heap) (n0 : Nat) (O0 : Old Z n0 h0) (f12 : Sta Z Z.heap "java/lang/String" "COMPACT_STRINGS" "Z" (.int x1)) (hc13 : ¬ (x1 = (0 : Int32))) (f55 : Exa Z h0 r0 "java/lang/String") (f57 : Fld Z h0 r0 "java/lang/String" "value" "[B" (.ref r2)) (l58 : r0 < h0.size) (f64 : Arv Z h0 r2 c3 .byte (4 : Int32) [(.int x4), (.int x5), (.int x6), (.int x7)] vI0) (l65 : r2 < h0.size) (f69 : Fld Z h0 r0 "java/lang/String" "coder" "B" vI1) (f72 : Sta Z Z.heap cs7 "SIOOBE_FORMATTER" cs8 u8) (hc73 : u8.isRef = true) (f74 : Sta Z Z.heap "java/lang/StringUTF16" "$assertionsDisabled" "Z" vI1) (f75 : Sta Z Z.heap "java/lang/StringUTF16" "HI_BYTE_SHIFT" "I" vI0) (f76 : Sta Z Z.heap "java/lang/StringUTF16" "LO_BYTE_SHIFT" "I" vI8) :
    own_MH l mN25 prog_22_method_2_code 1 (some (.object cs5)) ws rR10_8_81_145 Z h0 #[(.ref r0)] (Q4_4 Z r0 x1 r2 c3 x4 x5 x6 x7 u8 h0 n0) := by
  have hEL : EW Z a0 consts_1 := own_EW hw
  refine own_openH hEL (plainFor_of_name pn_com_example_manojo_manojo_QueryTree_Parameter) (L0 := #[lR r0]) (fun _ => by first | (simp [entryFrame, mkF, argsToLocals, Value.category]; done) | rfl) ?_
  intro p e s m below meth c s₁ hx hby hml hret hnn hZ hown X0 e0 R0
  have N0 := Fr.nil n0; have w := @ww Z a0 hw
  obtain ⟨T1, h1, X1, e1, E1, A1, D1, -, st1⟩ := newO X0 hx hZ hown (w 27 rfl) (w 28 rfl) (w 25 rfl) e0 (g := (mkF m 0 #[lR r0] [])) rfl (hb hby d4_0) (by decide) (by decide)
  obtain ⟨b1, g1⟩ : ∃ z, z = h0.size := ⟨_, rfl⟩
  have sf2 : Safe Z consts_1 s.vm h0 b1 := Safe.new (Nat.le_of_eq g1.symm)
  rw [← g1] at A1 D1 st1
  have R3 := CHr.trans R0 (CHr.ext E1 R0.1)
  have f4 : Fld Z h1 b1 cs5 "name" "Ljava/lang/String;" .null := D1 (Or.inr (w 151 rfl)) (ty := (.object "java/lang/String")) (by decide)
  obtain ⟨T5, h5, X5, e5, E5, A5, D5, -, st5⟩ := newO X1 hx hZ hown (w 29 rfl) (w 30 rfl) (w 31 rfl) e1 (g := (mkF m 4 #[lR r0] [(.ref b1), (.ref b1)])) rfl (hb hby d4_4) (by decide) (by decide)
  obtain ⟨b5, g5⟩ : ∃ z, z = h1.size := ⟨_, rfl⟩
  have sf6 : Safe Z consts_1 s.vm h1 b5 := Safe.new (Nat.le_of_eq g5.symm)
  rw [← g5] at A5 D5 st5
  have R7 := CHr.trans R3 (CHr.ext E5 R3.1)
  have f8 : Fld Z h5 b5 cs0 "value" "[B" .null := D5 (Or.inl (w 44 rfl)) (ty := (.array .byte)) (by decide)
  have f9 : Fld Z h5 b5 cs0 "coder" "B" vI0 := D5 (Or.inl (w 46 rfl)) (ty := .byte) (by decide)
  have f10 : Fld Z h5 b5 cs0 "count" "I" vI0 := D5 (Or.inl (w 70 rfl)) (ty := .int) (by decide)
  have f11 : Fld Z h5 b5 cs0 "maybeLatin1" "Z" vI0 := D5 (Or.inl (w 235 rfl)) (ty := .boolean) (by decide)
  have o15 := Old.ext O0 E1
  have zz14 : n0 ≤ h1.size := by rw [← o15.1]; exact o15.2.1
  have g16 := Nat.le_trans zz14 (Nat.le_of_eq g5.symm)
  have o17 := Old.ext o15 E5
  obtain ⟨_, T18, Lc18, X18, hQ18, st18⟩ := own_fin (X5.specialBack hx (y := mN3) rfl hown (mvT hZ (w 32 rfl)) (mvT hZ (w 33 rfl)) (mvT hZ (w 34 rfl)) (by decide) (backOf (W := 3) (rm5_1 l Z a0 hw [] b5 x1 h5 n0 o17 f12 hc13 A5 f8 g16 f9 f10 f11 A5.lt) hZ (w 34 rfl) (w 31 rfl) (by decide) (by decide)) (g := (mkF m 8 #[lR r0] [(.ref b5), (.ref b5), (.ref b1), (.ref b1)])) rfl (by rw [hml]; rfl) (Steps.refl _) (a := b5) (argsL := []) (rest := [(.ref b5), (.ref b1), (.ref b1)]) (lenOf pd___V rfl) rfl (own_W rfl) (hb hby d4_8) (fun _ _ => ⟨rfl, e5, (by decide : 2 + 1 ≤ _), (by decide : 5 + 16 ≤ _)⟩))
  obtain ⟨b18_0, k18_0, rfl, N18q, K18, f19, f20, f21, f22, f23, f24, f25⟩ := hQ18
  have N18 := Fr.app N0 N18q
  have R26 := CHr.trans R7 (CHr.keep K18 (sfS (Safe.exa hZ.alike A5 (by decide) (by decide)) sf0) R7.1)
  have sf27 : Safe Z consts_1 s.vm h5 b18_0 := Safe.new f23
  have hS28 := (State.WarmedH.refl s).since 0
  have hstr : ∀ a ∈ Bundle.stringAtoms, a.before a0 Z = true := fun a q => hw a (own_str a q)
  obtain ⟨a29, T29, h29, kk29, b29, k29, X29, e29, E29, hS29, hk29, hZ29, ho29, EE29, C29, F29, V29, l29, m29, CR29, -, ne29, st29⟩ := ldcCH (s := s) (vm0 := s.vm) X18 hx hZ hown (w 47 rfl) hstr rfl hS28 (Nat.zero_le _) hEL (by simp [consts_1]) R26.1 (vs := [vI58]) (z := (1 : Int32)) ⟨by decide, by decide⟩ (by decide) rfl (g := (mkF m 11 #[lR r0] [(.ref b5), (.ref b1), (.ref b1)])) rfl (hb hby d4_11) (n := 4) (by decide) (by decide) (by decide) (by decide)
  have R30 := CHr.trans R26 CR29
  have f31 := (((A1.ext E5).keep K18).ext E29)
  have nl32 := ne29 _ (Safe.exa hZ29.alike f31 (by decide) (by decide))
  have f33 := ((A5.keep K18).ext E29)
  have nl34 := ne29 _ (Safe.exa hZ29.alike f33 (by decide) (by decide))
  have sf35 := (CHr.safe CR29 f24.lt (Safe.keep K18 (sfS (Safe.exa hZ.alike A5 (by decide) (by decide)) sf0) R7.1 sf27))
  have nl36 := ne29 _ sf35
  have f37 := (f21.ext E29)
  have f38 := (f19.ext E29)
  have f39 := (f24.ext E29)
  have f40 := (f20.ext E29)
  have zz41 : n0 ≤ h5.size := by rw [← o17.1]; exact o17.2.1
  have g42 := Nat.le_trans zz41 f23
  have n43 := Nat.ne_of_lt (Nat.lt_of_lt_of_le A5.lt f23)
  have f44 := (f22.ext E29)
  have o45 := Old.keep o17 K18 (allS g16 all0)
  have o46 := Old.ext o45 E29
  obtain ⟨_, T47, Lc47, X47, hQ47, st47⟩ := own_cV X29 hx hZ29 ho29 e29 (rm7_1 l Z a0 hw [] b5 a29 b29 (1 : Int32) k29 ([vI58]) x1 (0 : Int32) (0 : Int32) b18_0 (16 : Int32) k18_0 ([vI0, vI0, vI0, vI0, vI0, vI0, vI0, vI0, vI0, vI0, vI0, vI0, vI0, vI0, vI0, vI0]) (0 : Int32) (0 : Int32) h29 n0 o46 EE29 F29 V29 f12 hc13 C29 f37 f33 f38 f39 f40 (by decide) (by decide) (by decide) (by decide) (by decide) (by decide) (by decide) (by decide) g42 n43 g16 f44) f33 (w 48 rfl) (w 49 rfl) (w 51 rfl) (w 50 rfl) (w 52 rfl) (w 31 rfl) (by decide) (W := 2) (by decide) (by decide) (by decide) (by decide) (g := (mkF m 13 #[lR r0] [(.ref a29), (.ref b5), (.ref b1), (.ref b1)])) rfl (by rw [hml]; rfl) (argsL := [(.ref a29)]) (rest := [(.ref b1), (.ref b1)]) (lenOf pd__Ljava_lang_String__Ljava_lang_StringBuilder_ rfl) rfl (own_W rfl) (hb hby d4_13)
  obtain ⟨rfl, N47q, K47, f48, f49, f50, f51, f52⟩ := hQ47
  have N47 := Fr.app N18 N47q
  have R53 := CHr.trans R30 (CHr.keep K47 (sfS sf35 (sfS (Safe.exa hZ29.alike f33 (by decide) (by decide)) sf0)) R30.1)
  have f54 : Arv Z T47.heap b18_0 k18_0 .byte (16 : Int32) [vI58, vI0, vI0, vI0, vI0, vI0, vI0, vI0, vI0, vI0, vI0, vI0, vI0, vI0, vI0, vI0] vI0 := own_cpx (by decide : (((0 : Int32) <<< ((0 : Int32) &&& 31))).toNatClampNeg = 0) (by decide : (((0 : Int32) <<< ((0 : Int32) &&& 31))).toNatClampNeg + ((1 : Int32)).toNatClampNeg = 1) f48
  have f56 := (((((f55.ext E1).ext E5).keep K18).ext E29).keep K47)
  have zs59 := E1.1
  have n60 := Nat.ne_of_lt (Nat.lt_of_lt_of_le (Nat.lt_of_lt_of_le l58 zs59) (Nat.le_of_eq g5.symm))
  have zs61 := Nat.le_trans zs59 E5.1
  have n62 := Nat.ne_of_lt (Nat.lt_of_lt_of_le (Nat.lt_of_lt_of_le l58 zs61) f23)
  have f63 := (((((f57.ext E1).ext E5).keep K18 (ninS n60 nin0)).ext E29).keep K47 (ninS n62 (ninS n60 nin0)))
  have n66 := Nat.ne_of_lt (Nat.lt_of_lt_of_le (Nat.lt_of_lt_of_le l65 zs59) (Nat.le_of_eq g5.symm))
  have n67 := Nat.ne_of_lt (Nat.lt_of_lt_of_le (Nat.lt_of_lt_of_le l65 zs61) f23)
  have f68 := (((((f64.ext E1).ext E5).keep K18 (ninS n66 nin0)).ext E29).keep K47 (ninS n67 (ninS n66 nin0)))
  have f70 := (((((f69.ext E1).ext E5).keep K18 (ninS n60 nin0)).ext E29).keep K47 (ninS n62 (ninS n60 nin0)))
  have f71 := (f33.keep K47)
  have zs77 := K18.1
  have zs78 := Nat.le_trans zs77 E29.1
  have zs79 := Nat.le_trans zs78 K47.1
  have o80 := Old.keep o46 K47 (allS g42 (allS g16 all0))
  obtain ⟨_, T81, Lc81, X81, hQ81, st81⟩ := own_cV X47 hx hZ29 ho29 rfl (rm7_3 l Z a0 hw [] b5 r0 r2 c3 x4 x5 x6 x7 x1 b18_0 k18_0 u8 T47.heap n0 o80 f56 f63 f68 f12 hc13 f70 f49 f71 f50 f54 f51 f72 hc73 f74 f75 f76 (Nat.lt_of_lt_of_le A5.lt zs79) g16 f52 n60 n66) f71 (w 48 rfl) (w 49 rfl) (w 51 rfl) (w 50 rfl) (w 52 rfl) (w 31 rfl) (by decide) (W := 2) (by decide) (by decide) (by decide) (by decide) (g := (mkF m 17 #[lR r0] [(.ref r0), (.ref b5), (.ref b1), (.ref b1)])) rfl (by rw [hml]; rfl) (argsL := [(.ref r0)]) (rest := [(.ref b1), (.ref b1)]) (lenOf pd__Ljava_lang_String__Ljava_lang_StringBuilder_ rfl) rfl (own_W rfl) (hb hby d4_17)
  obtain ⟨b81_0, k81_0, rfl, N81q, K81, f82, f83, f84, f85, f86, f87, f88⟩ := hQ81
  have N81 := Fr.app N47 N81q
  have R89 := CHr.trans R53 (CHr.keep K81 (sfS (Safe.exa hZ29.alike f71 (by decide) (by decide)) sf0) R53.1)
  have sf90 : Safe Z consts_1 T29.vm T47.heap b81_0 := Safe.new f86
  have f91 := (f71.keep K81)
  have o92 := Old.keep o80 K81 (allS g16 all0)
  obtain ⟨_, T93, Lc93, X93, hQ93, st93⟩ := own_cV X81 hx hZ29 ho29 rfl (rm15_2 l Z a0 hw [] b5 b81_0 (3 : Int32) x1 (1 : Int32) (0 : Int32) (32 : Int32) k81_0 ([vI58, vI0, (.int x4), (.int x5), (.int x6), (.int x7), vI0, vI0, vI0, vI0, vI0, vI0, vI0, vI0, vI0, vI0, vI0, vI0, vI0, vI0, vI0, vI0, vI0, vI0, vI0, vI0, vI0, vI0, vI0, vI0, vI0, vI0]) T81.heap n0 o92 f91 f83 f84 f12 hc13 f82 (by decide) f85 (by decide) f88 f87.lt (by decide) (by decide) (by decide) (by decide) (by decide) (by decide)) f91 (w 96 rfl) (w 97 rfl) (w 99 rfl) (w 98 rfl) (w 100 rfl) (w 31 rfl) (by decide) (W := 2) (by decide) (by decide) (by decide) (by decide) (g := (mkF m 20 #[lR r0] [(.ref b5), (.ref b1), (.ref b1)])) rfl (by rw [hml]; rfl) (argsL := []) (rest := [(.ref b1), (.ref b1)]) (lenOf pd___Ljava_lang_String_ rfl) rfl (own_W rfl) (hb hby d4_20)
  obtain ⟨b93_0, b93_1, k93_0, rfl, N93q, K93, f94, f95, f96, f97, f98, f99, f100, f101⟩ := hQ93
  have N93 := Fr.app N81 N93q
  have R102 := CHr.trans R89 (CHr.keep K93 sf0 R89.1)
  have sf103 : Safe Z consts_1 T29.vm T81.heap b93_0 := Safe.new f94
  have sf104 : Safe Z consts_1 T29.vm T81.heap b93_1 := Safe.new f98
  have f105 : Arv Z T93.heap b93_1 k93_0 .byte (6 : Int32) [vI58, vI0, (.int x4), (.int x5), (.int x6), (.int x7)] vI0 := own_trunc (ws := [vI58, vI0, (.int x4), (.int x5), (.int x6), (.int x7)]) (rest := [vI0, vI0, vI0, vI0, vI0, vI0, vI0, vI0, vI0, vI0, vI0, vI0, vI0, vI0, vI0, vI0, vI0, vI0, vI0, vI0, vI0, vI0, vI0, vI0, vI0, vI0]) (own_lenK (n := 6) rfl (by decide)) f99
  have f106 := (((f31.keep K47).keep K81).keep K93)
  have n107 := Nat.ne_of_lt (Nat.lt_of_lt_of_le A1.lt (Nat.le_of_eq g5.symm))
  have zs108 := E5.1
  have n109 := Nat.ne_of_lt (Nat.lt_of_lt_of_le (Nat.lt_of_lt_of_le A1.lt zs108) f23)
  have f110 := ((((((f4.ext E5).keep K18 (ninS n107 nin0)).ext E29).keep K47 (ninS n109 (ninS n107 nin0))).keep K81 (ninS n107 nin0)).keep K93 nin0)
  have zz111 : n0 ≤ h0.size := by rw [← O0.1]; exact O0.2.1
  have g112 := Nat.le_trans zz111 (Nat.le_of_eq g1.symm)
  have o113 := Old.keep o92 K93 all0
  obtain ⟨_, T114, Lc114, X114, hQ114, st114⟩ := own_fin (X93.specialBack hx (y := mN24) rfl ho29 (mvT hZ29 (w 141 rfl)) (mvT hZ29 (w 142 rfl)) (mvT hZ29 (w 143 rfl)) (by decide) (backOf (W := 1) (rm26_1 l Z a0 hw [] b1 b93_0 T93.heap n0 o113 f106 f110 g112) hZ29 (w 143 rfl) (w 25 rfl) (by decide) (by decide)) (g := (mkF m 23 #[lR r0] [(.ref b93_0), (.ref b1), (.ref b1)])) rfl (by rw [hml]; rfl) (Steps.refl _) (a := b1) (argsL := [(.ref b93_0)]) (rest := [(.ref b1)]) (lenOf pd__Ljava_lang_String__V rfl) rfl (own_W rfl) (hb hby d4_23) (fun _ _ => ⟨rfl, rfl, (by decide : 8 + 0 ≤ _), (by decide : 81 + 0 ≤ _)⟩))
  obtain ⟨rfl, N114q, K114, f115⟩ := hQ114
  have N114 := Fr.app N93 N114q
  have R116 := CHr.trans R102 (CHr.keep K114 (sfS (Safe.exa hZ29.alike f106 (by decide) (by decide)) sf0) R102.1)
  have f117 := (f106.keep K114)
  have zs118 := Nat.le_trans zs61 K18.1
  have zs119 := Nat.le_trans zs118 E29.1
  have zs120 := Nat.le_trans zs119 K47.1
  have zs121 := Nat.le_trans zs120 K81.1
  have f122 := (f95.keep K114)
  have zs123 := Nat.le_trans zs108 K18.1
  have zs124 := Nat.le_trans zs123 E29.1
  have zs125 := Nat.le_trans zs124 K47.1
  have zs126 := Nat.le_trans zs125 K81.1
  have n127 := Nat.ne_of_lt (Nat.lt_of_lt_of_le (Nat.lt_of_lt_of_le A1.lt zs126) f94)
  have f128 := (f96.keep K114 (ninS (Ne.symm n127) nin0))
  have f129 := (f97.keep K114 (ninS (Ne.symm n127) nin0))
  have n130 := Nat.ne_of_lt (Nat.lt_of_lt_of_le (Nat.lt_of_lt_of_le A1.lt zs126) f98)
  have f131 := (f105.keep K114 (ninS (Ne.symm n130) nin0))
  have f132 := (f100.keep K114)
  have kp133 : Keep h0 h1 [] := (Keep.refl h0 []).ext E1
  have kp134 : Keep h0 h5 [] := kp133.ext E5
  have kp135 : Keep h0 T18.heap [] := kp134.trans K18 (allS (Or.inr (Nat.le_trans zs59 (Nat.le_of_eq g5.symm))) all0)
  have kp136 : Keep h0 h29 [] := kp135.ext E29
  have kp137 : Keep h0 T47.heap [] := kp136.trans K47 (allS (Or.inr (Nat.le_trans zs61 f23)) (allS (Or.inr (Nat.le_trans zs59 (Nat.le_of_eq g5.symm))) all0))
  have kp138 : Keep h0 T81.heap [] := kp137.trans K81 (allS (Or.inr (Nat.le_trans zs59 (Nat.le_of_eq g5.symm))) all0)
  have kp139 : Keep h0 T93.heap [] := kp138.trans K93 all0
  have kp140 : Keep h0 T114.heap [] := kp139.trans K114 (allS (Or.inr (Nat.le_of_eq g1.symm)) all0)
  have zs141 := K47.1
  have zs142 := Nat.le_trans zs141 K81.1
  have zs143 := Nat.le_trans zs142 K93.1
  have zs144 := Nat.le_trans zs143 K114.1
  refine ⟨some (.ref b1), _, _, _, _, _, _, _, nofun, X114, by decide, by decide, hS29, ((Nat.le_trans hk29 zs144)), hZ29, rfl, R116, ?_, fun fs hr => ?_⟩
  · exact ⟨b1, b93_0, b93_1, k93_0, rfl, N114, kp140, (Nat.le_of_eq g1.symm), f117, f115, (Nat.le_trans zs121 f94), f122, f128, f129, (Nat.le_trans zs121 f98), f131, f132, n127, n130, f101⟩
  · show SG p e below s₁ (mkF m 0 #[lR r0] []) _
    refine st1 _ ?_
    refine qd X1 hx hby d4_3 ?_
    refine st5 _ ?_
    refine qd X5 hx hby d4_7 ?_
    refine st18.trans ?_
    refine st29 _ ?_
    refine st47 _ ?_
    refine qaN X47 hx hby d4_16 ?_
    refine st81 _ ?_
    refine st93 _ ?_
    show SG p e below T93 (mkF m 23 #[lR r0] [(.ref b93_0), (.ref b1), (.ref b1)]) _
    refine st114.trans ?_
    exact retOut X114 hx (i := .areturn) hret rfl (Or.inr (Or.inr (Or.inr (Or.inr ⟨rfl, rfl, rfl⟩)))) (hb hby d4_26) hr
def Q0_4 (Z : State) (x0 x1 : Int32) (x2 x3 : Int32) (x4 x5 : Int32) (x6 x7 : Int32) (u8 : Value) (h0 : Heap) (n0 : Nat) (v : Option Value) (h : Heap) (L : List Loc) : Prop := v = some vI1 ∧ Fr n0 L
theorem rm0_4 (l : Launch) (Z : State) (a0 : Array Value) (hw : own_HW a0 Z) (ws : List Jvm.Cond) (x0 x1 : Int32) (x2 x3 : Int32) (x4 x5 : Int32) (x6 x7 : Int32) (u8 : Value) (h0 : Heap) (n0 : Nat) (O0 : Old Z n0 h0) (hc1 : (x0 &&& (3 : Int32)) = (2 : Int32)) (hq2 : ((x1 &&& (65535 : Int32)).toUInt32.toUInt16.toUInt32.toInt32) = x4) (hq3 : ((x2 &&& (65535 : Int32)).toUInt32.toUInt16.toUInt32.toInt32) = x5) (hq4 : ((x3 &&& (65535 : Int32)).toUInt32.toUInt16.toUInt32.toInt32) = x6) (f25 : Sta Z Z.heap "java/lang/String" "COMPACT_STRINGS" "Z" (.int x7)) (hc26 : ¬ (x7 = (0 : Int32))) (hc27 : (255 : Int32) < (nar .char x4)) (f28 : Sta Z Z.heap "java/lang/StringUTF16" "$assertionsDisabled" "Z" vI1) (f29 : Sta Z Z.heap "java/lang/StringUTF16" "HI_BYTE_SHIFT" "I" vI0) (f30 : Sta Z Z.heap "java/lang/StringUTF16" "LO_BYTE_SHIFT" "I" vI8) (hc34 : (255 : Int32) < (nar .char ((((((((nar .char x4) >>> ((0 : Int32) &&& 31)).toInt8.toInt32).toInt8.toInt32) &&& (255 : Int32)) <<< ((0 : Int32) &&& 31)) ||| ((((((nar .char x4) >>> ((8 : Int32) &&& 31)).toInt8.toInt32).toInt8.toInt32) &&& (255 : Int32)) <<< ((8 : Int32) &&& 31))).toUInt32.toUInt16.toUInt32.toInt32))) (f52 : Sta Z Z.heap cs7 "SIOOBE_FORMATTER" cs8 u8) (hc53 : u8.isRef = true) (hc76 : (nar .char (nar .char (nar .char ((((((((nar .char x4) >>> ((0 : Int32) &&& 31)).toInt8.toInt32).toInt8.toInt32) &&& (255 : Int32)) <<< ((0 : Int32) &&& 31)) ||| ((((((nar .char x4) >>> ((8 : Int32) &&& 31)).toInt8.toInt32).toInt8.toInt32) &&& (255 : Int32)) <<< ((8 : Int32) &&& 31))).toUInt32.toUInt16.toUInt32.toInt32)))) = x4) (hc78 : (nar .char (nar .char (nar .char ((((((((nar .char x5) >>> ((0 : Int32) &&& 31)).toInt8.toInt32).toInt8.toInt32) &&& (255 : Int32)) <<< ((0 : Int32) &&& 31)) ||| ((((((nar .char x5) >>> ((8 : Int32) &&& 31)).toInt8.toInt32).toInt8.toInt32) &&& (255 : Int32)) <<< ((8 : Int32) &&& 31))).toUInt32.toUInt16.toUInt32.toInt32)))) = x5) :
    own_MH l x code maxLocals ret ws room_1 Z h0 #[(.int x0), (.int x1), (.int x2), (.int x3)] (Q0_4 Z x0 x1 x2 x3 x4 x5 x6 x7 u8 h0 n0) := by
  have hEL : EW Z a0 consts_1 := own_EW hw
  refine own_openH hEL (plainFor_of_name pn_com_example_manojo_manojo_ParameterNamedPinLaw) (L0 := #[lI x0, lI x1, lI x2, lI x3, lU, lU, lU, lU, lU, lU, lU, lU]) (fun _ => by first | (simp [entryFrame, mkF, argsToLocals, Value.category, maxLocals]; done) | rfl) ?_
  intro p e s m below meth c s₁ hx hby hml hret hnn hZ hown X0 e0 R0
  have N0 := Fr.nil n0; have w := @ww Z a0 hw
  obtain ⟨T5, h5, k5, X5, e5, E5, A5, B5, st5⟩ := newPE X0 hx hZ (w 1 rfl) e0 (g := (mkF m 28 #[lI x0, lI x1, lI x2, lI x3, lV vI2, lI x4, lI x5, lI x6, lU, lU, lU, lU] [vI2])) rfl (hb hby at_28) rfl (by decide) (cap := 2) (by decide) (by decide) (by decide) (by decide) (ad := "[C") rfl
  obtain ⟨b5, g5⟩ : ∃ z, z = h0.size := ⟨_, rfl⟩
  have sf6 : Safe Z consts_1 s.vm h0 b5 := Safe.new (Nat.le_of_eq g5.symm)
  rw [← g5] at A5 B5 st5
  have R7 := CHr.trans R0 (CHr.ext E5 R0.1)
  have V5 : Arv Z h5 b5 k5 .char (2 : Int32) [vI0, vI0] vI0 := (Arv.new A5 (by decide)).pad (pad_rep [] vI0 2)
  obtain ⟨clq8, Arq8, qq8, Sq8, Nq8, Hq8, Gq8⟩ := id V5
  have zz9 : n0 ≤ h0.size := by rw [← O0.1]; exact O0.2.1
  have g10 := Nat.le_trans zz9 (Nat.le_of_eq g5.symm)
  obtain ⟨T11, h11, X11, e11, W11, st11⟩ := stC X5 hx hZ e5 Arq8 (j := (0 : Int32)) (inb_of Sq8 ⟨(by decide : ¬ ((0 : Int32) < (0 : Int32))), (by decide : (0 : Int32) < (2 : Int32))⟩) (g := (mkF m 42 #[lI x0, lI x1, lI x2, lI x3, lV vI2, lI x4, lI x5, lI x6, lR b5, lU, lU, lU] [(.int x4), vI0, (.ref b5)])) rfl rfl (hb hby at_42)
  have sf12 : Safe Z consts_1 s.vm h5 b5 := (Safe.exa hZ.alike B5 (by decide) (by decide))
  have R13 := CHr.trans R7 (CHr.wr W11 sf12 R7.1)
  have V11 : Arv Z h11 b5 k5 .char (2 : Int32) [(.int (nar .char x4)), vI0] vI0 := Arv.set Arq8 qq8 Sq8 Nq8 Hq8 Gq8 (fits_nar_char _) W11 0 rfl (Nat.le_of_ble_eq_true rfl)
  have N11 := Fr.snoc X11 N0 g10
  obtain ⟨clq14, Arq14, qq14, Sq14, Nq14, Hq14, Gq14⟩ := id V11
  obtain ⟨T15, h15, X15, e15, W15, st15⟩ := stC X11 hx hZ e11 Arq14 (j := (1 : Int32)) (inb_of Sq14 ⟨(by decide : ¬ ((1 : Int32) < (0 : Int32))), (by decide : (1 : Int32) < (2 : Int32))⟩) (g := (mkF m 54 #[lI x0, lI x1, lI x2, lI x3, lV vI2, lI x4, lI x5, lI x6, lR b5, lU, lU, lU] [(.int x5), vI1, (.ref b5)])) rfl rfl (hb hby at_54)
  have f16 := (B5.wr W11)
  have sf17 : Safe Z consts_1 s.vm h11 b5 := (Safe.exa hZ.alike f16 (by decide) (by decide))
  have R18 := CHr.trans R13 (CHr.wr W15 sf17 R13.1)
  have V15 : Arv Z h15 b5 k5 .char (2 : Int32) [(.int (nar .char x4)), (.int (nar .char x5))] vI0 := Arv.set Arq14 qq14 Sq14 Nq14 Hq14 Gq14 (fits_nar_char _) W15 1 rfl (Nat.le_of_ble_eq_true rfl)
  have N15 := Fr.snoc X15 N11 g10
  obtain ⟨T19, h19, X19, e19, E19, A19, D19, -, st19⟩ := newO X15 hx hZ hown (w 2 rfl) (w 3 rfl) (w 4 rfl) e15 (g := (mkF m 67 #[lI x0, lI x1, lI x2, lI x3, lV vI2, lI x4, lI x5, lI x6, lR b5, lU, lU, lU] [])) rfl (hb hby at_67) (by decide) (by decide)
  obtain ⟨b19, g19⟩ : ∃ z, z = h15.size := ⟨_, rfl⟩
  have sf20 : Safe Z consts_1 s.vm h15 b19 := Safe.new (Nat.le_of_eq g19.symm)
  rw [← g19] at A19 D19 st19
  have R21 := CHr.trans R18 (CHr.ext E19 R18.1)
  have f22 : Fld Z h19 b19 "java/lang/String" "value" "[B" .null := D19 (Or.inr (w 17 rfl)) (ty := (.array .byte)) (by decide)
  have f23 : Fld Z h19 b19 "java/lang/String" "coder" "B" vI0 := D19 (Or.inr (w 18 rfl)) (ty := .byte) (by decide)
  have f24 := (V15.ext E19)
  have zs31 := (Nat.le_of_eq W11.size.symm)
  have zs32 := Nat.le_trans zs31 (Nat.le_of_eq W15.size.symm)
  have zs33 := Nat.le_trans zs32 E19.1
  have o36 := Old.ext O0 E5
  have o37 := Old.wr o36 W11 g10
  have o38 := Old.wr o37 W15 g10
  have zz35 : n0 ≤ h15.size := by rw [← o38.1]; exact o38.2.1
  have g39 := Nat.le_trans zz35 (Nat.le_of_eq g19.symm)
  have o40 := Old.ext o38 E19
  obtain ⟨_, T41, Lc41, X41, hQ41, st41⟩ := own_fin (X19.specialBack hx (y := mN1) rfl hown (mvT hZ (w 5 rfl)) (mvT hZ (w 6 rfl)) (mvT hZ (w 7 rfl)) (by decide) (backOf (W := 1) (rm1_3 l Z a0 hw [] b19 b5 k5 (nar .char x4) (nar .char x5) x7 h19 n0 o40 f24 f25 hc26 hc27 f28 f29 f30 (Nat.lt_of_lt_of_le V5.lt zs33) hc34 A19 f23 g39 f22 A19.lt) hZ (w 7 rfl) (w 4 rfl) (by decide) (by decide)) (g := (mkF m 73 #[lI x0, lI x1, lI x2, lI x3, lV vI2, lI x4, lI x5, lI x6, lR b5, lU, lU, lU] [(.ref b5), (.ref b19), (.ref b19)])) rfl (by rw [hml]; rfl) (Steps.refl _) (a := b19) (argsL := [(.ref b5)]) (rest := [(.ref b19)]) (lenOf pd___C_V rfl) rfl (own_W rfl) (hb hby at_73) (fun _ _ => ⟨rfl, e19, (by decide : 2 + 2 ≤ _), (by decide : 6 + 6 ≤ _)⟩))
  obtain ⟨b41_0, k41_0, rfl, N41q, K41, f42, f43, f44, f45, f46⟩ := hQ41
  have N41 := Fr.app N15 N41q
  have sf47 := (Safe.ext E19 R18.1 sf20)
  have R48 := CHr.trans R21 (CHr.keep K41 (sfS sf47 sf0) R21.1)
  have sf49 : Safe Z consts_1 s.vm h19 b41_0 := Safe.new f44
  have f50 := (A19.keep K41)
  have zs51 := K41.1
  have o54 := Old.keep o40 K41 (allS g39 all0)
  have hS55 := (State.WarmedH.refl s).since 0
  obtain ⟨_, _, ⟨T56, L56, k56, n56⟩, -, X56, hs56, hg56, ⟨Lc56, hQ56, l56, y56, z56, cr56⟩, st56⟩ := callSS X41 hx (y := mN25) hown (mvT hZ (w 23 rfl)) (mvT hZ (w 24 rfl)) (mvT hZ (w 25 rfl)) (mvT hZ (w 26 rfl)) (by decide) (backOfSH (s := s) (vm0 := s.vm) (W := 0) (rm4_4 l Z a0 hw [] b19 x7 b41_0 k41_0 ((((nar .char x4) >>> ((0 : Int32) &&& 31)).toInt8.toInt32).toInt8.toInt32) ((((nar .char x4) >>> ((8 : Int32) &&& 31)).toInt8.toInt32).toInt8.toInt32) ((((nar .char x5) >>> ((0 : Int32) &&& 31)).toInt8.toInt32).toInt8.toInt32) ((((nar .char x5) >>> ((8 : Int32) &&& 31)).toInt8.toInt32).toInt8.toInt32) u8 T41.heap n0 o54 f25 hc26 f50 f43 (Nat.lt_of_lt_of_le A19.lt zs51) f46 f45.lt f42 f52 hc53 f28 f29 f30) hZ (w 26 rfl) (w 25 rfl) (by decide) (by decide) hEL R48.1) (g := (mkF m 80 #[lI x0, lI x1, lI x2, lI x3, lV vI2, lI x4, lI x5, lI x6, lR b5, lR b19, lU, lU] [(.ref b19)])) rfl (by rw [hml]; rfl) (argsL := [(.ref b19)]) (rest := []) (lenOf pd__Ljava_lang_String__Lcom_example_manojo_manojo_QueryTree_Parameter_ rfl) rfl (own_W rfl) (hb hby at_80) (fun _ _ => ⟨rfl, rfl, (by decide : 4 + 8 ≤ _), (by decide : 12 + 81 ≤ _)⟩)
  dsimp only [Pt.U, Pt.locs, Pt.cells, Pt.slots] at X56 l56 y56 z56 st56 hQ56 hs56 hg56 cr56
  subst l56 y56 z56
  obtain ⟨X56, hS56, hZ56, ho56⟩ := rebS (s := s) (vm0 := s.vm) hS55 ((Nat.zero_le _)) X56 hs56 hg56 hZ hown
  obtain ⟨b56_0, b56_1, b56_2, k56_0, rfl, N56q, K56, f57, f58, f59, f60, f61, f62, f63, f64, f65, f66, f67, f68, f69⟩ := hQ56
  have N56 := Fr.app N41 N56q
  have R70 := CHr.trans R48 cr56
  have o71 := Old.keep o54 K56 all0
  obtain ⟨_, T72, Lc72, X72, hQ72, st72⟩ := own_cV X56 hx hZ56 ho56 rfl (rm28_1 l Z a0 hw [] b56_0 b56_1 T56.heap n0 o71 f59) f58 (w 152 rfl) (w 153 rfl) (w 155 rfl) (w 154 rfl) (w 156 rfl) (w 25 rfl) (by decide) (W := 0) (by decide) (by decide) (by decide) (by decide) (g := (mkF m 87 #[lI x0, lI x1, lI x2, lI x3, lV vI2, lI x4, lI x5, lI x6, lR b5, lR b19, lR b56_0, lU] [(.ref b56_0)])) rfl (by rw [hml]; rfl) (argsL := []) (rest := []) (lenOf pd___Ljava_lang_String_ rfl) rfl (own_W rfl) (hb hby at_87)
  obtain ⟨rfl, N72q, E72⟩ := hQ72
  have N72 := Fr.app N56 N72q
  obtain ⟨_, T73, Lc73, X73, hQ73, st73⟩ := own_cV X72 hx hZ56 ho56 E72 (rm9_1 l Z a0 hw [] b56_1 b56_2 (6 : Int32) k56_0 ([vI58, vI0, (.int ((((nar .char x4) >>> ((0 : Int32) &&& 31)).toInt8.toInt32).toInt8.toInt32)), (.int ((((nar .char x4) >>> ((8 : Int32) &&& 31)).toInt8.toInt32).toInt8.toInt32)), (.int ((((nar .char x5) >>> ((0 : Int32) &&& 31)).toInt8.toInt32).toInt8.toInt32)), (.int ((((nar .char x5) >>> ((8 : Int32) &&& 31)).toInt8.toInt32).toInt8.toInt32))]) x7 (1 : Int32) T56.heap n0 o71 f63 f65 f61 f25 hc26 f62) f61 (w 157 rfl) (w 59 rfl) (w 61 rfl) (w 60 rfl) (w 62 rfl) (w 4 rfl) (by decide) (W := 0) (by decide) (by decide) (by decide) (by decide) (g := (mkF m 99 #[lI x0, lI x1, lI x2, lI x3, lV vI2, lI x4, lI x5, lI x6, lR b5, lR b19, lR b56_0, lR b56_1] [(.ref b56_1)])) rfl (by rw [hml]; rfl) (argsL := []) (rest := []) (lenOf pd___I rfl) rfl (own_W rfl) (hb hby at_99)
  obtain ⟨rfl, N73q, E73⟩ := hQ73
  have N73 := Fr.app N72 N73q
  obtain ⟨_, T74, Lc74, X74, hQ74, st74⟩ := own_cV X73 hx hZ56 ho56 E73 (rm29_2 l Z a0 hw [] b56_1 (0 : Int32) x7 (1 : Int32) b56_2 (6 : Int32) k56_0 ([vI58, vI0, (.int ((((nar .char x4) >>> ((0 : Int32) &&& 31)).toInt8.toInt32).toInt8.toInt32)), (.int ((((nar .char x4) >>> ((8 : Int32) &&& 31)).toInt8.toInt32).toInt8.toInt32)), (.int ((((nar .char x5) >>> ((0 : Int32) &&& 31)).toInt8.toInt32).toInt8.toInt32)), (.int ((((nar .char x5) >>> ((8 : Int32) &&& 31)).toInt8.toInt32).toInt8.toInt32))]) u8 (58 : Int32) (0 : Int32) T56.heap n0 o71 f61 f25 hc26 f62 (by decide) f63 f65 f52 hc53 (by decide) (by decide) f28 (own_gd (n := 0) rfl rfl) (by decide) (by decide) f29 (own_gd (n := 1) rfl rfl) (by decide) (by decide) f30) f61 (w 158 rfl) (w 159 rfl) (w 161 rfl) (w 160 rfl) (w 162 rfl) (w 4 rfl) (by decide) (W := 0) (by decide) (by decide) (by decide) (by decide) (g := (mkF m 114 #[lI x0, lI x1, lI x2, lI x3, lV vI2, lI x4, lI x5, lI x6, lR b5, lR b19, lR b56_0, lR b56_1] [vI0, (.ref b56_1)])) rfl (by rw [hml]; rfl) (argsL := [vI0]) (rest := []) (lenOf pd__I_C rfl) rfl (own_W rfl) (hb hby at_114)
  obtain ⟨rfl, N74q, E74⟩ := hQ74
  have N74 := Fr.app N73 N74q
  obtain ⟨_, T75, Lc75, X75, hQ75, st75⟩ := own_cV X74 hx hZ56 ho56 E74 (rm29_2 l Z a0 hw [] b56_1 (1 : Int32) x7 (1 : Int32) b56_2 (6 : Int32) k56_0 ([vI58, vI0, (.int ((((nar .char x4) >>> ((0 : Int32) &&& 31)).toInt8.toInt32).toInt8.toInt32)), (.int ((((nar .char x4) >>> ((8 : Int32) &&& 31)).toInt8.toInt32).toInt8.toInt32)), (.int ((((nar .char x5) >>> ((0 : Int32) &&& 31)).toInt8.toInt32).toInt8.toInt32)), (.int ((((nar .char x5) >>> ((8 : Int32) &&& 31)).toInt8.toInt32).toInt8.toInt32))]) u8 ((((nar .char x4) >>> ((0 : Int32) &&& 31)).toInt8.toInt32).toInt8.toInt32) ((((nar .char x4) >>> ((8 : Int32) &&& 31)).toInt8.toInt32).toInt8.toInt32) T56.heap n0 o71 f61 f25 hc26 f62 (by decide) f63 f65 f52 hc53 (by decide) (by decide) f28 (own_gd (n := 2) rfl rfl) (by decide) (by decide) f29 (own_gd (n := 3) rfl rfl) (by decide) (by decide) f30) f61 (w 158 rfl) (w 159 rfl) (w 161 rfl) (w 160 rfl) (w 162 rfl) (w 4 rfl) (by decide) (W := 0) (by decide) (by decide) (by decide) (by decide) (g := (mkF m 132 #[lI x0, lI x1, lI x2, lI x3, lV vI2, lI x4, lI x5, lI x6, lR b5, lR b19, lR b56_0, lR b56_1] [vI1, (.ref b56_1)])) rfl (by rw [hml]; rfl) (argsL := [vI1]) (rest := []) (lenOf pd__I_C rfl) rfl (own_W rfl) (hb hby at_132)
  obtain ⟨rfl, N75q, E75⟩ := hQ75
  have N75 := Fr.app N74 N75q
  obtain ⟨_, T77, Lc77, X77, hQ77, st77⟩ := own_cV X75 hx hZ56 ho56 E75 (rm29_2 l Z a0 hw [] b56_1 (2 : Int32) x7 (1 : Int32) b56_2 (6 : Int32) k56_0 ([vI58, vI0, (.int ((((nar .char x4) >>> ((0 : Int32) &&& 31)).toInt8.toInt32).toInt8.toInt32)), (.int ((((nar .char x4) >>> ((8 : Int32) &&& 31)).toInt8.toInt32).toInt8.toInt32)), (.int ((((nar .char x5) >>> ((0 : Int32) &&& 31)).toInt8.toInt32).toInt8.toInt32)), (.int ((((nar .char x5) >>> ((8 : Int32) &&& 31)).toInt8.toInt32).toInt8.toInt32))]) u8 ((((nar .char x5) >>> ((0 : Int32) &&& 31)).toInt8.toInt32).toInt8.toInt32) ((((nar .char x5) >>> ((8 : Int32) &&& 31)).toInt8.toInt32).toInt8.toInt32) T56.heap n0 o71 f61 f25 hc26 f62 (by decide) f63 f65 f52 hc53 (by decide) (by decide) f28 (own_gd (n := 4) rfl rfl) (by decide) (by decide) f29 (own_gd (n := 5) rfl rfl) (by decide) (by decide) f30) f61 (w 158 rfl) (w 159 rfl) (w 161 rfl) (w 160 rfl) (w 162 rfl) (w 4 rfl) (by decide) (W := 0) (by decide) (by decide) (by decide) (by decide) (g := (mkF m 151 #[lI x0, lI x1, lI x2, lI x3, lV vI2, lI x4, lI x5, lI x6, lR b5, lR b19, lR b56_0, lR b56_1] [vI2, (.ref b56_1)])) rfl (by rw [hml]; rfl) (argsL := [vI2]) (rest := []) (lenOf pd__I_C rfl) rfl (own_W rfl) (hb hby at_151)
  obtain ⟨rfl, N77q, E77⟩ := hQ77
  have N77 := Fr.app N75 N77q
  refine ⟨some vI1, _, _, _, _, _, _, _, nofun, X77, by decide, by decide, hS56, (by rw [E77]; exact (Nat.le_refl _)), hZ56, E77, R70, ?_, fun fs hr => ?_⟩
  · rw [E77]; exact ⟨rfl, N77⟩
  · show SG p e below s₁ (mkF m 0 #[lI x0, lI x1, lI x2, lI x3, lU, lU, lU, lU, lU, lU, lU, lU] []) _
    refine qiN X0 hx hby at_0 ?_
    refine qc X0 hx hby at_1 ?_
    refine XS.iand X0.here hx rfl (hb hby at_2) rfl ?_
    show SG p e below s₁ (mkF m 3 #[lI x0, lI x1, lI x2, lI x3, lU, lU, lU, lU, lU, lU, lU, lU] [(.int (x0 &&& (3 : Int32)))]) _
    rw [hc1]
    refine XS.istore X0.here hx rfl (hb hby at_3) rfl (l' := #[lI x0, lI x1, lI x2, lI x3, lV vI2, lU, lU, lU, lU, lU, lU, lU]) rfl ?_
    refine qiN X0 hx hby at_5 ?_
    refine X0.ldcInt hx hown (mvT hZ (w 0 rfl)) (g := (mkF m 6 #[lI x0, lI x1, lI x2, lI x3, lV vI2, lU, lU, lU, lU, lU, lU, lU] [(.int x1)])) rfl (hb hby at_6) _ ?_
    refine XS.iand X0.here hx rfl (hb hby at_8) rfl ?_
    refine XS.i2c X0.here hx rfl (hb hby at_9) rfl ?_
    show SG p e below s₁ (mkF m 10 #[lI x0, lI x1, lI x2, lI x3, lV vI2, lU, lU, lU, lU, lU, lU, lU] [(.int ((x1 &&& (65535 : Int32)).toUInt32.toUInt16.toUInt32.toInt32))]) _
    rw [hq2]
    refine XS.istore X0.here hx rfl (hb hby at_10) rfl (l' := #[lI x0, lI x1, lI x2, lI x3, lV vI2, lI x4, lU, lU, lU, lU, lU, lU]) rfl ?_
    refine qiN X0 hx hby at_12 ?_
    show SG p e below s₁ (mkF m 13 #[lI x0, lI x1, lI x2, lI x3, lV vI2, lI x4, lU, lU, lU, lU, lU, lU] [(.int x2)]) _
    refine X0.ldcInt hx hown (mvT hZ (w 0 rfl)) (g := (mkF m 13 #[lI x0, lI x1, lI x2, lI x3, lV vI2, lI x4, lU, lU, lU, lU, lU, lU] [(.int x2)])) rfl (hb hby at_13) _ ?_
    refine XS.iand X0.here hx rfl (hb hby at_15) rfl ?_
    refine XS.i2c X0.here hx rfl (hb hby at_16) rfl ?_
    show SG p e below s₁ (mkF m 17 #[lI x0, lI x1, lI x2, lI x3, lV vI2, lI x4, lU, lU, lU, lU, lU, lU] [(.int ((x2 &&& (65535 : Int32)).toUInt32.toUInt16.toUInt32.toInt32))]) _
    rw [hq3]
    refine XS.istore X0.here hx rfl (hb hby at_17) rfl (l' := #[lI x0, lI x1, lI x2, lI x3, lV vI2, lI x4, lI x5, lU, lU, lU, lU, lU]) rfl ?_
    refine qiN X0 hx hby at_19 ?_
    refine X0.ldcInt hx hown (mvT hZ (w 0 rfl)) (g := (mkF m 20 #[lI x0, lI x1, lI x2, lI x3, lV vI2, lI x4, lI x5, lU, lU, lU, lU, lU] [(.int x3)])) rfl (hb hby at_20) _ ?_
    refine XS.iand X0.here hx rfl (hb hby at_22) rfl ?_
    refine XS.i2c X0.here hx rfl (hb hby at_23) rfl ?_
    show SG p e below s₁ (mkF m 24 #[lI x0, lI x1, lI x2, lI x3, lV vI2, lI x4, lI x5, lU, lU, lU, lU, lU] [(.int ((x3 &&& (65535 : Int32)).toUInt32.toUInt16.toUInt32.toInt32))]) _
    rw [hq4]
    refine XS.istore X0.here hx rfl (hb hby at_24) rfl (l' := #[lI x0, lI x1, lI x2, lI x3, lV vI2, lI x4, lI x5, lI x6, lU, lU, lU, lU]) rfl ?_
    refine qi X0 hx hby at_26 ?_
    show SG p e below s₁ (mkF m 28 #[lI x0, lI x1, lI x2, lI x3, lV vI2, lI x4, lI x5, lI x6, lU, lU, lU, lU] [vI2]) _
    refine st5 _ ?_
    refine XS.astore X5.here hx rfl (hb hby at_30) rfl rfl (l' := #[lI x0, lI x1, lI x2, lI x3, lV vI2, lI x4, lI x5, lI x6, lR b5, lU, lU, lU]) rfl ?_
    refine qi X5 hx hby at_32 ?_
    refine XS.ifNo X5.here hx rfl (hb hby at_34) rfl ((if0 _ _).trans (tlt (by decide : (0 : Int32) < (2 : Int32))).2.2.2) ?_
    refine qa X5 hx hby at_37 ?_
    refine qc X5 hx hby at_39 ?_
    refine qi X5 hx hby at_40 ?_
    refine st11 _ ?_
    refine qi X11 hx hby at_43 ?_
    refine qc X11 hx hby at_45 ?_
    show SG p e below T11 (mkF m 46 #[lI x0, lI x1, lI x2, lI x3, lV vI2, lI x4, lI x5, lI x6, lR b5, lU, lU, lU] [vI1, vI2]) _
    refine XS.icmpNo X11.here hx rfl (hb hby at_46) rfl (tlt (by decide : (1 : Int32) < (2 : Int32))).2.2.2 ?_
    refine qa X11 hx hby at_49 ?_
    refine qc X11 hx hby at_51 ?_
    refine qi X11 hx hby at_52 ?_
    refine st15 _ ?_
    refine qi X15 hx hby at_55 ?_
    refine qc X15 hx hby at_57 ?_
    refine XS.icmpYes X15.here hx rfl (pc0 := 58) (pc' := 67) rfl (hb hby at_58) rfl (flt (by decide : ¬ ((2 : Int32) < (2 : Int32)))).2.2.2 (by decide) (by decide) ?_
    refine st19 _ ?_
    refine qd X19 hx hby at_70 ?_
    show SG p e below T19 (mkF m 71 #[lI x0, lI x1, lI x2, lI x3, lV vI2, lI x4, lI x5, lI x6, lR b5, lU, lU, lU] [(.ref b19), (.ref b19)]) _
    refine qa X19 hx hby at_71 ?_
    refine st41.trans ?_
    refine XS.astore X41.here hx rfl (hb hby at_76) rfl rfl (l' := #[lI x0, lI x1, lI x2, lI x3, lV vI2, lI x4, lI x5, lI x6, lR b5, lR b19, lU, lU]) rfl ?_
    refine qa X41 hx hby at_78 ?_
    refine st56.trans ?_
    refine XS.astore X56.here hx rfl (hb hby at_83) rfl rfl (l' := #[lI x0, lI x1, lI x2, lI x3, lV vI2, lI x4, lI x5, lI x6, lR b5, lR b19, lR b56_0, lU]) rfl ?_
    refine qa X56 hx hby at_85 ?_
    refine st72 _ ?_
    refine XS.astore X72.here hx rfl (hb hby at_90) rfl rfl (l' := #[lI x0, lI x1, lI x2, lI x3, lV vI2, lI x4, lI x5, lI x6, lR b5, lR b19, lR b56_0, lR b56_1]) rfl ?_
    refine qa X72 hx hby at_92 ?_
    show SG p e below T72 (mkF m 94 #[lI x0, lI x1, lI x2, lI x3, lV vI2, lI x4, lI x5, lI x6, lR b5, lR b19, lR b56_0, lR b56_1] [(.ref b56_1)]) _
    refine XS.ifnullNo X72.here hx rfl (hb hby at_94) rfl ?_
    refine qa X72 hx hby at_97 ?_
    refine st73 _ ?_
    refine qi X73 hx hby at_102 ?_
    refine qc X73 hx hby at_104 ?_
    refine XS.iadd X73.here hx rfl (hb hby at_105) rfl ?_
    refine XS.icmpYes X73.here hx rfl (pc0 := 106) (pc' := 111) rfl (hb hby at_106) rfl (teq (rfl : (3 : Int32) = (3 : Int32))).1 (by decide) (by decide) ?_
    refine qa X73 hx hby at_111 ?_
    refine qc X73 hx hby at_113 ?_
    refine st74 _ ?_
    show SG p e below T74 (mkF m 117 #[lI x0, lI x1, lI x2, lI x3, lV vI2, lI x4, lI x5, lI x6, lR b5, lR b19, lR b56_0, lR b56_1] [vI58]) _
    refine qb X74 hx hby at_117 ?_
    refine XS.icmpYes X74.here hx rfl (pc0 := 119) (pc' := 124) rfl (hb hby at_119) rfl (teq (rfl : (58 : Int32) = (58 : Int32))).1 (by decide) (by decide) ?_
    refine qi X74 hx hby at_124 ?_
    refine XS.ifNo X74.here hx rfl (hb hby at_126) rfl ((if0 _ _).trans (tlt (by decide : (0 : Int32) < (2 : Int32))).2.2.2) ?_
    refine qa X74 hx hby at_129 ?_
    refine qc X74 hx hby at_131 ?_
    refine st75 _ ?_
    refine qi X75 hx hby at_135 ?_
    refine XS.icmpYes X75.here hx rfl (pc0 := 137) (pc' := 142) rfl (hb hby at_137) rfl (teq hc76).1 (by decide) (by decide) ?_
    refine qi X75 hx hby at_142 ?_
    show SG p e below T75 (mkF m 144 #[lI x0, lI x1, lI x2, lI x3, lV vI2, lI x4, lI x5, lI x6, lR b5, lR b19, lR b56_0, lR b56_1] [vI2]) _
    refine qc X75 hx hby at_144 ?_
    refine XS.icmpNo X75.here hx rfl (hb hby at_145) rfl (tlt (by decide : (1 : Int32) < (2 : Int32))).2.2.2 ?_
    refine qa X75 hx hby at_148 ?_
    refine qc X75 hx hby at_150 ?_
    refine st77 _ ?_
    refine qi X77 hx hby at_154 ?_
    refine XS.icmpYes X77.here hx rfl (pc0 := 156) (pc' := 161) rfl (hb hby at_156) rfl (teq hc78).1 (by decide) (by decide) ?_
    refine qi X77 hx hby at_161 ?_
    refine qc X77 hx hby at_163 ?_
    refine XS.icmpYes X77.here hx rfl (pc0 := 164) (pc' := 180) rfl (hb hby at_164) rfl (flt (by decide : ¬ ((2 : Int32) < (2 : Int32)))).2.2.2 (by decide) (by decide) ?_
    show SG p e below T77 (mkF m 180 #[lI x0, lI x1, lI x2, lI x3, lV vI2, lI x4, lI x5, lI x6, lR b5, lR b19, lR b56_0, lR b56_1] []) _
    refine qc X77 hx hby at_180 ?_
    exact retN X77 hx (t := .boolean) hret (by simp) (hb hby at_181) hr
theorem d35_26 : DK cB35 26 (.aload_n 2) 1 := by decide +kernel
theorem d35_27 : DK cB35 27 (.iload_n 3) 1 := by decide +kernel
theorem d35_28 : DK cB35 28 (.iload 6) 2 := by decide +kernel
theorem d35_30 : DK cB35 30 (.i2b) 1 := by decide +kernel
theorem d35_31 : DK cB35 31 (.bastore) 1 := by decide +kernel
theorem d35_32 : DK cB35 32 (.iinc 1 1) 3 := by decide +kernel
theorem d35_35 : DK cB35 35 (.iinc 3 1) 3 := by decide +kernel
theorem d35_38 : DK cB35 38 (.iinc 5 1) 3 := by decide +kernel
theorem d35_41 : DK cB35 41 (.goto (-38)) 3 := by decide +kernel
def Q35_3 (Z : State) (r0 r1 : Addr) (c2 : ClassId) (x3 x4 : Int32) (c5 : ClassId) (h0 : Heap) (n0 : Nat) (v : Option Value) (h : Heap) (L : List Loc) : Prop := v = some vI1 ∧ Fr n0 L ∧ Keep h0 h [r1] ∧ Arv Z h r1 c5 .byte (2 : Int32) [(.int ((x3.toInt8.toInt32).toInt8.toInt32)), vI0] vI0
theorem rm35_3 (l : Launch) (Z : State) (a0 : Array Value) (hw : own_HW a0 Z) (ws : List Jvm.Cond) (r0 r1 : Addr) (c2 : ClassId) (x3 x4 : Int32) (c5 : ClassId) (h0 : Heap) (n0 : Nat) (O0 : Old Z n0 h0) (f1 : Arv Z h0 r0 c2 .char (2 : Int32) [(.int x3), (.int x4)] vI0) (hc3 : ¬ ((255 : Int32) < x3)) (f4 : Arv Z h0 r1 c5 .byte (2 : Int32) [vI0, vI0] vI0) (g6 : n0 ≤ r1) (n8 : r0 ≠ r1) (hc11 : (255 : Int32) < x4) :
    own_MF l mN32 jdk_52_method_21_code 7 (some .int) ws rR0_0_0_0 Z h0 #[(.ref r0), vI0, (.ref r1), vI0, vI2] (Q35_3 Z r0 r1 c2 x3 x4 c5 h0 n0) := by
  refine own_open (plainFor_of_name pn_java_lang_StringUTF16) (L0 := #[lR r0, lV vI0, lR r1, lV vI0, lV vI2, lU, lU]) (fun _ => by first | (simp [entryFrame, mkF, argsToLocals, Value.category]; done) | rfl) ?_
  intro p e s m below meth c s₁ hx hby hml hret hnn hZ hown X0 e0
  have N0 := Fr.nil n0
  obtain ⟨clq2, Arq2, qq2, Sq2, Nq2, Hq2, Gq2⟩ := id f1
  obtain ⟨clq5, Arq5, qq5, Sq5, Nq5, Hq5, Gq5⟩ := id f4
  obtain ⟨T7, h7, X7, e7, W7, st7⟩ := stB X0 hx hZ e0 Arq5 (j := (0 : Int32)) (inb_of Sq5 ⟨(by decide : ¬ ((0 : Int32) < (0 : Int32))), (by decide : (0 : Int32) < (2 : Int32))⟩) (g := (mkF m 31 #[lR r0, lV vI0, lR r1, lV vI0, lV vI2, lV vI0, lI x3] [(.int (x3.toInt8.toInt32)), vI0, (.ref r1)])) rfl rfl (hb hby d35_31)
  have V7 : Arv Z h7 r1 c5 .byte (2 : Int32) [(.int ((x3.toInt8.toInt32).toInt8.toInt32)), vI0] vI0 := Arv.set Arq5 qq5 Sq5 Nq5 Hq5 Gq5 (fits_nar_byte _) W7 0 rfl (Nat.le_of_ble_eq_true rfl)
  have N7 := Fr.snoc X7 N0 g6
  have f9 := (f1.other W7 n8)
  obtain ⟨clq10, Arq10, qq10, Sq10, Nq10, Hq10, Gq10⟩ := id f9
  have kp12 : Keep h0 h7 [r1] := (Keep.refl h0 [r1]).wr W7 (Or.inl (List.mem_of_getElem? (i := 0) rfl))
  refine ⟨some vI1, _, _, _, _, nofun, X7, by decide, by decide, ?_, fun fs hr => ?_⟩
  · rw [e7]; exact ⟨rfl, N7, kp12, V7⟩
  · show SG p e below s₁ (mkF m 0 #[lR r0, lV vI0, lR r1, lV vI0, lV vI2, lU, lU] []) _
    refine qc X0 hx hby d35_0 ?_
    refine XS.istore X0.here hx rfl (hb hby d35_1) rfl (l' := #[lR r0, lV vI0, lR r1, lV vI0, lV vI2, lV vI0, lU]) rfl ?_
    refine qi X0 hx hby d35_3 ?_
    refine qi X0 hx hby d35_5 ?_
    refine XS.icmpNo X0.here hx rfl (hb hby d35_7) rfl (tlt (by decide : (0 : Int32) < (2 : Int32))).2.1 ?_
    refine qaN X0 hx hby d35_10 ?_
    refine qiN X0 hx hby d35_11 ?_
    refine X0.caload hx (j := (0 : Int32)) (v := (.int x3)) (by rw [e0]; exact Arq2.1) (State.isArrayOf_alike hZ.alike Arq2.2.1) Arq2.2.2 (inb_of Sq2 ⟨(by decide : ¬ ((0 : Int32) < (0 : Int32))), (by decide : (0 : Int32) < (2 : Int32))⟩) (Has.at Hq2 (inb_of Sq2 ⟨(by decide : ¬ ((0 : Int32) < (0 : Int32))), (by decide : (0 : Int32) < (2 : Int32))⟩) rfl) (g := (mkF m 12 #[lR r0, lV vI0, lR r1, lV vI0, lV vI2, lV vI0, lU] [vI0, (.ref r0)])) rfl rfl (hb hby d35_12) _ ?_
    refine XS.istore X0.here hx rfl (hb hby d35_13) rfl (l' := #[lR r0, lV vI0, lR r1, lV vI0, lV vI2, lV vI0, lI x3]) rfl ?_
    refine qi X0 hx hby d35_15 ?_
    show SG p e below s₁ (mkF m 17 #[lR r0, lV vI0, lR r1, lV vI0, lV vI2, lV vI0, lI x3] [(.int x3)]) _
    refine XS.sipush X0.here hx rfl (hb hby d35_17) ?_
    refine XS.icmpYes X0.here hx rfl (pc0 := 20) (pc' := 26) rfl (hb hby d35_20) rfl (flt hc3).2.2.2 (by decide) (by decide) ?_
    refine qaN X0 hx hby d35_26 ?_
    refine qiN X0 hx hby d35_27 ?_
    refine qi X0 hx hby d35_28 ?_
    refine XS.i2b X0.here hx rfl (hb hby d35_30) rfl ?_
    refine st7 _ ?_
    refine XS.iinc X7.here hx rfl (hb hby d35_32) rfl (l' := #[lR r0, lV vI1, lR r1, lV vI0, lV vI2, lV vI0, lI x3]) rfl ?_
    refine XS.iinc X7.here hx rfl (hb hby d35_35) rfl (l' := #[lR r0, lV vI1, lR r1, lV vI1, lV vI2, lV vI0, lI x3]) rfl ?_
    refine XS.iinc X7.here hx rfl (hb hby d35_38) rfl (l' := #[lR r0, lV vI1, lR r1, lV vI1, lV vI2, lV vI1, lI x3]) rfl ?_
    show SG p e below T7 (mkF m 41 #[lR r0, lV vI1, lR r1, lV vI1, lV vI2, lV vI1, lI x3] []) _
    refine XS.goto X7.here hx rfl (pc0 := 41) (pc' := 3) rfl (hb hby d35_41) (by decide) (by decide) ?_
    refine qi X7 hx hby d35_3 ?_
    refine qi X7 hx hby d35_5 ?_
    refine XS.icmpNo X7.here hx rfl (hb hby d35_7) rfl (tlt (by decide : (1 : Int32) < (2 : Int32))).2.1 ?_
    refine qaN X7 hx hby d35_10 ?_
    refine qiN X7 hx hby d35_11 ?_
    refine X7.caload hx (j := (1 : Int32)) (v := (.int x4)) (by rw [e7]; exact Arq10.1) (State.isArrayOf_alike hZ.alike Arq10.2.1) Arq10.2.2 (inb_of Sq10 ⟨(by decide : ¬ ((1 : Int32) < (0 : Int32))), (by decide : (1 : Int32) < (2 : Int32))⟩) (Has.at Hq10 (inb_of Sq10 ⟨(by decide : ¬ ((1 : Int32) < (0 : Int32))), (by decide : (1 : Int32) < (2 : Int32))⟩) rfl) (g := (mkF m 12 #[lR r0, lV vI1, lR r1, lV vI1, lV vI2, lV vI1, lI x3] [vI1, (.ref r0)])) rfl rfl (hb hby d35_12) _ ?_
    refine XS.istore X7.here hx rfl (hb hby d35_13) rfl (l' := #[lR r0, lV vI1, lR r1, lV vI1, lV vI2, lV vI1, lI x4]) rfl ?_
    refine qi X7 hx hby d35_15 ?_
    refine XS.sipush X7.here hx rfl (hb hby d35_17) ?_
    show SG p e below T7 (mkF m 20 #[lR r0, lV vI1, lR r1, lV vI1, lV vI2, lV vI1, lI x4] [vI255, (.int x4)]) _
    refine XS.icmpNo X7.here hx rfl (hb hby d35_20) rfl (tlt hc11).2.2.2 ?_
    refine qi X7 hx hby d35_23 ?_
    exact retOut X7 hx (i := .ireturn) hret rfl (Or.inl ⟨rfl, Or.inl rfl, _, rfl⟩) (hb hby d35_25) hr
def Q34_3 (Z : State) (r0 : Addr) (c1 : ClassId) (x2 x3 : Int32) (h0 : Heap) (n0 : Nat) (v : Option Value) (h : Heap) (L : List Loc) : Prop := ∃ (b20_0 : Addr) (k20_0 : ClassId), v = some (.ref b20_0) ∧ Fr n0 L ∧ Keep h0 h [] ∧ h0.size ≤ b20_0 ∧ Exa Z h b20_0 "[B" ∧ Arv Z h b20_0 k20_0 .byte (4 : Int32) [(.int (((x2 >>> ((0 : Int32) &&& 31)).toInt8.toInt32).toInt8.toInt32)), (.int (((x2 >>> ((8 : Int32) &&& 31)).toInt8.toInt32).toInt8.toInt32)), (.int (((x3 >>> ((0 : Int32) &&& 31)).toInt8.toInt32).toInt8.toInt32)), (.int (((x3 >>> ((8 : Int32) &&& 31)).toInt8.toInt32).toInt8.toInt32))] vI0
theorem rm34_3 (l : Launch) (Z : State) (a0 : Array Value) (hw : own_HW a0 Z) (ws : List Jvm.Cond) (r0 : Addr) (c1 : ClassId) (x2 x3 : Int32) (h0 : Heap) (n0 : Nat) (O0 : Old Z n0 h0) (f2 : Arv Z h0 r0 c1 .char (2 : Int32) [(.int x2), (.int x3)] vI0) (hc4 : ¬ ((255 : Int32) < x2)) (l7 : r0 < h0.size) (hc9 : (255 : Int32) < x3) (f14 : Sta Z Z.heap "java/lang/StringUTF16" "$assertionsDisabled" "Z" vI1) (f15 : Sta Z Z.heap "java/lang/StringUTF16" "HI_BYTE_SHIFT" "I" vI0) (f16 : Sta Z Z.heap "java/lang/StringUTF16" "LO_BYTE_SHIFT" "I" vI8) (hc26 : (255 : Int32) < (nar .char (((((((x3 >>> ((0 : Int32) &&& 31)).toInt8.toInt32).toInt8.toInt32) &&& (255 : Int32)) <<< ((0 : Int32) &&& 31)) ||| (((((x3 >>> ((8 : Int32) &&& 31)).toInt8.toInt32).toInt8.toInt32) &&& (255 : Int32)) <<< ((8 : Int32) &&& 31))).toUInt32.toUInt16.toUInt32.toInt32))) :
    own_MF l mN38 jdk_52_method_16_code 6 (some (.array .byte)) ws rR3_2_6_40 Z h0 #[(.ref r0), vI0, vI2] (Q34_3 Z r0 c1 x2 x3 h0 n0) := by
  refine own_open (plainFor_of_name pn_java_lang_StringUTF16) (L0 := #[lR r0, lV vI0, lV vI2, lU, lU, lU]) (fun _ => by first | (simp [entryFrame, mkF, argsToLocals, Value.category]; done) | rfl) ?_
  intro p e s m below meth c s₁ hx hby hml hret hnn hZ hown X0 e0
  have N0 := Fr.nil n0; have w := @ww Z a0 hw
  obtain ⟨T1, h1, k1, X1, e1, E1, A1, B1, st1⟩ := newPE X0 hx hZ (w 16 rfl) e0 (g := (mkF m 1 #[lR r0, lV vI0, lV vI2, lU, lU, lU] [vI2])) rfl (hb hby d34_1) rfl (by decide) (cap := 2) (by decide) (by decide) (by decide) (by decide) (ad := "[B") rfl
  obtain ⟨b1, g1⟩ : ∃ z, z = h0.size := ⟨_, rfl⟩
  rw [← g1] at A1 B1 st1
  have V1 : Arv Z h1 b1 k1 .byte (2 : Int32) [vI0, vI0] vI0 := (Arv.new A1 (by decide)).pad (pad_rep [] vI0 2)
  have f3 := (f2.ext E1)
  have zz5 : n0 ≤ h0.size := by rw [← O0.1]; exact O0.2.1
  have g6 := Nat.le_trans zz5 (Nat.le_of_eq g1.symm)
  have n8 := Nat.ne_of_lt (Nat.lt_of_lt_of_le l7 (Nat.le_of_eq g1.symm))
  have o10 := Old.ext O0 E1
  obtain ⟨_, T11, Lc11, X11, hQ11, st11⟩ := own_cS X1 hx hZ hown e1 (rm35_3 l Z a0 hw [] r0 b1 c1 x2 x3 k1 h1 n0 o10 f3 hc4 V1 g6 n8 hc9) (w 184 rfl) (w 185 rfl) (w 182 rfl) (w 186 rfl) (by decide) (W := 0) (by decide) (by decide) (by decide) (by decide) (g := (mkF m 9 #[lR r0, lV vI0, lV vI2, lR b1, lU, lU] [vI2, vI0, (.ref b1), vI0, (.ref r0)])) rfl (by rw [hml]; rfl) (argsL := [(.ref r0), vI0, (.ref b1), vI0, vI2]) (rest := []) (lenOf pd___CI_BII_I rfl) rfl (own_W rfl) (hb hby d34_9)
  obtain ⟨rfl, N11q, K11, f12⟩ := hQ11
  have N11 := Fr.app N0 N11q
  have f13 := (f3.keep K11 (ninS n8 nin0))
  have zs17 := E1.1
  have zs18 := Nat.le_trans zs17 K11.1
  have o19 := Old.keep o10 K11 (allS g6 all0)
  obtain ⟨_, T20, Lc20, X20, hQ20, st20⟩ := own_cS X11 hx hZ hown rfl (rm37_2 l Z a0 hw [] r0 c1 x2 x3 T11.heap n0 o19 f13 f14 f15 f16 (Nat.lt_of_lt_of_le l7 zs18)) (w 190 rfl) (w 191 rfl) (w 182 rfl) (w 192 rfl) (by decide) (W := 0) (by decide) (by decide) (by decide) (by decide) (g := (mkF m 23 #[lR r0, lV vI0, lV vI2, lR b1, lV vI1, lU] [vI2, vI0, (.ref r0)])) rfl (by rw [hml]; rfl) (argsL := [(.ref r0), vI0, vI2]) (rest := []) (lenOf pd___CII__B rfl) rfl (own_W rfl) (hb hby d34_23)
  obtain ⟨b20_0, k20_0, rfl, N20q, K20, f21, f22, f23⟩ := hQ20
  have N20 := Fr.app N11 N20q
  have o24 := Old.keep o19 K20 all0
  obtain ⟨_, T25, Lc25, X25, hQ25, st25⟩ := own_cS X20 hx hZ hown rfl (rm41_1 l Z a0 hw [] b20_0 (1 : Int32) (4 : Int32) k20_0 ([(.int (((x2 >>> ((0 : Int32) &&& 31)).toInt8.toInt32).toInt8.toInt32)), (.int (((x2 >>> ((8 : Int32) &&& 31)).toInt8.toInt32).toInt8.toInt32)), (.int (((x3 >>> ((0 : Int32) &&& 31)).toInt8.toInt32).toInt8.toInt32)), (.int (((x3 >>> ((8 : Int32) &&& 31)).toInt8.toInt32).toInt8.toInt32))]) (((x3 >>> ((0 : Int32) &&& 31)).toInt8.toInt32).toInt8.toInt32) (((x3 >>> ((8 : Int32) &&& 31)).toInt8.toInt32).toInt8.toInt32) T20.heap n0 o24 f14 f23 (own_gd (n := 2) rfl rfl) (by decide) (by decide) f15 (own_gd (n := 3) rfl rfl) (by decide) (by decide) f16) (w 206 rfl) (w 207 rfl) (w 182 rfl) (w 208 rfl) (by decide) (W := 0) (by decide) (by decide) (by decide) (by decide) (g := (mkF m 32 #[lR r0, lV vI0, lV vI2, lR b1, lV vI1, lR b20_0] [vI1, (.ref b20_0)])) rfl (by rw [hml]; rfl) (argsL := [(.ref b20_0), vI1]) (rest := []) (lenOf pd___BI_C rfl) rfl (own_W rfl) (hb hby d34_32)
  obtain ⟨rfl, N25q, E25⟩ := hQ25
  have N25 := Fr.app N20 N25q
  have kp27 : Keep h0 h1 [] := (Keep.refl h0 []).ext E1
  have kp28 : Keep h0 T11.heap [] := kp27.trans K11 (allS (Or.inr (Nat.le_of_eq g1.symm)) all0)
  have kp29 : Keep h0 T20.heap [] := kp28.trans K20 all0
  refine ⟨some (.ref b20_0), _, _, _, _, nofun, X25, by decide, by decide, ?_, fun fs hr => ?_⟩
  · rw [E25]; exact ⟨b20_0, k20_0, rfl, N25, kp29, (Nat.le_trans zs18 f21), f22, f23⟩
  · show SG p e below s₁ (mkF m 0 #[lR r0, lV vI0, lV vI2, lU, lU, lU] []) _
    refine qiN X0 hx hby d34_0 ?_
    refine st1 _ ?_
    refine XS.astoreN X1.here hx rfl (hb hby d34_3) rfl rfl (l' := #[lR r0, lV vI0, lV vI2, lR b1, lU, lU]) rfl ?_
    refine qaN X1 hx hby d34_4 ?_
    refine qiN X1 hx hby d34_5 ?_
    refine qaN X1 hx hby d34_6 ?_
    refine qc X1 hx hby d34_7 ?_
    refine qiN X1 hx hby d34_8 ?_
    refine st11 _ ?_
    refine XS.istore X11.here hx rfl (hb hby d34_12) rfl (l' := #[lR r0, lV vI0, lV vI2, lR b1, lV vI1, lU]) rfl ?_
    show SG p e below T11 (mkF m 14 #[lR r0, lV vI0, lV vI2, lR b1, lV vI1, lU] []) _
    refine qi X11 hx hby d34_14 ?_
    refine qiN X11 hx hby d34_16 ?_
    refine XS.icmpNo X11.here hx rfl (hb hby d34_17) rfl (feq (by decide : ¬ ((1 : Int32) = (2 : Int32)))).1 ?_
    refine qaN X11 hx hby d34_20 ?_
    refine qiN X11 hx hby d34_21 ?_
    refine qiN X11 hx hby d34_22 ?_
    refine st20 _ ?_
    refine XS.astore X20.here hx rfl (hb hby d34_26) rfl rfl (l' := #[lR r0, lV vI0, lV vI2, lR b1, lV vI1, lR b20_0]) rfl ?_
    refine qa X20 hx hby d34_28 ?_
    refine qi X20 hx hby d34_30 ?_
    show SG p e below T20 (mkF m 32 #[lR r0, lV vI0, lV vI2, lR b1, lV vI1, lR b20_0] [vI1, (.ref b20_0)]) _
    refine st25 _ ?_
    refine XS.sipush X25.here hx rfl (hb hby d34_35) ?_
    refine XS.icmpYes X25.here hx rfl (pc0 := 38) (pc' := 54) rfl (hb hby d34_38) rfl (tlt hc26).2.2.1 (by decide) (by decide) ?_
    refine qa X25 hx hby d34_54 ?_
    exact retOut X25 hx (i := .areturn) hret rfl (Or.inr (Or.inr (Or.inr (Or.inr ⟨rfl, rfl, rfl⟩)))) (hb hby d34_56) hr
def Q2_4 (Z : State) (r0 r1 : Addr) (x2 : Int32) (c3 : ClassId) (x4 x5 : Int32) (h0 : Heap) (n0 : Nat) (v : Option Value) (h : Heap) (L : List Loc) : Prop := ∃ (b14_0 : Addr) (k14_0 : ClassId), v = none ∧ Fr n0 L ∧ Keep h0 h [r0] ∧ Fld Z h r0 "java/lang/String" "coder" "B" vI1 ∧ Fld Z h r0 "java/lang/String" "value" "[B" (.ref b14_0) ∧ h0.size ≤ b14_0 ∧ Exa Z h b14_0 "[B" ∧ Arv Z h b14_0 k14_0 .byte (4 : Int32) [(.int (((x4 >>> ((0 : Int32) &&& 31)).toInt8.toInt32).toInt8.toInt32)), (.int (((x4 >>> ((8 : Int32) &&& 31)).toInt8.toInt32).toInt8.toInt32)), (.int (((x5 >>> ((0 : Int32) &&& 31)).toInt8.toInt32).toInt8.toInt32)), (.int (((x5 >>> ((8 : Int32) &&& 31)).toInt8.toInt32).toInt8.toInt32))] vI0
theorem rm2_4 (l : Launch) (Z : State) (a0 : Array Value) (hw : own_HW a0 Z) (ws : List Jvm.Cond) (r0 r1 : Addr) (x2 : Int32) (c3 : ClassId) (x4 x5 : Int32) (h0 : Heap) (n0 : Nat) (O0 : Old Z n0 h0) (f2 : Sta Z Z.heap "java/lang/String" "COMPACT_STRINGS" "Z" (.int x2)) (hc5 : ¬ (x2 = (0 : Int32))) (f6 : Arv Z h0 r1 c3 .char (2 : Int32) [(.int x4), (.int x5)] vI0) (hc7 : ¬ ((255 : Int32) < x4)) (l8 : r1 < h0.size) (hc9 : (255 : Int32) < x5) (f10 : Sta Z Z.heap "java/lang/StringUTF16" "$assertionsDisabled" "Z" vI1) (f11 : Sta Z Z.heap "java/lang/StringUTF16" "HI_BYTE_SHIFT" "I" vI0) (f12 : Sta Z Z.heap "java/lang/StringUTF16" "LO_BYTE_SHIFT" "I" vI8) (hc13 : (255 : Int32) < (nar .char (((((((x5 >>> ((0 : Int32) &&& 31)).toInt8.toInt32).toInt8.toInt32) &&& (255 : Int32)) <<< ((0 : Int32) &&& 31)) ||| (((((x5 >>> ((8 : Int32) &&& 31)).toInt8.toInt32).toInt8.toInt32) &&& (255 : Int32)) <<< ((8 : Int32) &&& 31))).toUInt32.toUInt16.toUInt32.toInt32))) (f20 : Exa Z h0 r0 "java/lang/String") (f22 : Fld Z h0 r0 "java/lang/String" "coder" "B" vI0) (g24 : n0 ≤ r0) (f27 : Fld Z h0 r0 "java/lang/String" "value" "[B" .null) (l32 : r0 < h0.size) :
    own_MF l mN0 jdk_42_method_149_code 6 none ws rR4_2_6_57 Z h0 #[(.ref r0), (.ref r1), vI0, vI2, .null] (Q2_4 Z r0 r1 x2 c3 x4 x5 h0 n0) := by
  refine own_open (plainFor_of_name pn_java_lang_String) (L0 := #[lR r0, lR r1, lV vI0, lV vI2, .val .null, lU]) (fun _ => by first | (simp [entryFrame, mkF, argsToLocals, Value.category]; done) | rfl) ?_
  intro p e s m below meth c s₁ hx hby hml hret hnn hZ hown X0 e0
  have N0 := Fr.nil n0; have w := @ww Z a0 hw
  have hnm := (name_of_methodNamed hnn.1 hnn.2).1
  obtain ⟨T1, X1, e1, st1⟩ := initO X0 hx hZ hown (w 12 rfl) (w 13 rfl) (w 14 rfl) e0 (g := (mkF m 1 #[lR r0, lR r1, lV vI0, lV vI2, .val .null, lU] [(.ref r0)])) rfl (by rw [hml]; rfl) rfl (hb hby d2_1) (by decide) (W := 0) (own_W rfl) (by decide)
  have f3 := f2.ext O0.2
  obtain ⟨T4, X4, e4, st4⟩ := getS2 X1 hx hZ hown (host := "") (Or.inl (w 68 rfl)) Via.refl e1 f3 (g := (mkF m 27 #[lR r0, lR r1, lV vI0, lV vI2, .val .null, lU] [])) rfl (hb hby d2_27)
  obtain ⟨_, T14, Lc14, X14, hQ14, st14⟩ := own_cS X4 hx hZ hown e4 (rm34_3 l Z a0 hw [] r1 c3 x4 x5 h0 n0 O0 f6 hc7 l8 hc9 f10 f11 f12 hc13) (w 180 rfl) (w 181 rfl) (w 182 rfl) (w 183 rfl) (by decide) (W := 0) (by decide) (by decide) (by decide) (by decide) (g := (mkF m 36 #[lR r0, lR r1, lV vI0, lV vI2, .val .null, lU] [vI2, vI0, (.ref r1)])) rfl (by rw [hml]; rfl) (argsL := [(.ref r1), vI0, vI2]) (rest := []) (lenOf pd___CII__B rfl) rfl (own_W rfl) (hb hby d2_36)
  obtain ⟨b14_0, k14_0, rfl, N14q, K14, f15, f16, f17⟩ := hQ14
  have N14 := Fr.app N0 N14q
  have o18 := Old.keep O0 K14 all0
  obtain ⟨_, T19, Lc19, X19, hQ19, st19⟩ := own_cS X14 hx hZ hown rfl (rm36_2 l Z a0 hw [] b14_0 k14_0 (((x4 >>> ((0 : Int32) &&& 31)).toInt8.toInt32).toInt8.toInt32) (((x4 >>> ((8 : Int32) &&& 31)).toInt8.toInt32).toInt8.toInt32) (((x5 >>> ((0 : Int32) &&& 31)).toInt8.toInt32).toInt8.toInt32) (((x5 >>> ((8 : Int32) &&& 31)).toInt8.toInt32).toInt8.toInt32) T14.heap n0 o18 f17) (w 187 rfl) (w 188 rfl) (w 182 rfl) (w 189 rfl) (by decide) (W := 1) (by decide) (by decide) (by decide) (by decide) (g := (mkF m 45 #[lR r0, lR r1, lV vI0, lV vI2, .val .null, lR b14_0] [vI2, (.ref b14_0), (.ref r0)])) rfl (by rw [hml]; rfl) (argsL := [(.ref b14_0), vI2]) (rest := [(.ref r0)]) (lenOf pd___BI_B rfl) rfl (own_W rfl) (hb hby d2_45)
  obtain ⟨rfl, N19q, E19⟩ := hQ19
  have N19 := Fr.app N14 N19q
  have f21 := (f20.keep K14)
  have f23 := (f22.keep K14 nin0)
  obtain ⟨T25, h25, X25, e25, W25, st25⟩ := putFN X19 hx hZ hown (w 22 rfl) Via.refl E19 f23 f21 (Or.inr ⟨(w 18 rfl), rfl, hnm⟩) (w 3 rfl) (ty := .byte) (v' := vI1) (by decide) rfl (by decide) (g := (mkF m 48 #[lR r0, lR r1, lV vI0, lV vI2, .val .null, lR b14_0] [vI1, (.ref r0)])) rfl rfl (hb hby d2_48)
  have Fw25 := f23.same W25
  have N25 := Fr.snoc X25 N19 g24
  have f26 := (f21.wr W25)
  have f28 := ((f27.keep K14 nin0).other W25 (Or.inr (slot_ne (Or.inr (w 17 rfl)) (Or.inr (w 18 rfl)) (by decide) (t := (.array .byte)) (t' := .byte) (by decide) (by decide))))
  obtain ⟨T29, h29, X29, e29, W29, st29⟩ := putF X25 hx hZ hown (host := "") (Or.inl (w 21 rfl)) Via.refl e25 f28 f26 (Or.inr ⟨(w 17 rfl), rfl, hnm⟩) (w 3 rfl) (ty := (.array .byte)) (by decide) rfl rfl (g := (mkF m 54 #[lR r0, lR r1, lV vI0, lV vI2, .val .null, lR b14_0] [(.ref b14_0), (.ref r0)])) rfl rfl (hb hby d2_54)
  have Fw29 := f28.same W29
  have N29 := Fr.snoc X29 N25 g24
  have f30 := (Fw25.other W29 (Or.inr (slot_ne (Or.inr (w 18 rfl)) (Or.inr (w 17 rfl)) (by decide) (t := .byte) (t' := (.array .byte)) (by decide) (by decide))))
  have f31 := ((f16.wr W25).wr W29)
  have n33 := Nat.ne_of_lt (Nat.lt_of_lt_of_le l32 f15)
  have f34 := ((f17.other W25 (Ne.symm n33)).other W29 (Ne.symm n33))
  have kp35 : Keep h0 T14.heap [r0] := (Keep.refl h0 [r0]).trans K14 all0
  have kp36 : Keep h0 h25 [r0] := kp35.wr W25 (Or.inl (List.mem_of_getElem? (i := 0) rfl))
  have kp37 : Keep h0 h29 [r0] := kp36.wr W29 (Or.inl (List.mem_of_getElem? (i := 0) rfl))
  refine ⟨none, _, _, _, _, (fun _ => rfl), X29, by decide, by decide, ?_, fun fs hr => ?_⟩
  · rw [e29]; exact ⟨b14_0, k14_0, rfl, N29, kp37, f30, Fw29, f15, f31, f34⟩
  · show SG p e below s₁ (mkF m 0 #[lR r0, lR r1, lV vI0, lV vI2, .val .null, lU] []) _
    refine qaN X0 hx hby d2_0 ?_
    refine st1 _ ?_
    refine qiN X1 hx hby d2_4 ?_
    refine XS.ifYes X1.here hx rfl (pc0 := 5) (pc' := 27) rfl (hb hby d2_5) rfl ((if0 _ _).trans (feq (by decide : ¬ ((2 : Int32) = (0 : Int32)))).2) (by decide) (by decide) ?_
    refine st4 _ ?_
    refine XS.ifNo X4.here hx rfl (hb hby d2_30) rfl ((if0 _ _).trans (feq hc5).1) ?_
    refine qaN X4 hx hby d2_33 ?_
    refine qiN X4 hx hby d2_34 ?_
    refine qiN X4 hx hby d2_35 ?_
    refine st14 _ ?_
    show SG p e below T14 (mkF m 39 #[lR r0, lR r1, lV vI0, lV vI2, .val .null, lU] [(.ref b14_0)]) _
    refine XS.astore X14.here hx rfl (hb hby d2_39) rfl rfl (l' := #[lR r0, lR r1, lV vI0, lV vI2, .val .null, lR b14_0]) rfl ?_
    refine qaN X14 hx hby d2_41 ?_
    refine qa X14 hx hby d2_42 ?_
    refine qiN X14 hx hby d2_44 ?_
    refine st19 _ ?_
    refine st25 _ ?_
    refine qaN X25 hx hby d2_51 ?_
    refine qa X25 hx hby d2_52 ?_
    refine st29 _ ?_
    exact X29.returnOut hx hret (hb hby d2_57) hr
def Q1_4 (Z : State) (r0 r1 : Addr) (c2 : ClassId) (x3 x4 x5 : Int32) (h0 : Heap) (n0 : Nat) (v : Option Value) (h : Heap) (L : List Loc) : Prop := ∃ (b17_0 : Addr) (k17_0 : ClassId), v = none ∧ Fr n0 L ∧ Keep h0 h [r0] ∧ Fld Z h r0 "java/lang/String" "coder" "B" vI1 ∧ Fld Z h r0 "java/lang/String" "value" "[B" (.ref b17_0) ∧ h0.size ≤ b17_0 ∧ Exa Z h b17_0 "[B" ∧ Arv Z h b17_0 k17_0 .byte (4 : Int32) [(.int (((x3 >>> ((0 : Int32) &&& 31)).toInt8.toInt32).toInt8.toInt32)), (.int (((x3 >>> ((8 : Int32) &&& 31)).toInt8.toInt32).toInt8.toInt32)), (.int (((x4 >>> ((0 : Int32) &&& 31)).toInt8.toInt32).toInt8.toInt32)), (.int (((x4 >>> ((8 : Int32) &&& 31)).toInt8.toInt32).toInt8.toInt32))] vI0
theorem rm1_4 (l : Launch) (Z : State) (a0 : Array Value) (hw : own_HW a0 Z) (ws : List Jvm.Cond) (r0 r1 : Addr) (c2 : ClassId) (x3 x4 x5 : Int32) (h0 : Heap) (n0 : Nat) (O0 : Old Z n0 h0) (f1 : Arv Z h0 r1 c2 .char (2 : Int32) [(.int x3), (.int x4)] vI0) (f3 : Sta Z Z.heap "java/lang/String" "COMPACT_STRINGS" "Z" (.int x5)) (hc4 : ¬ (x5 = (0 : Int32))) (hc5 : ¬ ((255 : Int32) < x3)) (l6 : r1 < h0.size) (hc7 : (255 : Int32) < x4) (f8 : Sta Z Z.heap "java/lang/StringUTF16" "$assertionsDisabled" "Z" vI1) (f9 : Sta Z Z.heap "java/lang/StringUTF16" "HI_BYTE_SHIFT" "I" vI0) (f10 : Sta Z Z.heap "java/lang/StringUTF16" "LO_BYTE_SHIFT" "I" vI8) (hc11 : (255 : Int32) < (nar .char (((((((x4 >>> ((0 : Int32) &&& 31)).toInt8.toInt32).toInt8.toInt32) &&& (255 : Int32)) <<< ((0 : Int32) &&& 31)) ||| (((((x4 >>> ((8 : Int32) &&& 31)).toInt8.toInt32).toInt8.toInt32) &&& (255 : Int32)) <<< ((8 : Int32) &&& 31))).toUInt32.toUInt16.toUInt32.toInt32))) (f12 : Exa Z h0 r0 "java/lang/String") (f13 : Fld Z h0 r0 "java/lang/String" "coder" "B" vI0) (g14 : n0 ≤ r0) (f15 : Fld Z h0 r0 "java/lang/String" "value" "[B" .null) (l16 : r0 < h0.size) :
    own_MF l mN1 jdk_42_method_3_code 2 none ws rR5_2_6_74 Z h0 #[(.ref r0), (.ref r1)] (Q1_4 Z r0 r1 c2 x3 x4 x5 h0 n0) := by
  refine own_open (plainFor_of_name pn_java_lang_String) (L0 := #[lR r0, lR r1]) (fun _ => by first | (simp [entryFrame, mkF, argsToLocals, Value.category]; done) | rfl) ?_
  intro p e s m below meth c s₁ hx hby hml hret hnn hZ hown X0 e0
  have N0 := Fr.nil n0; have w := @ww Z a0 hw
  obtain ⟨clq2, Arq2, qq2, Sq2, Nq2, Hq2, Gq2⟩ := id f1
  obtain ⟨_, T17, Lc17, X17, hQ17, st17⟩ := own_fin (X0.specialBack hx (y := mN0) rfl hown (mvT hZ (w 8 rfl)) (mvT hZ (w 9 rfl)) (mvT hZ (w 11 rfl)) (by decide) (backOf (W := 0) (rm2_4 l Z a0 hw [] r0 r1 x5 c2 x3 x4 h0 n0 O0 f3 hc4 f1 hc5 l6 hc7 f8 f9 f10 hc11 f12 f13 g14 f15 l16) hZ (w 11 rfl) (w 4 rfl) (by decide) (by decide)) (g := (mkF m 6 #[lR r0, lR r1] [.null, vI2, vI0, (.ref r1), (.ref r0)])) rfl (by rw [hml]; rfl) (Steps.refl _) (a := r0) (argsL := [(.ref r1), vI0, vI2, .null]) (rest := []) (lenOf pd___CIILjava_lang_Void__V rfl) rfl (own_W rfl) (hb hby d1_6) (fun _ _ => ⟨rfl, e0, (by decide : 0 + 2 ≤ _), (by decide : 0 + 6 ≤ _)⟩))
  obtain ⟨b17_0, k17_0, rfl, N17q, K17, f18, f19, f20, f21, f22⟩ := hQ17
  have N17 := Fr.app N0 N17q
  have kp23 : Keep h0 T17.heap [r0] := (Keep.refl h0 [r0]).trans K17 (allS (Or.inl (List.mem_of_getElem? (i := 0) rfl)) all0)
  refine ⟨none, _, _, _, _, (fun _ => rfl), X17, by decide, by decide, ?_, fun fs hr => ?_⟩
  · exact ⟨b17_0, k17_0, rfl, N17, kp23, f18, f19, f20, f21, f22⟩
  · show SG p e below s₁ (mkF m 0 #[lR r0, lR r1] []) _
    refine qaN X0 hx hby d1_0 ?_
    refine qaN X0 hx hby d1_1 ?_
    refine qc X0 hx hby d1_2 ?_
    refine qaN X0 hx hby d1_3 ?_
    refine X0.arraylength hx (by rw [e0]; exact Arq2.1) (State.isArrayOf_alike hZ.alike Arq2.2.1) (g := (mkF m 4 #[lR r0, lR r1] [(.ref r1), vI0, (.ref r1), (.ref r0)])) rfl rfl (hb hby d1_4) _ ?_
    rw [len_of Sq2 Nq2]
    refine XS.aconstNull X0.here hx rfl (hb hby d1_5) ?_
    refine st17.trans ?_
    exact X17.returnOut hx hret (hb hby d1_9) hr
def Q0_5 (Z : State) (x0 x1 : Int32) (x2 x3 : Int32) (x4 x5 : Int32) (x6 x7 : Int32) (u8 : Value) (h0 : Heap) (n0 : Nat) (v : Option Value) (h : Heap) (L : List Loc) : Prop := v = some vI1 ∧ Fr n0 L
theorem rm0_5 (l : Launch) (Z : State) (a0 : Array Value) (hw : own_HW a0 Z) (ws : List Jvm.Cond) (x0 x1 : Int32) (x2 x3 : Int32) (x4 x5 : Int32) (x6 x7 : Int32) (u8 : Value) (h0 : Heap) (n0 : Nat) (O0 : Old Z n0 h0) (hc1 : (x0 &&& (3 : Int32)) = (2 : Int32)) (hq2 : ((x1 &&& (65535 : Int32)).toUInt32.toUInt16.toUInt32.toInt32) = x4) (hq3 : ((x2 &&& (65535 : Int32)).toUInt32.toUInt16.toUInt32.toInt32) = x5) (hq4 : ((x3 &&& (65535 : Int32)).toUInt32.toUInt16.toUInt32.toInt32) = x6) (f25 : Sta Z Z.heap "java/lang/String" "COMPACT_STRINGS" "Z" (.int x7)) (hc26 : ¬ (x7 = (0 : Int32))) (hc27 : ¬ ((255 : Int32) < (nar .char x4))) (hc31 : (255 : Int32) < (nar .char x5)) (f32 : Sta Z Z.heap "java/lang/StringUTF16" "$assertionsDisabled" "Z" vI1) (f33 : Sta Z Z.heap "java/lang/StringUTF16" "HI_BYTE_SHIFT" "I" vI0) (f34 : Sta Z Z.heap "java/lang/StringUTF16" "LO_BYTE_SHIFT" "I" vI8) (hc35 : (255 : Int32) < (nar .char ((((((((nar .char x5) >>> ((0 : Int32) &&& 31)).toInt8.toInt32).toInt8.toInt32) &&& (255 : Int32)) <<< ((0 : Int32) &&& 31)) ||| ((((((nar .char x5) >>> ((8 : Int32) &&& 31)).toInt8.toInt32).toInt8.toInt32) &&& (255 : Int32)) <<< ((8 : Int32) &&& 31))).toUInt32.toUInt16.toUInt32.toInt32))) (f53 : Sta Z Z.heap cs7 "SIOOBE_FORMATTER" cs8 u8) (hc54 : u8.isRef = true) (hc77 : (nar .char (nar .char (nar .char ((((((((nar .char x4) >>> ((0 : Int32) &&& 31)).toInt8.toInt32).toInt8.toInt32) &&& (255 : Int32)) <<< ((0 : Int32) &&& 31)) ||| ((((((nar .char x4) >>> ((8 : Int32) &&& 31)).toInt8.toInt32).toInt8.toInt32) &&& (255 : Int32)) <<< ((8 : Int32) &&& 31))).toUInt32.toUInt16.toUInt32.toInt32)))) = x4) (hc79 : (nar .char (nar .char (nar .char ((((((((nar .char x5) >>> ((0 : Int32) &&& 31)).toInt8.toInt32).toInt8.toInt32) &&& (255 : Int32)) <<< ((0 : Int32) &&& 31)) ||| ((((((nar .char x5) >>> ((8 : Int32) &&& 31)).toInt8.toInt32).toInt8.toInt32) &&& (255 : Int32)) <<< ((8 : Int32) &&& 31))).toUInt32.toUInt16.toUInt32.toInt32)))) = x5) :
    own_MH l x code maxLocals ret ws room_1 Z h0 #[(.int x0), (.int x1), (.int x2), (.int x3)] (Q0_5 Z x0 x1 x2 x3 x4 x5 x6 x7 u8 h0 n0) := by
  have hEL : EW Z a0 consts_1 := own_EW hw
  refine own_openH hEL (plainFor_of_name pn_com_example_manojo_manojo_ParameterNamedPinLaw) (L0 := #[lI x0, lI x1, lI x2, lI x3, lU, lU, lU, lU, lU, lU, lU, lU]) (fun _ => by first | (simp [entryFrame, mkF, argsToLocals, Value.category, maxLocals]; done) | rfl) ?_
  intro p e s m below meth c s₁ hx hby hml hret hnn hZ hown X0 e0 R0
  have N0 := Fr.nil n0; have w := @ww Z a0 hw
  obtain ⟨T5, h5, k5, X5, e5, E5, A5, B5, st5⟩ := newPE X0 hx hZ (w 1 rfl) e0 (g := (mkF m 28 #[lI x0, lI x1, lI x2, lI x3, lV vI2, lI x4, lI x5, lI x6, lU, lU, lU, lU] [vI2])) rfl (hb hby at_28) rfl (by decide) (cap := 2) (by decide) (by decide) (by decide) (by decide) (ad := "[C") rfl
  obtain ⟨b5, g5⟩ : ∃ z, z = h0.size := ⟨_, rfl⟩
  have sf6 : Safe Z consts_1 s.vm h0 b5 := Safe.new (Nat.le_of_eq g5.symm)
  rw [← g5] at A5 B5 st5
  have R7 := CHr.trans R0 (CHr.ext E5 R0.1)
  have V5 : Arv Z h5 b5 k5 .char (2 : Int32) [vI0, vI0] vI0 := (Arv.new A5 (by decide)).pad (pad_rep [] vI0 2)
  obtain ⟨clq8, Arq8, qq8, Sq8, Nq8, Hq8, Gq8⟩ := id V5
  have zz9 : n0 ≤ h0.size := by rw [← O0.1]; exact O0.2.1
  have g10 := Nat.le_trans zz9 (Nat.le_of_eq g5.symm)
  obtain ⟨T11, h11, X11, e11, W11, st11⟩ := stC X5 hx hZ e5 Arq8 (j := (0 : Int32)) (inb_of Sq8 ⟨(by decide : ¬ ((0 : Int32) < (0 : Int32))), (by decide : (0 : Int32) < (2 : Int32))⟩) (g := (mkF m 42 #[lI x0, lI x1, lI x2, lI x3, lV vI2, lI x4, lI x5, lI x6, lR b5, lU, lU, lU] [(.int x4), vI0, (.ref b5)])) rfl rfl (hb hby at_42)
  have sf12 : Safe Z consts_1 s.vm h5 b5 := (Safe.exa hZ.alike B5 (by decide) (by decide))
  have R13 := CHr.trans R7 (CHr.wr W11 sf12 R7.1)
  have V11 : Arv Z h11 b5 k5 .char (2 : Int32) [(.int (nar .char x4)), vI0] vI0 := Arv.set Arq8 qq8 Sq8 Nq8 Hq8 Gq8 (fits_nar_char _) W11 0 rfl (Nat.le_of_ble_eq_true rfl)
  have N11 := Fr.snoc X11 N0 g10
  obtain ⟨clq14, Arq14, qq14, Sq14, Nq14, Hq14, Gq14⟩ := id V11
  obtain ⟨T15, h15, X15, e15, W15, st15⟩ := stC X11 hx hZ e11 Arq14 (j := (1 : Int32)) (inb_of Sq14 ⟨(by decide : ¬ ((1 : Int32) < (0 : Int32))), (by decide : (1 : Int32) < (2 : Int32))⟩) (g := (mkF m 54 #[lI x0, lI x1, lI x2, lI x3, lV vI2, lI x4, lI x5, lI x6, lR b5, lU, lU, lU] [(.int x5), vI1, (.ref b5)])) rfl rfl (hb hby at_54)
  have f16 := (B5.wr W11)
  have sf17 : Safe Z consts_1 s.vm h11 b5 := (Safe.exa hZ.alike f16 (by decide) (by decide))
  have R18 := CHr.trans R13 (CHr.wr W15 sf17 R13.1)
  have V15 : Arv Z h15 b5 k5 .char (2 : Int32) [(.int (nar .char x4)), (.int (nar .char x5))] vI0 := Arv.set Arq14 qq14 Sq14 Nq14 Hq14 Gq14 (fits_nar_char _) W15 1 rfl (Nat.le_of_ble_eq_true rfl)
  have N15 := Fr.snoc X15 N11 g10
  obtain ⟨T19, h19, X19, e19, E19, A19, D19, -, st19⟩ := newO X15 hx hZ hown (w 2 rfl) (w 3 rfl) (w 4 rfl) e15 (g := (mkF m 67 #[lI x0, lI x1, lI x2, lI x3, lV vI2, lI x4, lI x5, lI x6, lR b5, lU, lU, lU] [])) rfl (hb hby at_67) (by decide) (by decide)
  obtain ⟨b19, g19⟩ : ∃ z, z = h15.size := ⟨_, rfl⟩
  have sf20 : Safe Z consts_1 s.vm h15 b19 := Safe.new (Nat.le_of_eq g19.symm)
  rw [← g19] at A19 D19 st19
  have R21 := CHr.trans R18 (CHr.ext E19 R18.1)
  have f22 : Fld Z h19 b19 "java/lang/String" "value" "[B" .null := D19 (Or.inr (w 17 rfl)) (ty := (.array .byte)) (by decide)
  have f23 : Fld Z h19 b19 "java/lang/String" "coder" "B" vI0 := D19 (Or.inr (w 18 rfl)) (ty := .byte) (by decide)
  have f24 := (V15.ext E19)
  have zs28 := (Nat.le_of_eq W11.size.symm)
  have zs29 := Nat.le_trans zs28 (Nat.le_of_eq W15.size.symm)
  have zs30 := Nat.le_trans zs29 E19.1
  have o37 := Old.ext O0 E5
  have o38 := Old.wr o37 W11 g10
  have o39 := Old.wr o38 W15 g10
  have zz36 : n0 ≤ h15.size := by rw [← o39.1]; exact o39.2.1
  have g40 := Nat.le_trans zz36 (Nat.le_of_eq g19.symm)
  have o41 := Old.ext o39 E19
  obtain ⟨_, T42, Lc42, X42, hQ42, st42⟩ := own_fin (X19.specialBack hx (y := mN1) rfl hown (mvT hZ (w 5 rfl)) (mvT hZ (w 6 rfl)) (mvT hZ (w 7 rfl)) (by decide) (backOf (W := 1) (rm1_4 l Z a0 hw [] b19 b5 k5 (nar .char x4) (nar .char x5) x7 h19 n0 o41 f24 f25 hc26 hc27 (Nat.lt_of_lt_of_le V5.lt zs30) hc31 f32 f33 f34 hc35 A19 f23 g40 f22 A19.lt) hZ (w 7 rfl) (w 4 rfl) (by decide) (by decide)) (g := (mkF m 73 #[lI x0, lI x1, lI x2, lI x3, lV vI2, lI x4, lI x5, lI x6, lR b5, lU, lU, lU] [(.ref b5), (.ref b19), (.ref b19)])) rfl (by rw [hml]; rfl) (Steps.refl _) (a := b19) (argsL := [(.ref b5)]) (rest := [(.ref b19)]) (lenOf pd___C_V rfl) rfl (own_W rfl) (hb hby at_73) (fun _ _ => ⟨rfl, e19, (by decide : 2 + 2 ≤ _), (by decide : 6 + 6 ≤ _)⟩))
  obtain ⟨b42_0, k42_0, rfl, N42q, K42, f43, f44, f45, f46, f47⟩ := hQ42
  have N42 := Fr.app N15 N42q
  have sf48 := (Safe.ext E19 R18.1 sf20)
  have R49 := CHr.trans R21 (CHr.keep K42 (sfS sf48 sf0) R21.1)
  have sf50 : Safe Z consts_1 s.vm h19 b42_0 := Safe.new f45
  have f51 := (A19.keep K42)
  have zs52 := K42.1
  have o55 := Old.keep o41 K42 (allS g40 all0)
  have hS56 := (State.WarmedH.refl s).since 0
  obtain ⟨_, _, ⟨T57, L57, k57, n57⟩, -, X57, hs57, hg57, ⟨Lc57, hQ57, l57, y57, z57, cr57⟩, st57⟩ := callSS X42 hx (y := mN25) hown (mvT hZ (w 23 rfl)) (mvT hZ (w 24 rfl)) (mvT hZ (w 25 rfl)) (mvT hZ (w 26 rfl)) (by decide) (backOfSH (s := s) (vm0 := s.vm) (W := 0) (rm4_4 l Z a0 hw [] b19 x7 b42_0 k42_0 ((((nar .char x4) >>> ((0 : Int32) &&& 31)).toInt8.toInt32).toInt8.toInt32) ((((nar .char x4) >>> ((8 : Int32) &&& 31)).toInt8.toInt32).toInt8.toInt32) ((((nar .char x5) >>> ((0 : Int32) &&& 31)).toInt8.toInt32).toInt8.toInt32) ((((nar .char x5) >>> ((8 : Int32) &&& 31)).toInt8.toInt32).toInt8.toInt32) u8 T42.heap n0 o55 f25 hc26 f51 f44 (Nat.lt_of_lt_of_le A19.lt zs52) f47 f46.lt f43 f53 hc54 f32 f33 f34) hZ (w 26 rfl) (w 25 rfl) (by decide) (by decide) hEL R49.1) (g := (mkF m 80 #[lI x0, lI x1, lI x2, lI x3, lV vI2, lI x4, lI x5, lI x6, lR b5, lR b19, lU, lU] [(.ref b19)])) rfl (by rw [hml]; rfl) (argsL := [(.ref b19)]) (rest := []) (lenOf pd__Ljava_lang_String__Lcom_example_manojo_manojo_QueryTree_Parameter_ rfl) rfl (own_W rfl) (hb hby at_80) (fun _ _ => ⟨rfl, rfl, (by decide : 4 + 8 ≤ _), (by decide : 12 + 81 ≤ _)⟩)
  dsimp only [Pt.U, Pt.locs, Pt.cells, Pt.slots] at X57 l57 y57 z57 st57 hQ57 hs57 hg57 cr57
  subst l57 y57 z57
  obtain ⟨X57, hS57, hZ57, ho57⟩ := rebS (s := s) (vm0 := s.vm) hS56 ((Nat.zero_le _)) X57 hs57 hg57 hZ hown
  obtain ⟨b57_0, b57_1, b57_2, k57_0, rfl, N57q, K57, f58, f59, f60, f61, f62, f63, f64, f65, f66, f67, f68, f69, f70⟩ := hQ57
  have N57 := Fr.app N42 N57q
  have R71 := CHr.trans R49 cr57
  have o72 := Old.keep o55 K57 all0
  obtain ⟨_, T73, Lc73, X73, hQ73, st73⟩ := own_cV X57 hx hZ57 ho57 rfl (rm28_1 l Z a0 hw [] b57_0 b57_1 T57.heap n0 o72 f60) f59 (w 152 rfl) (w 153 rfl) (w 155 rfl) (w 154 rfl) (w 156 rfl) (w 25 rfl) (by decide) (W := 0) (by decide) (by decide) (by decide) (by decide) (g := (mkF m 87 #[lI x0, lI x1, lI x2, lI x3, lV vI2, lI x4, lI x5, lI x6, lR b5, lR b19, lR b57_0, lU] [(.ref b57_0)])) rfl (by rw [hml]; rfl) (argsL := []) (rest := []) (lenOf pd___Ljava_lang_String_ rfl) rfl (own_W rfl) (hb hby at_87)
  obtain ⟨rfl, N73q, E73⟩ := hQ73
  have N73 := Fr.app N57 N73q
  obtain ⟨_, T74, Lc74, X74, hQ74, st74⟩ := own_cV X73 hx hZ57 ho57 E73 (rm9_1 l Z a0 hw [] b57_1 b57_2 (6 : Int32) k57_0 ([vI58, vI0, (.int ((((nar .char x4) >>> ((0 : Int32) &&& 31)).toInt8.toInt32).toInt8.toInt32)), (.int ((((nar .char x4) >>> ((8 : Int32) &&& 31)).toInt8.toInt32).toInt8.toInt32)), (.int ((((nar .char x5) >>> ((0 : Int32) &&& 31)).toInt8.toInt32).toInt8.toInt32)), (.int ((((nar .char x5) >>> ((8 : Int32) &&& 31)).toInt8.toInt32).toInt8.toInt32))]) x7 (1 : Int32) T57.heap n0 o72 f64 f66 f62 f25 hc26 f63) f62 (w 157 rfl) (w 59 rfl) (w 61 rfl) (w 60 rfl) (w 62 rfl) (w 4 rfl) (by decide) (W := 0) (by decide) (by decide) (by decide) (by decide) (g := (mkF m 99 #[lI x0, lI x1, lI x2, lI x3, lV vI2, lI x4, lI x5, lI x6, lR b5, lR b19, lR b57_0, lR b57_1] [(.ref b57_1)])) rfl (by rw [hml]; rfl) (argsL := []) (rest := []) (lenOf pd___I rfl) rfl (own_W rfl) (hb hby at_99)
  obtain ⟨rfl, N74q, E74⟩ := hQ74
  have N74 := Fr.app N73 N74q
  obtain ⟨_, T75, Lc75, X75, hQ75, st75⟩ := own_cV X74 hx hZ57 ho57 E74 (rm29_2 l Z a0 hw [] b57_1 (0 : Int32) x7 (1 : Int32) b57_2 (6 : Int32) k57_0 ([vI58, vI0, (.int ((((nar .char x4) >>> ((0 : Int32) &&& 31)).toInt8.toInt32).toInt8.toInt32)), (.int ((((nar .char x4) >>> ((8 : Int32) &&& 31)).toInt8.toInt32).toInt8.toInt32)), (.int ((((nar .char x5) >>> ((0 : Int32) &&& 31)).toInt8.toInt32).toInt8.toInt32)), (.int ((((nar .char x5) >>> ((8 : Int32) &&& 31)).toInt8.toInt32).toInt8.toInt32))]) u8 (58 : Int32) (0 : Int32) T57.heap n0 o72 f62 f25 hc26 f63 (by decide) f64 f66 f53 hc54 (by decide) (by decide) f32 (own_gd (n := 0) rfl rfl) (by decide) (by decide) f33 (own_gd (n := 1) rfl rfl) (by decide) (by decide) f34) f62 (w 158 rfl) (w 159 rfl) (w 161 rfl) (w 160 rfl) (w 162 rfl) (w 4 rfl) (by decide) (W := 0) (by decide) (by decide) (by decide) (by decide) (g := (mkF m 114 #[lI x0, lI x1, lI x2, lI x3, lV vI2, lI x4, lI x5, lI x6, lR b5, lR b19, lR b57_0, lR b57_1] [vI0, (.ref b57_1)])) rfl (by rw [hml]; rfl) (argsL := [vI0]) (rest := []) (lenOf pd__I_C rfl) rfl (own_W rfl) (hb hby at_114)
  obtain ⟨rfl, N75q, E75⟩ := hQ75
  have N75 := Fr.app N74 N75q
  obtain ⟨_, T76, Lc76, X76, hQ76, st76⟩ := own_cV X75 hx hZ57 ho57 E75 (rm29_2 l Z a0 hw [] b57_1 (1 : Int32) x7 (1 : Int32) b57_2 (6 : Int32) k57_0 ([vI58, vI0, (.int ((((nar .char x4) >>> ((0 : Int32) &&& 31)).toInt8.toInt32).toInt8.toInt32)), (.int ((((nar .char x4) >>> ((8 : Int32) &&& 31)).toInt8.toInt32).toInt8.toInt32)), (.int ((((nar .char x5) >>> ((0 : Int32) &&& 31)).toInt8.toInt32).toInt8.toInt32)), (.int ((((nar .char x5) >>> ((8 : Int32) &&& 31)).toInt8.toInt32).toInt8.toInt32))]) u8 ((((nar .char x4) >>> ((0 : Int32) &&& 31)).toInt8.toInt32).toInt8.toInt32) ((((nar .char x4) >>> ((8 : Int32) &&& 31)).toInt8.toInt32).toInt8.toInt32) T57.heap n0 o72 f62 f25 hc26 f63 (by decide) f64 f66 f53 hc54 (by decide) (by decide) f32 (own_gd (n := 2) rfl rfl) (by decide) (by decide) f33 (own_gd (n := 3) rfl rfl) (by decide) (by decide) f34) f62 (w 158 rfl) (w 159 rfl) (w 161 rfl) (w 160 rfl) (w 162 rfl) (w 4 rfl) (by decide) (W := 0) (by decide) (by decide) (by decide) (by decide) (g := (mkF m 132 #[lI x0, lI x1, lI x2, lI x3, lV vI2, lI x4, lI x5, lI x6, lR b5, lR b19, lR b57_0, lR b57_1] [vI1, (.ref b57_1)])) rfl (by rw [hml]; rfl) (argsL := [vI1]) (rest := []) (lenOf pd__I_C rfl) rfl (own_W rfl) (hb hby at_132)
  obtain ⟨rfl, N76q, E76⟩ := hQ76
  have N76 := Fr.app N75 N76q
  obtain ⟨_, T78, Lc78, X78, hQ78, st78⟩ := own_cV X76 hx hZ57 ho57 E76 (rm29_2 l Z a0 hw [] b57_1 (2 : Int32) x7 (1 : Int32) b57_2 (6 : Int32) k57_0 ([vI58, vI0, (.int ((((nar .char x4) >>> ((0 : Int32) &&& 31)).toInt8.toInt32).toInt8.toInt32)), (.int ((((nar .char x4) >>> ((8 : Int32) &&& 31)).toInt8.toInt32).toInt8.toInt32)), (.int ((((nar .char x5) >>> ((0 : Int32) &&& 31)).toInt8.toInt32).toInt8.toInt32)), (.int ((((nar .char x5) >>> ((8 : Int32) &&& 31)).toInt8.toInt32).toInt8.toInt32))]) u8 ((((nar .char x5) >>> ((0 : Int32) &&& 31)).toInt8.toInt32).toInt8.toInt32) ((((nar .char x5) >>> ((8 : Int32) &&& 31)).toInt8.toInt32).toInt8.toInt32) T57.heap n0 o72 f62 f25 hc26 f63 (by decide) f64 f66 f53 hc54 (by decide) (by decide) f32 (own_gd (n := 4) rfl rfl) (by decide) (by decide) f33 (own_gd (n := 5) rfl rfl) (by decide) (by decide) f34) f62 (w 158 rfl) (w 159 rfl) (w 161 rfl) (w 160 rfl) (w 162 rfl) (w 4 rfl) (by decide) (W := 0) (by decide) (by decide) (by decide) (by decide) (g := (mkF m 151 #[lI x0, lI x1, lI x2, lI x3, lV vI2, lI x4, lI x5, lI x6, lR b5, lR b19, lR b57_0, lR b57_1] [vI2, (.ref b57_1)])) rfl (by rw [hml]; rfl) (argsL := [vI2]) (rest := []) (lenOf pd__I_C rfl) rfl (own_W rfl) (hb hby at_151)
  obtain ⟨rfl, N78q, E78⟩ := hQ78
  have N78 := Fr.app N76 N78q
  refine ⟨some vI1, _, _, _, _, _, _, _, nofun, X78, by decide, by decide, hS57, (by rw [E78]; exact (Nat.le_refl _)), hZ57, E78, R71, ?_, fun fs hr => ?_⟩
  · rw [E78]; exact ⟨rfl, N78⟩
  · show SG p e below s₁ (mkF m 0 #[lI x0, lI x1, lI x2, lI x3, lU, lU, lU, lU, lU, lU, lU, lU] []) _
    refine qiN X0 hx hby at_0 ?_
    refine qc X0 hx hby at_1 ?_
    refine XS.iand X0.here hx rfl (hb hby at_2) rfl ?_
    show SG p e below s₁ (mkF m 3 #[lI x0, lI x1, lI x2, lI x3, lU, lU, lU, lU, lU, lU, lU, lU] [(.int (x0 &&& (3 : Int32)))]) _
    rw [hc1]
    refine XS.istore X0.here hx rfl (hb hby at_3) rfl (l' := #[lI x0, lI x1, lI x2, lI x3, lV vI2, lU, lU, lU, lU, lU, lU, lU]) rfl ?_
    refine qiN X0 hx hby at_5 ?_
    refine X0.ldcInt hx hown (mvT hZ (w 0 rfl)) (g := (mkF m 6 #[lI x0, lI x1, lI x2, lI x3, lV vI2, lU, lU, lU, lU, lU, lU, lU] [(.int x1)])) rfl (hb hby at_6) _ ?_
    refine XS.iand X0.here hx rfl (hb hby at_8) rfl ?_
    refine XS.i2c X0.here hx rfl (hb hby at_9) rfl ?_
    show SG p e below s₁ (mkF m 10 #[lI x0, lI x1, lI x2, lI x3, lV vI2, lU, lU, lU, lU, lU, lU, lU] [(.int ((x1 &&& (65535 : Int32)).toUInt32.toUInt16.toUInt32.toInt32))]) _
    rw [hq2]
    refine XS.istore X0.here hx rfl (hb hby at_10) rfl (l' := #[lI x0, lI x1, lI x2, lI x3, lV vI2, lI x4, lU, lU, lU, lU, lU, lU]) rfl ?_
    refine qiN X0 hx hby at_12 ?_
    show SG p e below s₁ (mkF m 13 #[lI x0, lI x1, lI x2, lI x3, lV vI2, lI x4, lU, lU, lU, lU, lU, lU] [(.int x2)]) _
    refine X0.ldcInt hx hown (mvT hZ (w 0 rfl)) (g := (mkF m 13 #[lI x0, lI x1, lI x2, lI x3, lV vI2, lI x4, lU, lU, lU, lU, lU, lU] [(.int x2)])) rfl (hb hby at_13) _ ?_
    refine XS.iand X0.here hx rfl (hb hby at_15) rfl ?_
    refine XS.i2c X0.here hx rfl (hb hby at_16) rfl ?_
    show SG p e below s₁ (mkF m 17 #[lI x0, lI x1, lI x2, lI x3, lV vI2, lI x4, lU, lU, lU, lU, lU, lU] [(.int ((x2 &&& (65535 : Int32)).toUInt32.toUInt16.toUInt32.toInt32))]) _
    rw [hq3]
    refine XS.istore X0.here hx rfl (hb hby at_17) rfl (l' := #[lI x0, lI x1, lI x2, lI x3, lV vI2, lI x4, lI x5, lU, lU, lU, lU, lU]) rfl ?_
    refine qiN X0 hx hby at_19 ?_
    refine X0.ldcInt hx hown (mvT hZ (w 0 rfl)) (g := (mkF m 20 #[lI x0, lI x1, lI x2, lI x3, lV vI2, lI x4, lI x5, lU, lU, lU, lU, lU] [(.int x3)])) rfl (hb hby at_20) _ ?_
    refine XS.iand X0.here hx rfl (hb hby at_22) rfl ?_
    refine XS.i2c X0.here hx rfl (hb hby at_23) rfl ?_
    show SG p e below s₁ (mkF m 24 #[lI x0, lI x1, lI x2, lI x3, lV vI2, lI x4, lI x5, lU, lU, lU, lU, lU] [(.int ((x3 &&& (65535 : Int32)).toUInt32.toUInt16.toUInt32.toInt32))]) _
    rw [hq4]
    refine XS.istore X0.here hx rfl (hb hby at_24) rfl (l' := #[lI x0, lI x1, lI x2, lI x3, lV vI2, lI x4, lI x5, lI x6, lU, lU, lU, lU]) rfl ?_
    refine qi X0 hx hby at_26 ?_
    show SG p e below s₁ (mkF m 28 #[lI x0, lI x1, lI x2, lI x3, lV vI2, lI x4, lI x5, lI x6, lU, lU, lU, lU] [vI2]) _
    refine st5 _ ?_
    refine XS.astore X5.here hx rfl (hb hby at_30) rfl rfl (l' := #[lI x0, lI x1, lI x2, lI x3, lV vI2, lI x4, lI x5, lI x6, lR b5, lU, lU, lU]) rfl ?_
    refine qi X5 hx hby at_32 ?_
    refine XS.ifNo X5.here hx rfl (hb hby at_34) rfl ((if0 _ _).trans (tlt (by decide : (0 : Int32) < (2 : Int32))).2.2.2) ?_
    refine qa X5 hx hby at_37 ?_
    refine qc X5 hx hby at_39 ?_
    refine qi X5 hx hby at_40 ?_
    refine st11 _ ?_
    refine qi X11 hx hby at_43 ?_
    refine qc X11 hx hby at_45 ?_
    show SG p e below T11 (mkF m 46 #[lI x0, lI x1, lI x2, lI x3, lV vI2, lI x4, lI x5, lI x6, lR b5, lU, lU, lU] [vI1, vI2]) _
    refine XS.icmpNo X11.here hx rfl (hb hby at_46) rfl (tlt (by decide : (1 : Int32) < (2 : Int32))).2.2.2 ?_
    refine qa X11 hx hby at_49 ?_
    refine qc X11 hx hby at_51 ?_
    refine qi X11 hx hby at_52 ?_
    refine st15 _ ?_
    refine qi X15 hx hby at_55 ?_
    refine qc X15 hx hby at_57 ?_
    refine XS.icmpYes X15.here hx rfl (pc0 := 58) (pc' := 67) rfl (hb hby at_58) rfl (flt (by decide : ¬ ((2 : Int32) < (2 : Int32)))).2.2.2 (by decide) (by decide) ?_
    refine st19 _ ?_
    refine qd X19 hx hby at_70 ?_
    show SG p e below T19 (mkF m 71 #[lI x0, lI x1, lI x2, lI x3, lV vI2, lI x4, lI x5, lI x6, lR b5, lU, lU, lU] [(.ref b19), (.ref b19)]) _
    refine qa X19 hx hby at_71 ?_
    refine st42.trans ?_
    refine XS.astore X42.here hx rfl (hb hby at_76) rfl rfl (l' := #[lI x0, lI x1, lI x2, lI x3, lV vI2, lI x4, lI x5, lI x6, lR b5, lR b19, lU, lU]) rfl ?_
    refine qa X42 hx hby at_78 ?_
    refine st57.trans ?_
    refine XS.astore X57.here hx rfl (hb hby at_83) rfl rfl (l' := #[lI x0, lI x1, lI x2, lI x3, lV vI2, lI x4, lI x5, lI x6, lR b5, lR b19, lR b57_0, lU]) rfl ?_
    refine qa X57 hx hby at_85 ?_
    refine st73 _ ?_
    refine XS.astore X73.here hx rfl (hb hby at_90) rfl rfl (l' := #[lI x0, lI x1, lI x2, lI x3, lV vI2, lI x4, lI x5, lI x6, lR b5, lR b19, lR b57_0, lR b57_1]) rfl ?_
    refine qa X73 hx hby at_92 ?_
    show SG p e below T73 (mkF m 94 #[lI x0, lI x1, lI x2, lI x3, lV vI2, lI x4, lI x5, lI x6, lR b5, lR b19, lR b57_0, lR b57_1] [(.ref b57_1)]) _
    refine XS.ifnullNo X73.here hx rfl (hb hby at_94) rfl ?_
    refine qa X73 hx hby at_97 ?_
    refine st74 _ ?_
    refine qi X74 hx hby at_102 ?_
    refine qc X74 hx hby at_104 ?_
    refine XS.iadd X74.here hx rfl (hb hby at_105) rfl ?_
    refine XS.icmpYes X74.here hx rfl (pc0 := 106) (pc' := 111) rfl (hb hby at_106) rfl (teq (rfl : (3 : Int32) = (3 : Int32))).1 (by decide) (by decide) ?_
    refine qa X74 hx hby at_111 ?_
    refine qc X74 hx hby at_113 ?_
    refine st75 _ ?_
    show SG p e below T75 (mkF m 117 #[lI x0, lI x1, lI x2, lI x3, lV vI2, lI x4, lI x5, lI x6, lR b5, lR b19, lR b57_0, lR b57_1] [vI58]) _
    refine qb X75 hx hby at_117 ?_
    refine XS.icmpYes X75.here hx rfl (pc0 := 119) (pc' := 124) rfl (hb hby at_119) rfl (teq (rfl : (58 : Int32) = (58 : Int32))).1 (by decide) (by decide) ?_
    refine qi X75 hx hby at_124 ?_
    refine XS.ifNo X75.here hx rfl (hb hby at_126) rfl ((if0 _ _).trans (tlt (by decide : (0 : Int32) < (2 : Int32))).2.2.2) ?_
    refine qa X75 hx hby at_129 ?_
    refine qc X75 hx hby at_131 ?_
    refine st76 _ ?_
    refine qi X76 hx hby at_135 ?_
    refine XS.icmpYes X76.here hx rfl (pc0 := 137) (pc' := 142) rfl (hb hby at_137) rfl (teq hc77).1 (by decide) (by decide) ?_
    refine qi X76 hx hby at_142 ?_
    show SG p e below T76 (mkF m 144 #[lI x0, lI x1, lI x2, lI x3, lV vI2, lI x4, lI x5, lI x6, lR b5, lR b19, lR b57_0, lR b57_1] [vI2]) _
    refine qc X76 hx hby at_144 ?_
    refine XS.icmpNo X76.here hx rfl (hb hby at_145) rfl (tlt (by decide : (1 : Int32) < (2 : Int32))).2.2.2 ?_
    refine qa X76 hx hby at_148 ?_
    refine qc X76 hx hby at_150 ?_
    refine st78 _ ?_
    refine qi X78 hx hby at_154 ?_
    refine XS.icmpYes X78.here hx rfl (pc0 := 156) (pc' := 161) rfl (hb hby at_156) rfl (teq hc79).1 (by decide) (by decide) ?_
    refine qi X78 hx hby at_161 ?_
    refine qc X78 hx hby at_163 ?_
    refine XS.icmpYes X78.here hx rfl (pc0 := 164) (pc' := 180) rfl (hb hby at_164) rfl (flt (by decide : ¬ ((2 : Int32) < (2 : Int32)))).2.2.2 (by decide) (by decide) ?_
    show SG p e below T78 (mkF m 180 #[lI x0, lI x1, lI x2, lI x3, lV vI2, lI x4, lI x5, lI x6, lR b5, lR b19, lR b57_0, lR b57_1] []) _
    refine qc X78 hx hby at_180 ?_
    exact retN X78 hx (t := .boolean) hret (by simp) (hb hby at_181) hr
def Q4_5 (Z : State) (r0 : Addr) (x1 : Int32) (r2 : Addr) (c3 : ClassId) (x4 x5 : Int32) (h0 : Heap) (n0 : Nat) (v : Option Value) (h : Heap) (L : List Loc) : Prop := ∃ (b1 b87_0 b87_1 : Addr) (k87_0 : ClassId), v = some (.ref b1) ∧ Fr n0 L ∧ Keep h0 h [] ∧ h0.size ≤ b1 ∧ Exa Z h b1 cs5 ∧ Fld Z h b1 cs5 "name" "Ljava/lang/String;" (.ref b87_0) ∧ h0.size ≤ b87_0 ∧ Exa Z h b87_0 "java/lang/String" ∧ Fld Z h b87_0 "java/lang/String" "coder" "B" vI0 ∧ Fld Z h b87_0 "java/lang/String" "value" "[B" (.ref b87_1) ∧ h0.size ≤ b87_1 ∧ Arv Z h b87_1 k87_0 .byte (3 : Int32) [vI58, (.int x4), (.int x5)] vI0 ∧ Exa Z h b87_1 "[B" ∧ b1 ≠ b87_0 ∧ b1 ≠ b87_1 ∧ b87_0 ≠ b87_1
theorem rm4_5 (l : Launch) (Z : State) (a0 : Array Value) (hw : own_HW a0 Z) (ws : List Jvm.Cond) (r0 : Addr) (x1 : Int32) (r2 : Addr) (c3 : ClassId) (x4 x5 : Int32) (h0 : Heap) (n0 : Nat) (O0 : Old Z n0 h0) (f12 : Sta Z Z.heap "java/lang/String" "COMPACT_STRINGS" "Z" (.int x1)) (hc13 : ¬ (x1 = (0 : Int32))) (f55 : Exa Z h0 r0 "java/lang/String") (f57 : Fld Z h0 r0 "java/lang/String" "value" "[B" (.ref r2)) (l58 : r0 < h0.size) (f64 : Arv Z h0 r2 c3 .byte (2 : Int32) [(.int x4), (.int x5)] vI0) (l65 : r2 < h0.size) (f69 : Fld Z h0 r0 "java/lang/String" "coder" "B" vI0) :
    own_MH l mN25 prog_22_method_2_code 1 (some (.object cs5)) ws rR6_7_49_99 Z h0 #[(.ref r0)] (Q4_5 Z r0 x1 r2 c3 x4 x5 h0 n0) := by
  have hEL : EW Z a0 consts_1 := own_EW hw
  refine own_openH hEL (plainFor_of_name pn_com_example_manojo_manojo_QueryTree_Parameter) (L0 := #[lR r0]) (fun _ => by first | (simp [entryFrame, mkF, argsToLocals, Value.category]; done) | rfl) ?_
  intro p e s m below meth c s₁ hx hby hml hret hnn hZ hown X0 e0 R0
  have N0 := Fr.nil n0; have w := @ww Z a0 hw
  obtain ⟨T1, h1, X1, e1, E1, A1, D1, -, st1⟩ := newO X0 hx hZ hown (w 27 rfl) (w 28 rfl) (w 25 rfl) e0 (g := (mkF m 0 #[lR r0] [])) rfl (hb hby d4_0) (by decide) (by decide)
  obtain ⟨b1, g1⟩ : ∃ z, z = h0.size := ⟨_, rfl⟩
  have sf2 : Safe Z consts_1 s.vm h0 b1 := Safe.new (Nat.le_of_eq g1.symm)
  rw [← g1] at A1 D1 st1
  have R3 := CHr.trans R0 (CHr.ext E1 R0.1)
  have f4 : Fld Z h1 b1 cs5 "name" "Ljava/lang/String;" .null := D1 (Or.inr (w 151 rfl)) (ty := (.object "java/lang/String")) (by decide)
  obtain ⟨T5, h5, X5, e5, E5, A5, D5, -, st5⟩ := newO X1 hx hZ hown (w 29 rfl) (w 30 rfl) (w 31 rfl) e1 (g := (mkF m 4 #[lR r0] [(.ref b1), (.ref b1)])) rfl (hb hby d4_4) (by decide) (by decide)
  obtain ⟨b5, g5⟩ : ∃ z, z = h1.size := ⟨_, rfl⟩
  have sf6 : Safe Z consts_1 s.vm h1 b5 := Safe.new (Nat.le_of_eq g5.symm)
  rw [← g5] at A5 D5 st5
  have R7 := CHr.trans R3 (CHr.ext E5 R3.1)
  have f8 : Fld Z h5 b5 cs0 "value" "[B" .null := D5 (Or.inl (w 44 rfl)) (ty := (.array .byte)) (by decide)
  have f9 : Fld Z h5 b5 cs0 "coder" "B" vI0 := D5 (Or.inl (w 46 rfl)) (ty := .byte) (by decide)
  have f10 : Fld Z h5 b5 cs0 "count" "I" vI0 := D5 (Or.inl (w 70 rfl)) (ty := .int) (by decide)
  have f11 : Fld Z h5 b5 cs0 "maybeLatin1" "Z" vI0 := D5 (Or.inl (w 235 rfl)) (ty := .boolean) (by decide)
  have o15 := Old.ext O0 E1
  have zz14 : n0 ≤ h1.size := by rw [← o15.1]; exact o15.2.1
  have g16 := Nat.le_trans zz14 (Nat.le_of_eq g5.symm)
  have o17 := Old.ext o15 E5
  obtain ⟨_, T18, Lc18, X18, hQ18, st18⟩ := own_fin (X5.specialBack hx (y := mN3) rfl hown (mvT hZ (w 32 rfl)) (mvT hZ (w 33 rfl)) (mvT hZ (w 34 rfl)) (by decide) (backOf (W := 3) (rm5_1 l Z a0 hw [] b5 x1 h5 n0 o17 f12 hc13 A5 f8 g16 f9 f10 f11 A5.lt) hZ (w 34 rfl) (w 31 rfl) (by decide) (by decide)) (g := (mkF m 8 #[lR r0] [(.ref b5), (.ref b5), (.ref b1), (.ref b1)])) rfl (by rw [hml]; rfl) (Steps.refl _) (a := b5) (argsL := []) (rest := [(.ref b5), (.ref b1), (.ref b1)]) (lenOf pd___V rfl) rfl (own_W rfl) (hb hby d4_8) (fun _ _ => ⟨rfl, e5, (by decide : 2 + 1 ≤ _), (by decide : 5 + 16 ≤ _)⟩))
  obtain ⟨b18_0, k18_0, rfl, N18q, K18, f19, f20, f21, f22, f23, f24, f25⟩ := hQ18
  have N18 := Fr.app N0 N18q
  have R26 := CHr.trans R7 (CHr.keep K18 (sfS (Safe.exa hZ.alike A5 (by decide) (by decide)) sf0) R7.1)
  have sf27 : Safe Z consts_1 s.vm h5 b18_0 := Safe.new f23
  have hS28 := (State.WarmedH.refl s).since 0
  have hstr : ∀ a ∈ Bundle.stringAtoms, a.before a0 Z = true := fun a q => hw a (own_str a q)
  obtain ⟨a29, T29, h29, kk29, b29, k29, X29, e29, E29, hS29, hk29, hZ29, ho29, EE29, C29, F29, V29, l29, m29, CR29, -, ne29, st29⟩ := ldcCH (s := s) (vm0 := s.vm) X18 hx hZ hown (w 47 rfl) hstr rfl hS28 (Nat.zero_le _) hEL (by simp [consts_1]) R26.1 (vs := [vI58]) (z := (1 : Int32)) ⟨by decide, by decide⟩ (by decide) rfl (g := (mkF m 11 #[lR r0] [(.ref b5), (.ref b1), (.ref b1)])) rfl (hb hby d4_11) (n := 4) (by decide) (by decide) (by decide) (by decide)
  have R30 := CHr.trans R26 CR29
  have f31 := (((A1.ext E5).keep K18).ext E29)
  have nl32 := ne29 _ (Safe.exa hZ29.alike f31 (by decide) (by decide))
  have f33 := ((A5.keep K18).ext E29)
  have nl34 := ne29 _ (Safe.exa hZ29.alike f33 (by decide) (by decide))
  have sf35 := (CHr.safe CR29 f24.lt (Safe.keep K18 (sfS (Safe.exa hZ.alike A5 (by decide) (by decide)) sf0) R7.1 sf27))
  have nl36 := ne29 _ sf35
  have f37 := (f21.ext E29)
  have f38 := (f19.ext E29)
  have f39 := (f24.ext E29)
  have f40 := (f20.ext E29)
  have zz41 : n0 ≤ h5.size := by rw [← o17.1]; exact o17.2.1
  have g42 := Nat.le_trans zz41 f23
  have n43 := Nat.ne_of_lt (Nat.lt_of_lt_of_le A5.lt f23)
  have f44 := (f22.ext E29)
  have o45 := Old.keep o17 K18 (allS g16 all0)
  have o46 := Old.ext o45 E29
  obtain ⟨_, T47, Lc47, X47, hQ47, st47⟩ := own_cV X29 hx hZ29 ho29 e29 (rm7_1 l Z a0 hw [] b5 a29 b29 (1 : Int32) k29 ([vI58]) x1 (0 : Int32) (0 : Int32) b18_0 (16 : Int32) k18_0 ([vI0, vI0, vI0, vI0, vI0, vI0, vI0, vI0, vI0, vI0, vI0, vI0, vI0, vI0, vI0, vI0]) (0 : Int32) (0 : Int32) h29 n0 o46 EE29 F29 V29 f12 hc13 C29 f37 f33 f38 f39 f40 (by decide) (by decide) (by decide) (by decide) (by decide) (by decide) (by decide) (by decide) g42 n43 g16 f44) f33 (w 48 rfl) (w 49 rfl) (w 51 rfl) (w 50 rfl) (w 52 rfl) (w 31 rfl) (by decide) (W := 2) (by decide) (by decide) (by decide) (by decide) (g := (mkF m 13 #[lR r0] [(.ref a29), (.ref b5), (.ref b1), (.ref b1)])) rfl (by rw [hml]; rfl) (argsL := [(.ref a29)]) (rest := [(.ref b1), (.ref b1)]) (lenOf pd__Ljava_lang_String__Ljava_lang_StringBuilder_ rfl) rfl (own_W rfl) (hb hby d4_13)
  obtain ⟨rfl, N47q, K47, f48, f49, f50, f51, f52⟩ := hQ47
  have N47 := Fr.app N18 N47q
  have R53 := CHr.trans R30 (CHr.keep K47 (sfS sf35 (sfS (Safe.exa hZ29.alike f33 (by decide) (by decide)) sf0)) R30.1)
  have f54 : Arv Z T47.heap b18_0 k18_0 .byte (16 : Int32) [vI58, vI0, vI0, vI0, vI0, vI0, vI0, vI0, vI0, vI0, vI0, vI0, vI0, vI0, vI0, vI0] vI0 := own_cpx (by decide : (((0 : Int32) <<< ((0 : Int32) &&& 31))).toNatClampNeg = 0) (by decide : (((0 : Int32) <<< ((0 : Int32) &&& 31))).toNatClampNeg + ((1 : Int32)).toNatClampNeg = 1) f48
  have f56 := (((((f55.ext E1).ext E5).keep K18).ext E29).keep K47)
  have zs59 := E1.1
  have n60 := Nat.ne_of_lt (Nat.lt_of_lt_of_le (Nat.lt_of_lt_of_le l58 zs59) (Nat.le_of_eq g5.symm))
  have zs61 := Nat.le_trans zs59 E5.1
  have n62 := Nat.ne_of_lt (Nat.lt_of_lt_of_le (Nat.lt_of_lt_of_le l58 zs61) f23)
  have f63 := (((((f57.ext E1).ext E5).keep K18 (ninS n60 nin0)).ext E29).keep K47 (ninS n62 (ninS n60 nin0)))
  have n66 := Nat.ne_of_lt (Nat.lt_of_lt_of_le (Nat.lt_of_lt_of_le l65 zs59) (Nat.le_of_eq g5.symm))
  have n67 := Nat.ne_of_lt (Nat.lt_of_lt_of_le (Nat.lt_of_lt_of_le l65 zs61) f23)
  have f68 := (((((f64.ext E1).ext E5).keep K18 (ninS n66 nin0)).ext E29).keep K47 (ninS n67 (ninS n66 nin0)))
  have f70 := (((((f69.ext E1).ext E5).keep K18 (ninS n60 nin0)).ext E29).keep K47 (ninS n62 (ninS n60 nin0)))
  have f71 := (f33.keep K47)
  have o72 := Old.keep o46 K47 (allS g42 (allS g16 all0))
  obtain ⟨_, T73, Lc73, X73, hQ73, st73⟩ := own_cV X47 hx hZ29 ho29 rfl (rm7_1 l Z a0 hw [] b5 r0 r2 (2 : Int32) c3 ([(.int x4), (.int x5)]) x1 (0 : Int32) (1 : Int32) b18_0 (16 : Int32) k18_0 ([vI58, vI0, vI0, vI0, vI0, vI0, vI0, vI0, vI0, vI0, vI0, vI0, vI0, vI0, vI0, vI0]) (0 : Int32) (0 : Int32) T47.heap n0 o72 f56 f63 f68 f12 hc13 f70 f49 f71 f50 f54 f51 (by decide) (by decide) (by decide) (own_lenK (n := 2) rfl (by decide) : [(.int x4), (.int x5)].length = ((2 : Int32)).toNatClampNeg) (by decide) (by decide) (by decide) (by decide) g42 n43 g16 f52) f71 (w 48 rfl) (w 49 rfl) (w 51 rfl) (w 50 rfl) (w 52 rfl) (w 31 rfl) (by decide) (W := 2) (by decide) (by decide) (by decide) (by decide) (g := (mkF m 17 #[lR r0] [(.ref r0), (.ref b5), (.ref b1), (.ref b1)])) rfl (by rw [hml]; rfl) (argsL := [(.ref r0)]) (rest := [(.ref b1), (.ref b1)]) (lenOf pd__Ljava_lang_String__Ljava_lang_StringBuilder_ rfl) rfl (own_W rfl) (hb hby d4_17)
  obtain ⟨rfl, N73q, K73, f74, f75, f76, f77, f78⟩ := hQ73
  have N73 := Fr.app N47 N73q
  have sf79 := (Safe.keep K47 (sfS sf35 (sfS (Safe.exa hZ29.alike f33 (by decide) (by decide)) sf0)) R30.1 sf35)
  have R80 := CHr.trans R53 (CHr.keep K73 (sfS sf79 (sfS (Safe.exa hZ29.alike f71 (by decide) (by decide)) sf0)) R53.1)
  have f81 : Arv Z T73.heap b18_0 k18_0 .byte (16 : Int32) [vI58, (.int x4), (.int x5), vI0, vI0, vI0, vI0, vI0, vI0, vI0, vI0, vI0, vI0, vI0, vI0, vI0] vI0 := own_cpx (by decide : (((1 : Int32) <<< ((0 : Int32) &&& 31))).toNatClampNeg = 1) (by decide : (((1 : Int32) <<< ((0 : Int32) &&& 31))).toNatClampNeg + ((2 : Int32)).toNatClampNeg = 3) f74
  have f82 := (f71.keep K73)
  have zs83 := E29.1
  have zs84 := Nat.le_trans zs83 K47.1
  have zs85 := Nat.le_trans zs84 K73.1
  have o86 := Old.keep o72 K73 (allS g42 (allS g16 all0))
  obtain ⟨_, T87, Lc87, X87, hQ87, st87⟩ := own_cV X73 hx hZ29 ho29 rfl (rm15_1 l Z a0 hw [] b5 b18_0 (3 : Int32) x1 (0 : Int32) (16 : Int32) k18_0 ([vI58, (.int x4), (.int x5), vI0, vI0, vI0, vI0, vI0, vI0, vI0, vI0, vI0, vI0, vI0, vI0, vI0]) T73.heap n0 o86 f82 f76 f75 f12 hc13 f77 (by decide) f81 (Nat.lt_of_lt_of_le f24.lt zs85) (by decide) (by decide) (by decide) (by decide) (by decide) (by decide)) f82 (w 96 rfl) (w 97 rfl) (w 99 rfl) (w 98 rfl) (w 100 rfl) (w 31 rfl) (by decide) (W := 2) (by decide) (by decide) (by decide) (by decide) (g := (mkF m 20 #[lR r0] [(.ref b5), (.ref b1), (.ref b1)])) rfl (by rw [hml]; rfl) (argsL := []) (rest := [(.ref b1), (.ref b1)]) (lenOf pd___Ljava_lang_String_ rfl) rfl (own_W rfl) (hb hby d4_20)
  obtain ⟨b87_0, b87_1, k87_0, rfl, N87q, K87, f88, f89, f90, f91, f92, f93, f94, f95⟩ := hQ87
  have N87 := Fr.app N73 N87q
  have R96 := CHr.trans R80 (CHr.keep K87 sf0 R80.1)
  have sf97 : Safe Z consts_1 T29.vm T73.heap b87_0 := Safe.new f88
  have sf98 : Safe Z consts_1 T29.vm T73.heap b87_1 := Safe.new f92
  have f99 : Arv Z T87.heap b87_1 k87_0 .byte (3 : Int32) [vI58, (.int x4), (.int x5)] vI0 := own_trunc (ws := [vI58, (.int x4), (.int x5)]) (rest := [vI0, vI0, vI0, vI0, vI0, vI0, vI0, vI0, vI0, vI0, vI0, vI0, vI0]) (own_lenK (n := 3) rfl (by decide)) f93
  have f100 := (((f31.keep K47).keep K73).keep K87)
  have n101 := Nat.ne_of_lt (Nat.lt_of_lt_of_le A1.lt (Nat.le_of_eq g5.symm))
  have zs102 := E5.1
  have n103 := Nat.ne_of_lt (Nat.lt_of_lt_of_le (Nat.lt_of_lt_of_le A1.lt zs102) f23)
  have f104 := ((((((f4.ext E5).keep K18 (ninS n101 nin0)).ext E29).keep K47 (ninS n103 (ninS n101 nin0))).keep K73 (ninS n103 (ninS n101 nin0))).keep K87 nin0)
  have zz105 : n0 ≤ h0.size := by rw [← O0.1]; exact O0.2.1
  have g106 := Nat.le_trans zz105 (Nat.le_of_eq g1.symm)
  have o107 := Old.keep o86 K87 all0
  obtain ⟨_, T108, Lc108, X108, hQ108, st108⟩ := own_fin (X87.specialBack hx (y := mN24) rfl ho29 (mvT hZ29 (w 141 rfl)) (mvT hZ29 (w 142 rfl)) (mvT hZ29 (w 143 rfl)) (by decide) (backOf (W := 1) (rm26_1 l Z a0 hw [] b1 b87_0 T87.heap n0 o107 f100 f104 g106) hZ29 (w 143 rfl) (w 25 rfl) (by decide) (by decide)) (g := (mkF m 23 #[lR r0] [(.ref b87_0), (.ref b1), (.ref b1)])) rfl (by rw [hml]; rfl) (Steps.refl _) (a := b1) (argsL := [(.ref b87_0)]) (rest := [(.ref b1)]) (lenOf pd__Ljava_lang_String__V rfl) rfl (own_W rfl) (hb hby d4_23) (fun _ _ => ⟨rfl, rfl, (by decide : 7 + 0 ≤ _), (by decide : 49 + 0 ≤ _)⟩))
  obtain ⟨rfl, N108q, K108, f109⟩ := hQ108
  have N108 := Fr.app N87 N108q
  have R110 := CHr.trans R96 (CHr.keep K108 (sfS (Safe.exa hZ29.alike f100 (by decide) (by decide)) sf0) R96.1)
  have f111 := (f100.keep K108)
  have zs112 := Nat.le_trans zs61 K18.1
  have zs113 := Nat.le_trans zs112 E29.1
  have zs114 := Nat.le_trans zs113 K47.1
  have zs115 := Nat.le_trans zs114 K73.1
  have f116 := (f89.keep K108)
  have zs117 := Nat.le_trans zs102 K18.1
  have zs118 := Nat.le_trans zs117 E29.1
  have zs119 := Nat.le_trans zs118 K47.1
  have zs120 := Nat.le_trans zs119 K73.1
  have n121 := Nat.ne_of_lt (Nat.lt_of_lt_of_le (Nat.lt_of_lt_of_le A1.lt zs120) f88)
  have f122 := (f90.keep K108 (ninS (Ne.symm n121) nin0))
  have f123 := (f91.keep K108 (ninS (Ne.symm n121) nin0))
  have n124 := Nat.ne_of_lt (Nat.lt_of_lt_of_le (Nat.lt_of_lt_of_le A1.lt zs120) f92)
  have f125 := (f99.keep K108 (ninS (Ne.symm n124) nin0))
  have f126 := (f94.keep K108)
  have kp127 : Keep h0 h1 [] := (Keep.refl h0 []).ext E1
  have kp128 : Keep h0 h5 [] := kp127.ext E5
  have kp129 : Keep h0 T18.heap [] := kp128.trans K18 (allS (Or.inr (Nat.le_trans zs59 (Nat.le_of_eq g5.symm))) all0)
  have kp130 : Keep h0 h29 [] := kp129.ext E29
  have kp131 : Keep h0 T47.heap [] := kp130.trans K47 (allS (Or.inr (Nat.le_trans zs61 f23)) (allS (Or.inr (Nat.le_trans zs59 (Nat.le_of_eq g5.symm))) all0))
  have kp132 : Keep h0 T73.heap [] := kp131.trans K73 (allS (Or.inr (Nat.le_trans zs61 f23)) (allS (Or.inr (Nat.le_trans zs59 (Nat.le_of_eq g5.symm))) all0))
  have kp133 : Keep h0 T87.heap [] := kp132.trans K87 all0
  have kp134 : Keep h0 T108.heap [] := kp133.trans K108 (allS (Or.inr (Nat.le_of_eq g1.symm)) all0)
  have zs135 := K47.1
  have zs136 := Nat.le_trans zs135 K73.1
  have zs137 := Nat.le_trans zs136 K87.1
  have zs138 := Nat.le_trans zs137 K108.1
  refine ⟨some (.ref b1), _, _, _, _, _, _, _, nofun, X108, by decide, by decide, hS29, ((Nat.le_trans hk29 zs138)), hZ29, rfl, R110, ?_, fun fs hr => ?_⟩
  · exact ⟨b1, b87_0, b87_1, k87_0, rfl, N108, kp134, (Nat.le_of_eq g1.symm), f111, f109, (Nat.le_trans zs115 f88), f116, f122, f123, (Nat.le_trans zs115 f92), f125, f126, n121, n124, f95⟩
  · show SG p e below s₁ (mkF m 0 #[lR r0] []) _
    refine st1 _ ?_
    refine qd X1 hx hby d4_3 ?_
    refine st5 _ ?_
    refine qd X5 hx hby d4_7 ?_
    refine st18.trans ?_
    refine st29 _ ?_
    refine st47 _ ?_
    refine qaN X47 hx hby d4_16 ?_
    refine st73 _ ?_
    refine st87 _ ?_
    show SG p e below T87 (mkF m 23 #[lR r0] [(.ref b87_0), (.ref b1), (.ref b1)]) _
    refine st108.trans ?_
    exact retOut X108 hx (i := .areturn) hret rfl (Or.inr (Or.inr (Or.inr (Or.inr ⟨rfl, rfl, rfl⟩)))) (hb hby d4_26) hr
def Q0_6 (Z : State) (x0 x1 : Int32) (x2 x3 : Int32) (x4 x5 : Int32) (x6 x7 : Int32) (u8 : Value) (h0 : Heap) (n0 : Nat) (v : Option Value) (h : Heap) (L : List Loc) : Prop := v = some vI1 ∧ Fr n0 L
theorem rm0_6 (l : Launch) (Z : State) (a0 : Array Value) (hw : own_HW a0 Z) (ws : List Jvm.Cond) (x0 x1 : Int32) (x2 x3 : Int32) (x4 x5 : Int32) (x6 x7 : Int32) (u8 : Value) (h0 : Heap) (n0 : Nat) (O0 : Old Z n0 h0) (hc1 : (x0 &&& (3 : Int32)) = (2 : Int32)) (hq2 : ((x1 &&& (65535 : Int32)).toUInt32.toUInt16.toUInt32.toInt32) = x4) (hq3 : ((x2 &&& (65535 : Int32)).toUInt32.toUInt16.toUInt32.toInt32) = x5) (hq4 : ((x3 &&& (65535 : Int32)).toUInt32.toUInt16.toUInt32.toInt32) = x6) (f25 : Sta Z Z.heap "java/lang/String" "COMPACT_STRINGS" "Z" (.int x7)) (hc31 : ¬ (x7 = (0 : Int32))) (hc34 : ¬ ((255 : Int32) < (nar .char x4))) (hc35 : ¬ ((255 : Int32) < (nar .char x5))) (f68 : Sta Z Z.heap cs7 "SIOOBE_FORMATTER" cs8 u8) (hc69 : u8.isRef = true) (hc72 : (nar .char (nar .char ((((nar .char x4).toInt8.toInt32) &&& (255 : Int32)).toUInt32.toUInt16.toUInt32.toInt32))) = x4) (hc74 : (nar .char (nar .char ((((nar .char x5).toInt8.toInt32) &&& (255 : Int32)).toUInt32.toUInt16.toUInt32.toInt32))) = x5) :
    own_MH l x code maxLocals ret ws room_1 Z h0 #[(.int x0), (.int x1), (.int x2), (.int x3)] (Q0_6 Z x0 x1 x2 x3 x4 x5 x6 x7 u8 h0 n0) := by
  have hEL : EW Z a0 consts_1 := own_EW hw
  refine own_openH hEL (plainFor_of_name pn_com_example_manojo_manojo_ParameterNamedPinLaw) (L0 := #[lI x0, lI x1, lI x2, lI x3, lU, lU, lU, lU, lU, lU, lU, lU]) (fun _ => by first | (simp [entryFrame, mkF, argsToLocals, Value.category, maxLocals]; done) | rfl) ?_
  intro p e s m below meth c s₁ hx hby hml hret hnn hZ hown X0 e0 R0
  have N0 := Fr.nil n0; have w := @ww Z a0 hw
  obtain ⟨T5, h5, k5, X5, e5, E5, A5, B5, st5⟩ := newPE X0 hx hZ (w 1 rfl) e0 (g := (mkF m 28 #[lI x0, lI x1, lI x2, lI x3, lV vI2, lI x4, lI x5, lI x6, lU, lU, lU, lU] [vI2])) rfl (hb hby at_28) rfl (by decide) (cap := 2) (by decide) (by decide) (by decide) (by decide) (ad := "[C") rfl
  obtain ⟨b5, g5⟩ : ∃ z, z = h0.size := ⟨_, rfl⟩
  have sf6 : Safe Z consts_1 s.vm h0 b5 := Safe.new (Nat.le_of_eq g5.symm)
  rw [← g5] at A5 B5 st5
  have R7 := CHr.trans R0 (CHr.ext E5 R0.1)
  have V5 : Arv Z h5 b5 k5 .char (2 : Int32) [vI0, vI0] vI0 := (Arv.new A5 (by decide)).pad (pad_rep [] vI0 2)
  obtain ⟨clq8, Arq8, qq8, Sq8, Nq8, Hq8, Gq8⟩ := id V5
  have zz9 : n0 ≤ h0.size := by rw [← O0.1]; exact O0.2.1
  have g10 := Nat.le_trans zz9 (Nat.le_of_eq g5.symm)
  obtain ⟨T11, h11, X11, e11, W11, st11⟩ := stC X5 hx hZ e5 Arq8 (j := (0 : Int32)) (inb_of Sq8 ⟨(by decide : ¬ ((0 : Int32) < (0 : Int32))), (by decide : (0 : Int32) < (2 : Int32))⟩) (g := (mkF m 42 #[lI x0, lI x1, lI x2, lI x3, lV vI2, lI x4, lI x5, lI x6, lR b5, lU, lU, lU] [(.int x4), vI0, (.ref b5)])) rfl rfl (hb hby at_42)
  have sf12 : Safe Z consts_1 s.vm h5 b5 := (Safe.exa hZ.alike B5 (by decide) (by decide))
  have R13 := CHr.trans R7 (CHr.wr W11 sf12 R7.1)
  have V11 : Arv Z h11 b5 k5 .char (2 : Int32) [(.int (nar .char x4)), vI0] vI0 := Arv.set Arq8 qq8 Sq8 Nq8 Hq8 Gq8 (fits_nar_char _) W11 0 rfl (Nat.le_of_ble_eq_true rfl)
  have N11 := Fr.snoc X11 N0 g10
  obtain ⟨clq14, Arq14, qq14, Sq14, Nq14, Hq14, Gq14⟩ := id V11
  obtain ⟨T15, h15, X15, e15, W15, st15⟩ := stC X11 hx hZ e11 Arq14 (j := (1 : Int32)) (inb_of Sq14 ⟨(by decide : ¬ ((1 : Int32) < (0 : Int32))), (by decide : (1 : Int32) < (2 : Int32))⟩) (g := (mkF m 54 #[lI x0, lI x1, lI x2, lI x3, lV vI2, lI x4, lI x5, lI x6, lR b5, lU, lU, lU] [(.int x5), vI1, (.ref b5)])) rfl rfl (hb hby at_54)
  have f16 := (B5.wr W11)
  have sf17 : Safe Z consts_1 s.vm h11 b5 := (Safe.exa hZ.alike f16 (by decide) (by decide))
  have R18 := CHr.trans R13 (CHr.wr W15 sf17 R13.1)
  have V15 : Arv Z h15 b5 k5 .char (2 : Int32) [(.int (nar .char x4)), (.int (nar .char x5))] vI0 := Arv.set Arq14 qq14 Sq14 Nq14 Hq14 Gq14 (fits_nar_char _) W15 1 rfl (Nat.le_of_ble_eq_true rfl)
  have N15 := Fr.snoc X15 N11 g10
  obtain ⟨T19, h19, X19, e19, E19, A19, D19, -, st19⟩ := newO X15 hx hZ hown (w 2 rfl) (w 3 rfl) (w 4 rfl) e15 (g := (mkF m 67 #[lI x0, lI x1, lI x2, lI x3, lV vI2, lI x4, lI x5, lI x6, lR b5, lU, lU, lU] [])) rfl (hb hby at_67) (by decide) (by decide)
  obtain ⟨b19, g19⟩ : ∃ z, z = h15.size := ⟨_, rfl⟩
  have sf20 : Safe Z consts_1 s.vm h15 b19 := Safe.new (Nat.le_of_eq g19.symm)
  rw [← g19] at A19 D19 st19
  have R21 := CHr.trans R18 (CHr.ext E19 R18.1)
  have f22 : Fld Z h19 b19 "java/lang/String" "value" "[B" .null := D19 (Or.inr (w 17 rfl)) (ty := (.array .byte)) (by decide)
  have f23 : Fld Z h19 b19 "java/lang/String" "coder" "B" vI0 := D19 (Or.inr (w 18 rfl)) (ty := .byte) (by decide)
  have f24 := (V15.ext E19)
  have o26 := Old.ext O0 E5
  have o27 := Old.wr o26 W11 g10
  have o28 := Old.wr o27 W15 g10
  have o29 := Old.ext o28 E19
  have f30 := f25.ext o29.2
  have zz32 : n0 ≤ h15.size := by rw [← o28.1]; exact o28.2.1
  have g33 := Nat.le_trans zz32 (Nat.le_of_eq g19.symm)
  obtain ⟨_, T36, Lc36, X36, hQ36, st36⟩ := own_fin (X19.specialBack hx (y := mN1) rfl hown (mvT hZ (w 5 rfl)) (mvT hZ (w 6 rfl)) (mvT hZ (w 7 rfl)) (by decide) (own_newStr hZ hw (w 3 rfl) (cs := [(nar .char x4), (nar .char x5)]) (n := 2) g33 A19 f22 f23 f24 f30 hc31 rfl rfl (by decide) (by decide) (own_acS hc34 (own_acS hc35 own_ac0)) (own_bsS rfl (own_bsS rfl own_bs0)) (by decide) (by decide : 1 + 65 ≤ _)) (g := (mkF m 73 #[lI x0, lI x1, lI x2, lI x3, lV vI2, lI x4, lI x5, lI x6, lR b5, lU, lU, lU] [(.ref b5), (.ref b19), (.ref b19)])) rfl (by rw [hml]; rfl) (Steps.refl _) (a := b19) (argsL := [(.ref b5)]) (rest := [(.ref b19)]) (lenOf pd___C_V rfl) rfl (own_W rfl) (hb hby at_73) (fun _ _ => ⟨rfl, e19, (by decide : 2 + 1 ≤ _), (by decide : 6 + 2 ≤ _)⟩))
  obtain ⟨b36_0, k36_0, rfl, N36q, K36, f37, f38, f39, f40, f41, f42⟩ := hQ36
  have N36 := Fr.app N15 N36q
  have sf43 := (Safe.ext E19 R18.1 sf20)
  have R44 := CHr.trans R21 (CHr.keep K36 (sfS sf43 sf0) R21.1)
  have sf45 : Safe Z consts_1 s.vm h19 b36_0 := Safe.new f39
  have f46 := (A19.keep K36)
  have zs47 := K36.1
  have o48 := Old.keep o29 K36 (allS g33 all0)
  have hS49 := (State.WarmedH.refl s).since 0
  obtain ⟨_, _, ⟨T50, L50, k50, n50⟩, -, X50, hs50, hg50, ⟨Lc50, hQ50, l50, y50, z50, cr50⟩, st50⟩ := callSS X36 hx (y := mN25) hown (mvT hZ (w 23 rfl)) (mvT hZ (w 24 rfl)) (mvT hZ (w 25 rfl)) (mvT hZ (w 26 rfl)) (by decide) (backOfSH (s := s) (vm0 := s.vm) (W := 0) (rm4_5 l Z a0 hw [] b19 x7 b36_0 k36_0 ((nar .char x4).toInt8.toInt32) ((nar .char x5).toInt8.toInt32) T36.heap n0 o48 f25 hc31 f46 f38 (Nat.lt_of_lt_of_le A19.lt zs47) f40 f40.lt f37) hZ (w 26 rfl) (w 25 rfl) (by decide) (by decide) hEL R44.1) (g := (mkF m 80 #[lI x0, lI x1, lI x2, lI x3, lV vI2, lI x4, lI x5, lI x6, lR b5, lR b19, lU, lU] [(.ref b19)])) rfl (by rw [hml]; rfl) (argsL := [(.ref b19)]) (rest := []) (lenOf pd__Ljava_lang_String__Lcom_example_manojo_manojo_QueryTree_Parameter_ rfl) rfl (own_W rfl) (hb hby at_80) (fun _ _ => ⟨rfl, rfl, (by decide : 3 + 7 ≤ _), (by decide : 8 + 49 ≤ _)⟩)
  dsimp only [Pt.U, Pt.locs, Pt.cells, Pt.slots] at X50 l50 y50 z50 st50 hQ50 hs50 hg50 cr50
  subst l50 y50 z50
  obtain ⟨X50, hS50, hZ50, ho50⟩ := rebS (s := s) (vm0 := s.vm) hS49 ((Nat.zero_le _)) X50 hs50 hg50 hZ hown
  obtain ⟨b50_0, b50_1, b50_2, k50_0, rfl, N50q, K50, f51, f52, f53, f54, f55, f56, f57, f58, f59, f60, f61, f62, f63⟩ := hQ50
  have N50 := Fr.app N36 N50q
  have R64 := CHr.trans R44 cr50
  have o65 := Old.keep o48 K50 all0
  obtain ⟨_, T66, Lc66, X66, hQ66, st66⟩ := own_cV X50 hx hZ50 ho50 rfl (rm28_1 l Z a0 hw [] b50_0 b50_1 T50.heap n0 o65 f53) f52 (w 152 rfl) (w 153 rfl) (w 155 rfl) (w 154 rfl) (w 156 rfl) (w 25 rfl) (by decide) (W := 0) (by decide) (by decide) (by decide) (by decide) (g := (mkF m 87 #[lI x0, lI x1, lI x2, lI x3, lV vI2, lI x4, lI x5, lI x6, lR b5, lR b19, lR b50_0, lU] [(.ref b50_0)])) rfl (by rw [hml]; rfl) (argsL := []) (rest := []) (lenOf pd___Ljava_lang_String_ rfl) rfl (own_W rfl) (hb hby at_87)
  obtain ⟨rfl, N66q, E66⟩ := hQ66
  have N66 := Fr.app N50 N66q
  obtain ⟨_, T67, Lc67, X67, hQ67, st67⟩ := own_cV X66 hx hZ50 ho50 E66 (rm9_1 l Z a0 hw [] b50_1 b50_2 (3 : Int32) k50_0 ([vI58, (.int ((nar .char x4).toInt8.toInt32)), (.int ((nar .char x5).toInt8.toInt32))]) x7 (0 : Int32) T50.heap n0 o65 f57 f59 f55 f25 hc31 f56) f55 (w 157 rfl) (w 59 rfl) (w 61 rfl) (w 60 rfl) (w 62 rfl) (w 4 rfl) (by decide) (W := 0) (by decide) (by decide) (by decide) (by decide) (g := (mkF m 99 #[lI x0, lI x1, lI x2, lI x3, lV vI2, lI x4, lI x5, lI x6, lR b5, lR b19, lR b50_0, lR b50_1] [(.ref b50_1)])) rfl (by rw [hml]; rfl) (argsL := []) (rest := []) (lenOf pd___I rfl) rfl (own_W rfl) (hb hby at_99)
  obtain ⟨rfl, N67q, E67⟩ := hQ67
  have N67 := Fr.app N66 N67q
  obtain ⟨_, T70, Lc70, X70, hQ70, st70⟩ := own_cV X67 hx hZ50 ho50 E67 (rm29_1 l Z a0 hw [] b50_1 (0 : Int32) x7 (0 : Int32) b50_2 (3 : Int32) k50_0 ([vI58, (.int ((nar .char x4).toInt8.toInt32)), (.int ((nar .char x5).toInt8.toInt32))]) u8 (58 : Int32) T50.heap n0 o65 f55 f25 hc31 f56 (by decide) f57 f59 f68 hc69 (by decide) (by decide) (own_gd (n := 0) rfl rfl)) f55 (w 158 rfl) (w 159 rfl) (w 161 rfl) (w 160 rfl) (w 162 rfl) (w 4 rfl) (by decide) (W := 0) (by decide) (by decide) (by decide) (by decide) (g := (mkF m 114 #[lI x0, lI x1, lI x2, lI x3, lV vI2, lI x4, lI x5, lI x6, lR b5, lR b19, lR b50_0, lR b50_1] [vI0, (.ref b50_1)])) rfl (by rw [hml]; rfl) (argsL := [vI0]) (rest := []) (lenOf pd__I_C rfl) rfl (own_W rfl) (hb hby at_114)
  obtain ⟨rfl, N70q, E70⟩ := hQ70
  have N70 := Fr.app N67 N70q
  obtain ⟨_, T71, Lc71, X71, hQ71, st71⟩ := own_cV X70 hx hZ50 ho50 E70 (rm29_1 l Z a0 hw [] b50_1 (1 : Int32) x7 (0 : Int32) b50_2 (3 : Int32) k50_0 ([vI58, (.int ((nar .char x4).toInt8.toInt32)), (.int ((nar .char x5).toInt8.toInt32))]) u8 ((nar .char x4).toInt8.toInt32) T50.heap n0 o65 f55 f25 hc31 f56 (by decide) f57 f59 f68 hc69 (by decide) (by decide) (own_gd (n := 1) rfl rfl)) f55 (w 158 rfl) (w 159 rfl) (w 161 rfl) (w 160 rfl) (w 162 rfl) (w 4 rfl) (by decide) (W := 0) (by decide) (by decide) (by decide) (by decide) (g := (mkF m 132 #[lI x0, lI x1, lI x2, lI x3, lV vI2, lI x4, lI x5, lI x6, lR b5, lR b19, lR b50_0, lR b50_1] [vI1, (.ref b50_1)])) rfl (by rw [hml]; rfl) (argsL := [vI1]) (rest := []) (lenOf pd__I_C rfl) rfl (own_W rfl) (hb hby at_132)
  obtain ⟨rfl, N71q, E71⟩ := hQ71
  have N71 := Fr.app N70 N71q
  obtain ⟨_, T73, Lc73, X73, hQ73, st73⟩ := own_cV X71 hx hZ50 ho50 E71 (rm29_1 l Z a0 hw [] b50_1 (2 : Int32) x7 (0 : Int32) b50_2 (3 : Int32) k50_0 ([vI58, (.int ((nar .char x4).toInt8.toInt32)), (.int ((nar .char x5).toInt8.toInt32))]) u8 ((nar .char x5).toInt8.toInt32) T50.heap n0 o65 f55 f25 hc31 f56 (by decide) f57 f59 f68 hc69 (by decide) (by decide) (own_gd (n := 2) rfl rfl)) f55 (w 158 rfl) (w 159 rfl) (w 161 rfl) (w 160 rfl) (w 162 rfl) (w 4 rfl) (by decide) (W := 0) (by decide) (by decide) (by decide) (by decide) (g := (mkF m 151 #[lI x0, lI x1, lI x2, lI x3, lV vI2, lI x4, lI x5, lI x6, lR b5, lR b19, lR b50_0, lR b50_1] [vI2, (.ref b50_1)])) rfl (by rw [hml]; rfl) (argsL := [vI2]) (rest := []) (lenOf pd__I_C rfl) rfl (own_W rfl) (hb hby at_151)
  obtain ⟨rfl, N73q, E73⟩ := hQ73
  have N73 := Fr.app N71 N73q
  refine ⟨some vI1, _, _, _, _, _, _, _, nofun, X73, by decide, by decide, hS50, (by rw [E73]; exact (Nat.le_refl _)), hZ50, E73, R64, ?_, fun fs hr => ?_⟩
  · rw [E73]; exact ⟨rfl, N73⟩
  · show SG p e below s₁ (mkF m 0 #[lI x0, lI x1, lI x2, lI x3, lU, lU, lU, lU, lU, lU, lU, lU] []) _
    refine qiN X0 hx hby at_0 ?_
    refine qc X0 hx hby at_1 ?_
    refine XS.iand X0.here hx rfl (hb hby at_2) rfl ?_
    show SG p e below s₁ (mkF m 3 #[lI x0, lI x1, lI x2, lI x3, lU, lU, lU, lU, lU, lU, lU, lU] [(.int (x0 &&& (3 : Int32)))]) _
    rw [hc1]
    refine XS.istore X0.here hx rfl (hb hby at_3) rfl (l' := #[lI x0, lI x1, lI x2, lI x3, lV vI2, lU, lU, lU, lU, lU, lU, lU]) rfl ?_
    refine qiN X0 hx hby at_5 ?_
    refine X0.ldcInt hx hown (mvT hZ (w 0 rfl)) (g := (mkF m 6 #[lI x0, lI x1, lI x2, lI x3, lV vI2, lU, lU, lU, lU, lU, lU, lU] [(.int x1)])) rfl (hb hby at_6) _ ?_
    refine XS.iand X0.here hx rfl (hb hby at_8) rfl ?_
    refine XS.i2c X0.here hx rfl (hb hby at_9) rfl ?_
    show SG p e below s₁ (mkF m 10 #[lI x0, lI x1, lI x2, lI x3, lV vI2, lU, lU, lU, lU, lU, lU, lU] [(.int ((x1 &&& (65535 : Int32)).toUInt32.toUInt16.toUInt32.toInt32))]) _
    rw [hq2]
    refine XS.istore X0.here hx rfl (hb hby at_10) rfl (l' := #[lI x0, lI x1, lI x2, lI x3, lV vI2, lI x4, lU, lU, lU, lU, lU, lU]) rfl ?_
    refine qiN X0 hx hby at_12 ?_
    show SG p e below s₁ (mkF m 13 #[lI x0, lI x1, lI x2, lI x3, lV vI2, lI x4, lU, lU, lU, lU, lU, lU] [(.int x2)]) _
    refine X0.ldcInt hx hown (mvT hZ (w 0 rfl)) (g := (mkF m 13 #[lI x0, lI x1, lI x2, lI x3, lV vI2, lI x4, lU, lU, lU, lU, lU, lU] [(.int x2)])) rfl (hb hby at_13) _ ?_
    refine XS.iand X0.here hx rfl (hb hby at_15) rfl ?_
    refine XS.i2c X0.here hx rfl (hb hby at_16) rfl ?_
    show SG p e below s₁ (mkF m 17 #[lI x0, lI x1, lI x2, lI x3, lV vI2, lI x4, lU, lU, lU, lU, lU, lU] [(.int ((x2 &&& (65535 : Int32)).toUInt32.toUInt16.toUInt32.toInt32))]) _
    rw [hq3]
    refine XS.istore X0.here hx rfl (hb hby at_17) rfl (l' := #[lI x0, lI x1, lI x2, lI x3, lV vI2, lI x4, lI x5, lU, lU, lU, lU, lU]) rfl ?_
    refine qiN X0 hx hby at_19 ?_
    refine X0.ldcInt hx hown (mvT hZ (w 0 rfl)) (g := (mkF m 20 #[lI x0, lI x1, lI x2, lI x3, lV vI2, lI x4, lI x5, lU, lU, lU, lU, lU] [(.int x3)])) rfl (hb hby at_20) _ ?_
    refine XS.iand X0.here hx rfl (hb hby at_22) rfl ?_
    refine XS.i2c X0.here hx rfl (hb hby at_23) rfl ?_
    show SG p e below s₁ (mkF m 24 #[lI x0, lI x1, lI x2, lI x3, lV vI2, lI x4, lI x5, lU, lU, lU, lU, lU] [(.int ((x3 &&& (65535 : Int32)).toUInt32.toUInt16.toUInt32.toInt32))]) _
    rw [hq4]
    refine XS.istore X0.here hx rfl (hb hby at_24) rfl (l' := #[lI x0, lI x1, lI x2, lI x3, lV vI2, lI x4, lI x5, lI x6, lU, lU, lU, lU]) rfl ?_
    refine qi X0 hx hby at_26 ?_
    show SG p e below s₁ (mkF m 28 #[lI x0, lI x1, lI x2, lI x3, lV vI2, lI x4, lI x5, lI x6, lU, lU, lU, lU] [vI2]) _
    refine st5 _ ?_
    refine XS.astore X5.here hx rfl (hb hby at_30) rfl rfl (l' := #[lI x0, lI x1, lI x2, lI x3, lV vI2, lI x4, lI x5, lI x6, lR b5, lU, lU, lU]) rfl ?_
    refine qi X5 hx hby at_32 ?_
    refine XS.ifNo X5.here hx rfl (hb hby at_34) rfl ((if0 _ _).trans (tlt (by decide : (0 : Int32) < (2 : Int32))).2.2.2) ?_
    refine qa X5 hx hby at_37 ?_
    refine qc X5 hx hby at_39 ?_
    refine qi X5 hx hby at_40 ?_
    refine st11 _ ?_
    refine qi X11 hx hby at_43 ?_
    refine qc X11 hx hby at_45 ?_
    show SG p e below T11 (mkF m 46 #[lI x0, lI x1, lI x2, lI x3, lV vI2, lI x4, lI x5, lI x6, lR b5, lU, lU, lU] [vI1, vI2]) _
    refine XS.icmpNo X11.here hx rfl (hb hby at_46) rfl (tlt (by decide : (1 : Int32) < (2 : Int32))).2.2.2 ?_
    refine qa X11 hx hby at_49 ?_
    refine qc X11 hx hby at_51 ?_
    refine qi X11 hx hby at_52 ?_
    refine st15 _ ?_
    refine qi X15 hx hby at_55 ?_
    refine qc X15 hx hby at_57 ?_
    refine XS.icmpYes X15.here hx rfl (pc0 := 58) (pc' := 67) rfl (hb hby at_58) rfl (flt (by decide : ¬ ((2 : Int32) < (2 : Int32)))).2.2.2 (by decide) (by decide) ?_
    refine st19 _ ?_
    refine qd X19 hx hby at_70 ?_
    show SG p e below T19 (mkF m 71 #[lI x0, lI x1, lI x2, lI x3, lV vI2, lI x4, lI x5, lI x6, lR b5, lU, lU, lU] [(.ref b19), (.ref b19)]) _
    refine qa X19 hx hby at_71 ?_
    refine st36.trans ?_
    refine XS.astore X36.here hx rfl (hb hby at_76) rfl rfl (l' := #[lI x0, lI x1, lI x2, lI x3, lV vI2, lI x4, lI x5, lI x6, lR b5, lR b19, lU, lU]) rfl ?_
    refine qa X36 hx hby at_78 ?_
    refine st50.trans ?_
    refine XS.astore X50.here hx rfl (hb hby at_83) rfl rfl (l' := #[lI x0, lI x1, lI x2, lI x3, lV vI2, lI x4, lI x5, lI x6, lR b5, lR b19, lR b50_0, lU]) rfl ?_
    refine qa X50 hx hby at_85 ?_
    refine st66 _ ?_
    refine XS.astore X66.here hx rfl (hb hby at_90) rfl rfl (l' := #[lI x0, lI x1, lI x2, lI x3, lV vI2, lI x4, lI x5, lI x6, lR b5, lR b19, lR b50_0, lR b50_1]) rfl ?_
    refine qa X66 hx hby at_92 ?_
    show SG p e below T66 (mkF m 94 #[lI x0, lI x1, lI x2, lI x3, lV vI2, lI x4, lI x5, lI x6, lR b5, lR b19, lR b50_0, lR b50_1] [(.ref b50_1)]) _
    refine XS.ifnullNo X66.here hx rfl (hb hby at_94) rfl ?_
    refine qa X66 hx hby at_97 ?_
    refine st67 _ ?_
    refine qi X67 hx hby at_102 ?_
    refine qc X67 hx hby at_104 ?_
    refine XS.iadd X67.here hx rfl (hb hby at_105) rfl ?_
    refine XS.icmpYes X67.here hx rfl (pc0 := 106) (pc' := 111) rfl (hb hby at_106) rfl (teq (rfl : (3 : Int32) = (3 : Int32))).1 (by decide) (by decide) ?_
    refine qa X67 hx hby at_111 ?_
    refine qc X67 hx hby at_113 ?_
    refine st70 _ ?_
    show SG p e below T70 (mkF m 117 #[lI x0, lI x1, lI x2, lI x3, lV vI2, lI x4, lI x5, lI x6, lR b5, lR b19, lR b50_0, lR b50_1] [vI58]) _
    refine qb X70 hx hby at_117 ?_
    refine XS.icmpYes X70.here hx rfl (pc0 := 119) (pc' := 124) rfl (hb hby at_119) rfl (teq (rfl : (58 : Int32) = (58 : Int32))).1 (by decide) (by decide) ?_
    refine qi X70 hx hby at_124 ?_
    refine XS.ifNo X70.here hx rfl (hb hby at_126) rfl ((if0 _ _).trans (tlt (by decide : (0 : Int32) < (2 : Int32))).2.2.2) ?_
    refine qa X70 hx hby at_129 ?_
    refine qc X70 hx hby at_131 ?_
    refine st71 _ ?_
    refine qi X71 hx hby at_135 ?_
    refine XS.icmpYes X71.here hx rfl (pc0 := 137) (pc' := 142) rfl (hb hby at_137) rfl (teq hc72).1 (by decide) (by decide) ?_
    refine qi X71 hx hby at_142 ?_
    show SG p e below T71 (mkF m 144 #[lI x0, lI x1, lI x2, lI x3, lV vI2, lI x4, lI x5, lI x6, lR b5, lR b19, lR b50_0, lR b50_1] [vI2]) _
    refine qc X71 hx hby at_144 ?_
    refine XS.icmpNo X71.here hx rfl (hb hby at_145) rfl (tlt (by decide : (1 : Int32) < (2 : Int32))).2.2.2 ?_
    refine qa X71 hx hby at_148 ?_
    refine qc X71 hx hby at_150 ?_
    refine st73 _ ?_
    refine qi X73 hx hby at_154 ?_
    refine XS.icmpYes X73.here hx rfl (pc0 := 156) (pc' := 161) rfl (hb hby at_156) rfl (teq hc74).1 (by decide) (by decide) ?_
    refine qi X73 hx hby at_161 ?_
    refine qc X73 hx hby at_163 ?_
    refine XS.icmpYes X73.here hx rfl (pc0 := 164) (pc' := 180) rfl (hb hby at_164) rfl (flt (by decide : ¬ ((2 : Int32) < (2 : Int32)))).2.2.2 (by decide) (by decide) ?_
    show SG p e below T73 (mkF m 180 #[lI x0, lI x1, lI x2, lI x3, lV vI2, lI x4, lI x5, lI x6, lR b5, lR b19, lR b50_0, lR b50_1] []) _
    refine qc X73 hx hby at_180 ?_
    exact retN X73 hx (t := .boolean) hret (by simp) (hb hby at_181) hr
def Q35_4 (Z : State) (r0 r1 : Addr) (c2 : ClassId) (x3 x4 x5 : Int32) (h0 : Heap) (n0 : Nat) (v : Option Value) (h : Heap) (L : List Loc) : Prop := v = some vI0 ∧ Fr n0 L ∧ h = h0
theorem rm35_4 (l : Launch) (Z : State) (a0 : Array Value) (hw : own_HW a0 Z) (ws : List Jvm.Cond) (r0 r1 : Addr) (c2 : ClassId) (x3 x4 x5 : Int32) (h0 : Heap) (n0 : Nat) (O0 : Old Z n0 h0) (f1 : Arv Z h0 r0 c2 .char (3 : Int32) [(.int x3), (.int x4), (.int x5)] vI0) (hc3 : (255 : Int32) < x3) :
    own_MF l mN32 jdk_52_method_21_code 7 (some .int) ws rR0_0_0_0 Z h0 #[(.ref r0), vI0, (.ref r1), vI0, vI3] (Q35_4 Z r0 r1 c2 x3 x4 x5 h0 n0) := by
  refine own_open (plainFor_of_name pn_java_lang_StringUTF16) (L0 := #[lR r0, lV vI0, lR r1, lV vI0, lV vI3, lU, lU]) (fun _ => by first | (simp [entryFrame, mkF, argsToLocals, Value.category]; done) | rfl) ?_
  intro p e s m below meth c s₁ hx hby hml hret hnn hZ hown X0 e0
  have N0 := Fr.nil n0
  obtain ⟨clq2, Arq2, qq2, Sq2, Nq2, Hq2, Gq2⟩ := id f1
  refine ⟨some vI0, _, _, _, _, nofun, X0, by decide, by decide, ?_, fun fs hr => ?_⟩
  · rw [e0]; exact ⟨rfl, N0, rfl⟩
  · show SG p e below s₁ (mkF m 0 #[lR r0, lV vI0, lR r1, lV vI0, lV vI3, lU, lU] []) _
    refine qc X0 hx hby d35_0 ?_
    refine XS.istore X0.here hx rfl (hb hby d35_1) rfl (l' := #[lR r0, lV vI0, lR r1, lV vI0, lV vI3, lV vI0, lU]) rfl ?_
    refine qi X0 hx hby d35_3 ?_
    refine qi X0 hx hby d35_5 ?_
    refine XS.icmpNo X0.here hx rfl (hb hby d35_7) rfl (tlt (by decide : (0 : Int32) < (3 : Int32))).2.1 ?_
    refine qaN X0 hx hby d35_10 ?_
    refine qiN X0 hx hby d35_11 ?_
    refine X0.caload hx (j := (0 : Int32)) (v := (.int x3)) (by rw [e0]; exact Arq2.1) (State.isArrayOf_alike hZ.alike Arq2.2.1) Arq2.2.2 (inb_of Sq2 ⟨(by decide : ¬ ((0 : Int32) < (0 : Int32))), (by decide : (0 : Int32) < (3 : Int32))⟩) (Has.at Hq2 (inb_of Sq2 ⟨(by decide : ¬ ((0 : Int32) < (0 : Int32))), (by decide : (0 : Int32) < (3 : Int32))⟩) rfl) (g := (mkF m 12 #[lR r0, lV vI0, lR r1, lV vI0, lV vI3, lV vI0, lU] [vI0, (.ref r0)])) rfl rfl (hb hby d35_12) _ ?_
    refine XS.istore X0.here hx rfl (hb hby d35_13) rfl (l' := #[lR r0, lV vI0, lR r1, lV vI0, lV vI3, lV vI0, lI x3]) rfl ?_
    refine qi X0 hx hby d35_15 ?_
    show SG p e below s₁ (mkF m 17 #[lR r0, lV vI0, lR r1, lV vI0, lV vI3, lV vI0, lI x3] [(.int x3)]) _
    refine XS.sipush X0.here hx rfl (hb hby d35_17) ?_
    refine XS.icmpNo X0.here hx rfl (hb hby d35_20) rfl (tlt hc3).2.2.2 ?_
    refine qi X0 hx hby d35_23 ?_
    exact retOut X0 hx (i := .ireturn) hret rfl (Or.inl ⟨rfl, Or.inl rfl, _, rfl⟩) (hb hby d35_25) hr
def Q39_4 (Z : State)  (h0 : Heap) (n0 : Nat) (v : Option Value) (h : Heap) (L : List Loc) : Prop := v = some vI6 ∧ Fr n0 L ∧ h = h0
theorem rm39_4 (l : Launch) (Z : State) (a0 : Array Value) (hw : own_HW a0 Z) (ws : List Jvm.Cond)  (h0 : Heap) (n0 : Nat) (O0 : Old Z n0 h0) :
    own_MF l mN33 jdk_52_method_3_code 1 (some .int) ws rR0_0_0_0 Z h0 #[vI3] (Q39_4 Z  h0 n0) := by
  refine own_open (plainFor_of_name pn_java_lang_StringUTF16) (L0 := #[lV vI3]) (fun _ => by first | (simp [entryFrame, mkF, argsToLocals, Value.category]; done) | rfl) ?_
  intro p e s m below meth c s₁ hx hby hml hret hnn hZ hown X0 e0
  have N0 := Fr.nil n0
  refine ⟨some vI6, _, _, _, _, nofun, X0, by decide, by decide, ?_, fun fs hr => ?_⟩
  · rw [e0]; exact ⟨rfl, N0, rfl⟩
  · show SG p e below s₁ (mkF m 0 #[lV vI3] []) _
    refine qiN X0 hx hby d39_0 ?_
    refine XS.ifYes X0.here hx rfl (pc0 := 1) (pc' := 12) rfl (hb hby d39_1) rfl ((if0 _ _).trans (flt (by decide : ¬ ((3 : Int32) < (0 : Int32)))).2.1) (by decide) (by decide) ?_
    refine qiN X0 hx hby d39_12 ?_
    refine X0.ldcInt hx hown (mvT hZ (ww hw 199 rfl)) (g := (mkF m 13 #[lV vI3] [vI3])) rfl (hb hby d39_13) _ ?_
    refine XS.icmpYes X0.here hx rfl (pc0 := 15) (pc' := 55) rfl (hb hby d39_15) rfl (tlt (by decide : (3 : Int32) < (1073741823 : Int32))).1 (by decide) (by decide) ?_
    refine qiN X0 hx hby d39_55 ?_
    refine qc X0 hx hby d39_56 ?_
    refine XS.ishl X0.here hx rfl (hb hby d39_57) rfl ?_
    exact retOut X0 hx (i := .ireturn) hret rfl (Or.inl ⟨rfl, Or.inl rfl, _, rfl⟩) (hb hby d39_58) hr
def Q38_4 (Z : State)  (h0 : Heap) (n0 : Nat) (v : Option Value) (h : Heap) (L : List Loc) : Prop := ∃ (b2 : Addr) (k2 : ClassId), v = some (.ref b2) ∧ Fr n0 L ∧ Keep h0 h [] ∧ h0.size ≤ b2 ∧ Arv Z h b2 k2 .byte (6 : Int32) [vI0, vI0, vI0, vI0, vI0, vI0] vI0 ∧ Exa Z h b2 "[B"
theorem rm38_4 (l : Launch) (Z : State) (a0 : Array Value) (hw : own_HW a0 Z) (ws : List Jvm.Cond)  (h0 : Heap) (n0 : Nat) (O0 : Old Z n0 h0) :
    own_MF l mN34 jdk_52_method_2_code 1 (some (.array .byte)) ws rR1_1_6_12 Z h0 #[vI3] (Q38_4 Z  h0 n0) := by
  refine own_open (plainFor_of_name pn_java_lang_StringUTF16) (L0 := #[lV vI3]) (fun _ => by first | (simp [entryFrame, mkF, argsToLocals, Value.category]; done) | rfl) ?_
  intro p e s m below meth c s₁ hx hby hml hret hnn hZ hown X0 e0
  have N0 := Fr.nil n0; have w := @ww Z a0 hw
  obtain ⟨_, T1, Lc1, X1, hQ1, st1⟩ := own_cS X0 hx hZ hown e0 (rm39_4 l Z a0 hw [] h0 n0 O0) (w 196 rfl) (w 197 rfl) (w 182 rfl) (w 198 rfl) (by decide) (W := 0) (by decide) (by decide) (by decide) (by decide) (g := (mkF m 1 #[lV vI3] [vI3])) rfl (by rw [hml]; rfl) (argsL := [vI3]) (rest := []) (lenOf pd__I_I rfl) rfl (own_W rfl) (hb hby d38_1)
  obtain ⟨rfl, N1q, E1⟩ := hQ1
  have N1 := Fr.app N0 N1q
  obtain ⟨T2, h2, k2, X2, e2, E2, A2, B2, st2⟩ := newPE X1 hx hZ (w 16 rfl) E1 (g := (mkF m 4 #[lV vI3] [vI6])) rfl (hb hby d38_4) rfl (by decide) (cap := 6) (by decide) (by decide) (by decide) (by decide) (ad := "[B") rfl
  obtain ⟨b2, g2⟩ : ∃ z, z = h0.size := ⟨_, rfl⟩
  rw [← g2] at A2 B2 st2
  have V2 : Arv Z h2 b2 k2 .byte (6 : Int32) [vI0, vI0, vI0, vI0, vI0, vI0] vI0 := (Arv.new A2 (by decide)).pad (pad_rep [] vI0 6)
  have kp3 : Keep h0 h2 [] := (Keep.refl h0 []).ext E2
  refine ⟨some (.ref b2), _, _, _, _, nofun, X2, by decide, by decide, ?_, fun fs hr => ?_⟩
  · rw [e2]; exact ⟨b2, k2, rfl, N1, kp3, (Nat.le_of_eq g2.symm), V2, B2⟩
  · show SG p e below s₁ (mkF m 0 #[lV vI3] []) _
    refine qiN X0 hx hby d38_0 ?_
    refine st1 _ ?_
    refine st2 _ ?_
    exact retOut X2 hx (i := .areturn) hret rfl (Or.inr (Or.inr (Or.inr (Or.inr ⟨rfl, rfl, rfl⟩)))) (hb hby d38_6) hr
def Q40_5 (Z : State) (r0 : Addr) (x1 : Int32) (c2 : ClassId) (h0 : Heap) (n0 : Nat) (v : Option Value) (h : Heap) (L : List Loc) : Prop := v = none ∧ Fr n0 L ∧ Keep h0 h [r0] ∧ Arv Z h r0 c2 .byte (6 : Int32) [(.int (((x1 >>> ((0 : Int32) &&& 31)).toInt8.toInt32).toInt8.toInt32)), (.int (((x1 >>> ((8 : Int32) &&& 31)).toInt8.toInt32).toInt8.toInt32)), vI0, vI0, vI0, vI0] vI0
theorem rm40_5 (l : Launch) (Z : State) (a0 : Array Value) (hw : own_HW a0 Z) (ws : List Jvm.Cond) (r0 : Addr) (x1 : Int32) (c2 : ClassId) (h0 : Heap) (n0 : Nat) (O0 : Old Z n0 h0) (f1 : Sta Z Z.heap "java/lang/StringUTF16" "$assertionsDisabled" "Z" vI1) (f4 : Sta Z Z.heap "java/lang/StringUTF16" "HI_BYTE_SHIFT" "I" vI0) (f7 : Arv Z h0 r0 c2 .byte (6 : Int32) [vI0, vI0, vI0, vI0, vI0, vI0] vI0) (g9 : n0 ≤ r0) (f11 : Sta Z Z.heap "java/lang/StringUTF16" "LO_BYTE_SHIFT" "I" vI8) :
    own_MF l mN35 jdk_52_method_4_code 3 none ws rR0_0_0_0 Z h0 #[(.ref r0), vI0, (.int x1)] (Q40_5 Z r0 x1 c2 h0 n0) := by
  refine own_open (plainFor_of_name pn_java_lang_StringUTF16) (L0 := #[lR r0, lV vI0, lI x1]) (fun _ => by first | (simp [entryFrame, mkF, argsToLocals, Value.category]; done) | rfl) ?_
  intro p e s m below meth c s₁ hx hby hml hret hnn hZ hown X0 e0
  have N0 := Fr.nil n0
  have f2 := f1.ext O0.2
  obtain ⟨T3, X3, e3, st3⟩ := getS2 X0 hx hZ hown (host := "") (Or.inl (ww hw 203 rfl)) Via.refl e0 f2 (g := (mkF m 0 #[lR r0, lV vI0, lI x1] [])) rfl (hb hby d40_0)
  have f5 := f4.ext O0.2
  obtain ⟨T6, X6, e6, st6⟩ := getS2 X3 hx hZ hown (host := "") (Or.inl (ww hw 204 rfl)) Via.refl e3 f5 (g := (mkF m 38 #[lR r0, lV vI1, lI x1] [(.int x1), vI0, (.ref r0)])) rfl (hb hby d40_38)
  obtain ⟨clq8, Arq8, qq8, Sq8, Nq8, Hq8, Gq8⟩ := id f7
  obtain ⟨T10, h10, X10, e10, W10, st10⟩ := stB X6 hx hZ e6 Arq8 (j := (0 : Int32)) (inb_of Sq8 ⟨(by decide : ¬ ((0 : Int32) < (0 : Int32))), (by decide : (0 : Int32) < (6 : Int32))⟩) (g := (mkF m 43 #[lR r0, lV vI1, lI x1] [(.int ((x1 >>> ((0 : Int32) &&& 31)).toInt8.toInt32)), vI0, (.ref r0)])) rfl rfl (hb hby d40_43)
  have V10 : Arv Z h10 r0 c2 .byte (6 : Int32) [(.int (((x1 >>> ((0 : Int32) &&& 31)).toInt8.toInt32).toInt8.toInt32)), vI0, vI0, vI0, vI0, vI0] vI0 := Arv.set Arq8 qq8 Sq8 Nq8 Hq8 Gq8 (fits_nar_byte _) W10 0 rfl (Nat.le_of_ble_eq_true rfl)
  have N10 := Fr.snoc X10 N0 g9
  have o12 := Old.wr O0 W10 g9
  have f13 := f11.ext o12.2
  obtain ⟨T14, X14, e14, st14⟩ := getS2 X10 hx hZ hown (host := "") (Or.inl (ww hw 205 rfl)) Via.refl e10 f13 (g := (mkF m 47 #[lR r0, lV vI1, lI x1] [(.int x1), vI1, (.ref r0)])) rfl (hb hby d40_47)
  obtain ⟨clq15, Arq15, qq15, Sq15, Nq15, Hq15, Gq15⟩ := id V10
  obtain ⟨T16, h16, X16, e16, W16, st16⟩ := stB X14 hx hZ e14 Arq15 (j := (1 : Int32)) (inb_of Sq15 ⟨(by decide : ¬ ((1 : Int32) < (0 : Int32))), (by decide : (1 : Int32) < (6 : Int32))⟩) (g := (mkF m 52 #[lR r0, lV vI1, lI x1] [(.int ((x1 >>> ((8 : Int32) &&& 31)).toInt8.toInt32)), vI1, (.ref r0)])) rfl rfl (hb hby d40_52)
  have V16 : Arv Z h16 r0 c2 .byte (6 : Int32) [(.int (((x1 >>> ((0 : Int32) &&& 31)).toInt8.toInt32).toInt8.toInt32)), (.int (((x1 >>> ((8 : Int32) &&& 31)).toInt8.toInt32).toInt8.toInt32)), vI0, vI0, vI0, vI0] vI0 := Arv.set Arq15 qq15 Sq15 Nq15 Hq15 Gq15 (fits_nar_byte _) W16 1 rfl (Nat.le_of_ble_eq_true rfl)
  have N16 := Fr.snoc X16 N10 g9
  have kp17 : Keep h0 h10 [r0] := (Keep.refl h0 [r0]).wr W10 (Or.inl (List.mem_of_getElem? (i := 0) rfl))
  have kp18 : Keep h0 h16 [r0] := kp17.wr W16 (Or.inl (List.mem_of_getElem? (i := 0) rfl))
  refine ⟨none, _, _, _, _, (fun _ => rfl), X16, by decide, by decide, ?_, fun fs hr => ?_⟩
  · rw [e16]; exact ⟨rfl, N16, kp18, V16⟩
  · show SG p e below s₁ (mkF m 0 #[lR r0, lV vI0, lI x1] []) _
    refine st3 _ ?_
    refine XS.ifYes X3.here hx rfl (pc0 := 3) (pc' := 28) rfl (hb hby d40_3) rfl ((if0 _ _).trans (feq (by decide : ¬ ((1 : Int32) = (0 : Int32)))).2) (by decide) (by decide) ?_
    refine qiN X3 hx hby d40_28 ?_
    refine qc X3 hx hby d40_29 ?_
    refine XS.ishl X3.here hx rfl (hb hby d40_30) rfl ?_
    refine XS.istoreN X3.here hx rfl (hb hby d40_31) rfl (l' := #[lR r0, lV vI0, lI x1]) rfl ?_
    refine qaN X3 hx hby d40_32 ?_
    refine qiN X3 hx hby d40_33 ?_
    refine XS.iinc X3.here hx rfl (hb hby d40_34) rfl (l' := #[lR r0, lV vI1, lI x1]) rfl ?_
    refine qiN X3 hx hby d40_37 ?_
    show SG p e below T3 (mkF m 38 #[lR r0, lV vI1, lI x1] [(.int x1), vI0, (.ref r0)]) _
    refine st6 _ ?_
    refine XS.ishr X6.here hx rfl (hb hby d40_41) rfl ?_
    refine XS.i2b X6.here hx rfl (hb hby d40_42) rfl ?_
    refine st10 _ ?_
    refine qaN X10 hx hby d40_44 ?_
    refine qiN X10 hx hby d40_45 ?_
    refine qiN X10 hx hby d40_46 ?_
    refine st14 _ ?_
    refine XS.ishr X14.here hx rfl (hb hby d40_50) rfl ?_
    refine XS.i2b X14.here hx rfl (hb hby d40_51) rfl ?_
    show SG p e below T14 (mkF m 52 #[lR r0, lV vI1, lI x1] [(.int ((x1 >>> ((8 : Int32) &&& 31)).toInt8.toInt32)), vI1, (.ref r0)]) _
    refine st16 _ ?_
    exact X16.returnOut hx hret (hb hby d40_53) hr
def Q40_6 (Z : State) (r0 : Addr) (x1 : Int32) (c2 : ClassId) (x3 x4 : Int32) (h0 : Heap) (n0 : Nat) (v : Option Value) (h : Heap) (L : List Loc) : Prop := v = none ∧ Fr n0 L ∧ Keep h0 h [r0] ∧ Arv Z h r0 c2 .byte (6 : Int32) [(.int x3), (.int x4), (.int (((x1 >>> ((0 : Int32) &&& 31)).toInt8.toInt32).toInt8.toInt32)), (.int (((x1 >>> ((8 : Int32) &&& 31)).toInt8.toInt32).toInt8.toInt32)), vI0, vI0] vI0
theorem rm40_6 (l : Launch) (Z : State) (a0 : Array Value) (hw : own_HW a0 Z) (ws : List Jvm.Cond) (r0 : Addr) (x1 : Int32) (c2 : ClassId) (x3 x4 : Int32) (h0 : Heap) (n0 : Nat) (O0 : Old Z n0 h0) (f1 : Sta Z Z.heap "java/lang/StringUTF16" "$assertionsDisabled" "Z" vI1) (f4 : Sta Z Z.heap "java/lang/StringUTF16" "HI_BYTE_SHIFT" "I" vI0) (f7 : Arv Z h0 r0 c2 .byte (6 : Int32) [(.int x3), (.int x4), vI0, vI0, vI0, vI0] vI0) (g9 : n0 ≤ r0) (f11 : Sta Z Z.heap "java/lang/StringUTF16" "LO_BYTE_SHIFT" "I" vI8) :
    own_MF l mN35 jdk_52_method_4_code 3 none ws rR0_0_0_0 Z h0 #[(.ref r0), vI1, (.int x1)] (Q40_6 Z r0 x1 c2 x3 x4 h0 n0) := by
  refine own_open (plainFor_of_name pn_java_lang_StringUTF16) (L0 := #[lR r0, lV vI1, lI x1]) (fun _ => by first | (simp [entryFrame, mkF, argsToLocals, Value.category]; done) | rfl) ?_
  intro p e s m below meth c s₁ hx hby hml hret hnn hZ hown X0 e0
  have N0 := Fr.nil n0
  have f2 := f1.ext O0.2
  obtain ⟨T3, X3, e3, st3⟩ := getS2 X0 hx hZ hown (host := "") (Or.inl (ww hw 203 rfl)) Via.refl e0 f2 (g := (mkF m 0 #[lR r0, lV vI1, lI x1] [])) rfl (hb hby d40_0)
  have f5 := f4.ext O0.2
  obtain ⟨T6, X6, e6, st6⟩ := getS2 X3 hx hZ hown (host := "") (Or.inl (ww hw 204 rfl)) Via.refl e3 f5 (g := (mkF m 38 #[lR r0, lV vI3, lI x1] [(.int x1), vI2, (.ref r0)])) rfl (hb hby d40_38)
  obtain ⟨clq8, Arq8, qq8, Sq8, Nq8, Hq8, Gq8⟩ := id f7
  obtain ⟨T10, h10, X10, e10, W10, st10⟩ := stB X6 hx hZ e6 Arq8 (j := (2 : Int32)) (inb_of Sq8 ⟨(by decide : ¬ ((2 : Int32) < (0 : Int32))), (by decide : (2 : Int32) < (6 : Int32))⟩) (g := (mkF m 43 #[lR r0, lV vI3, lI x1] [(.int ((x1 >>> ((0 : Int32) &&& 31)).toInt8.toInt32)), vI2, (.ref r0)])) rfl rfl (hb hby d40_43)
  have V10 : Arv Z h10 r0 c2 .byte (6 : Int32) [(.int x3), (.int x4), (.int (((x1 >>> ((0 : Int32) &&& 31)).toInt8.toInt32).toInt8.toInt32)), vI0, vI0, vI0] vI0 := Arv.set Arq8 qq8 Sq8 Nq8 Hq8 Gq8 (fits_nar_byte _) W10 2 rfl (Nat.le_of_ble_eq_true rfl)
  have N10 := Fr.snoc X10 N0 g9
  have o12 := Old.wr O0 W10 g9
  have f13 := f11.ext o12.2
  obtain ⟨T14, X14, e14, st14⟩ := getS2 X10 hx hZ hown (host := "") (Or.inl (ww hw 205 rfl)) Via.refl e10 f13 (g := (mkF m 47 #[lR r0, lV vI3, lI x1] [(.int x1), vI3, (.ref r0)])) rfl (hb hby d40_47)
  obtain ⟨clq15, Arq15, qq15, Sq15, Nq15, Hq15, Gq15⟩ := id V10
  obtain ⟨T16, h16, X16, e16, W16, st16⟩ := stB X14 hx hZ e14 Arq15 (j := (3 : Int32)) (inb_of Sq15 ⟨(by decide : ¬ ((3 : Int32) < (0 : Int32))), (by decide : (3 : Int32) < (6 : Int32))⟩) (g := (mkF m 52 #[lR r0, lV vI3, lI x1] [(.int ((x1 >>> ((8 : Int32) &&& 31)).toInt8.toInt32)), vI3, (.ref r0)])) rfl rfl (hb hby d40_52)
  have V16 : Arv Z h16 r0 c2 .byte (6 : Int32) [(.int x3), (.int x4), (.int (((x1 >>> ((0 : Int32) &&& 31)).toInt8.toInt32).toInt8.toInt32)), (.int (((x1 >>> ((8 : Int32) &&& 31)).toInt8.toInt32).toInt8.toInt32)), vI0, vI0] vI0 := Arv.set Arq15 qq15 Sq15 Nq15 Hq15 Gq15 (fits_nar_byte _) W16 3 rfl (Nat.le_of_ble_eq_true rfl)
  have N16 := Fr.snoc X16 N10 g9
  have kp17 : Keep h0 h10 [r0] := (Keep.refl h0 [r0]).wr W10 (Or.inl (List.mem_of_getElem? (i := 0) rfl))
  have kp18 : Keep h0 h16 [r0] := kp17.wr W16 (Or.inl (List.mem_of_getElem? (i := 0) rfl))
  refine ⟨none, _, _, _, _, (fun _ => rfl), X16, by decide, by decide, ?_, fun fs hr => ?_⟩
  · rw [e16]; exact ⟨rfl, N16, kp18, V16⟩
  · show SG p e below s₁ (mkF m 0 #[lR r0, lV vI1, lI x1] []) _
    refine st3 _ ?_
    refine XS.ifYes X3.here hx rfl (pc0 := 3) (pc' := 28) rfl (hb hby d40_3) rfl ((if0 _ _).trans (feq (by decide : ¬ ((1 : Int32) = (0 : Int32)))).2) (by decide) (by decide) ?_
    refine qiN X3 hx hby d40_28 ?_
    refine qc X3 hx hby d40_29 ?_
    refine XS.ishl X3.here hx rfl (hb hby d40_30) rfl ?_
    refine XS.istoreN X3.here hx rfl (hb hby d40_31) rfl (l' := #[lR r0, lV vI2, lI x1]) rfl ?_
    refine qaN X3 hx hby d40_32 ?_
    refine qiN X3 hx hby d40_33 ?_
    refine XS.iinc X3.here hx rfl (hb hby d40_34) rfl (l' := #[lR r0, lV vI3, lI x1]) rfl ?_
    refine qiN X3 hx hby d40_37 ?_
    show SG p e below T3 (mkF m 38 #[lR r0, lV vI3, lI x1] [(.int x1), vI2, (.ref r0)]) _
    refine st6 _ ?_
    refine XS.ishr X6.here hx rfl (hb hby d40_41) rfl ?_
    refine XS.i2b X6.here hx rfl (hb hby d40_42) rfl ?_
    refine st10 _ ?_
    refine qaN X10 hx hby d40_44 ?_
    refine qiN X10 hx hby d40_45 ?_
    refine qiN X10 hx hby d40_46 ?_
    refine st14 _ ?_
    refine XS.ishr X14.here hx rfl (hb hby d40_50) rfl ?_
    refine XS.i2b X14.here hx rfl (hb hby d40_51) rfl ?_
    show SG p e below T14 (mkF m 52 #[lR r0, lV vI3, lI x1] [(.int ((x1 >>> ((8 : Int32) &&& 31)).toInt8.toInt32)), vI3, (.ref r0)]) _
    refine st16 _ ?_
    exact X16.returnOut hx hret (hb hby d40_53) hr
def Q40_7 (Z : State) (r0 : Addr) (x1 : Int32) (c2 : ClassId) (x3 x4 : Int32) (x5 x6 : Int32) (h0 : Heap) (n0 : Nat) (v : Option Value) (h : Heap) (L : List Loc) : Prop := v = none ∧ Fr n0 L ∧ Keep h0 h [r0] ∧ Arv Z h r0 c2 .byte (6 : Int32) [(.int x3), (.int x4), (.int x5), (.int x6), (.int (((x1 >>> ((0 : Int32) &&& 31)).toInt8.toInt32).toInt8.toInt32)), (.int (((x1 >>> ((8 : Int32) &&& 31)).toInt8.toInt32).toInt8.toInt32))] vI0
theorem rm40_7 (l : Launch) (Z : State) (a0 : Array Value) (hw : own_HW a0 Z) (ws : List Jvm.Cond) (r0 : Addr) (x1 : Int32) (c2 : ClassId) (x3 x4 : Int32) (x5 x6 : Int32) (h0 : Heap) (n0 : Nat) (O0 : Old Z n0 h0) (f1 : Sta Z Z.heap "java/lang/StringUTF16" "$assertionsDisabled" "Z" vI1) (f4 : Sta Z Z.heap "java/lang/StringUTF16" "HI_BYTE_SHIFT" "I" vI0) (f7 : Arv Z h0 r0 c2 .byte (6 : Int32) [(.int x3), (.int x4), (.int x5), (.int x6), vI0, vI0] vI0) (g9 : n0 ≤ r0) (f11 : Sta Z Z.heap "java/lang/StringUTF16" "LO_BYTE_SHIFT" "I" vI8) :
    own_MF l mN35 jdk_52_method_4_code 3 none ws rR0_0_0_0 Z h0 #[(.ref r0), vI2, (.int x1)] (Q40_7 Z r0 x1 c2 x3 x4 x5 x6 h0 n0) := by
  refine own_open (plainFor_of_name pn_java_lang_StringUTF16) (L0 := #[lR r0, lV vI2, lI x1]) (fun _ => by first | (simp [entryFrame, mkF, argsToLocals, Value.category]; done) | rfl) ?_
  intro p e s m below meth c s₁ hx hby hml hret hnn hZ hown X0 e0
  have N0 := Fr.nil n0
  have f2 := f1.ext O0.2
  obtain ⟨T3, X3, e3, st3⟩ := getS2 X0 hx hZ hown (host := "") (Or.inl (ww hw 203 rfl)) Via.refl e0 f2 (g := (mkF m 0 #[lR r0, lV vI2, lI x1] [])) rfl (hb hby d40_0)
  have f5 := f4.ext O0.2
  obtain ⟨T6, X6, e6, st6⟩ := getS2 X3 hx hZ hown (host := "") (Or.inl (ww hw 204 rfl)) Via.refl e3 f5 (g := (mkF m 38 #[lR r0, lV vI5, lI x1] [(.int x1), vI4, (.ref r0)])) rfl (hb hby d40_38)
  obtain ⟨clq8, Arq8, qq8, Sq8, Nq8, Hq8, Gq8⟩ := id f7
  obtain ⟨T10, h10, X10, e10, W10, st10⟩ := stB X6 hx hZ e6 Arq8 (j := (4 : Int32)) (inb_of Sq8 ⟨(by decide : ¬ ((4 : Int32) < (0 : Int32))), (by decide : (4 : Int32) < (6 : Int32))⟩) (g := (mkF m 43 #[lR r0, lV vI5, lI x1] [(.int ((x1 >>> ((0 : Int32) &&& 31)).toInt8.toInt32)), vI4, (.ref r0)])) rfl rfl (hb hby d40_43)
  have V10 : Arv Z h10 r0 c2 .byte (6 : Int32) [(.int x3), (.int x4), (.int x5), (.int x6), (.int (((x1 >>> ((0 : Int32) &&& 31)).toInt8.toInt32).toInt8.toInt32)), vI0] vI0 := Arv.set Arq8 qq8 Sq8 Nq8 Hq8 Gq8 (fits_nar_byte _) W10 4 rfl (Nat.le_of_ble_eq_true rfl)
  have N10 := Fr.snoc X10 N0 g9
  have o12 := Old.wr O0 W10 g9
  have f13 := f11.ext o12.2
  obtain ⟨T14, X14, e14, st14⟩ := getS2 X10 hx hZ hown (host := "") (Or.inl (ww hw 205 rfl)) Via.refl e10 f13 (g := (mkF m 47 #[lR r0, lV vI5, lI x1] [(.int x1), vI5, (.ref r0)])) rfl (hb hby d40_47)
  obtain ⟨clq15, Arq15, qq15, Sq15, Nq15, Hq15, Gq15⟩ := id V10
  obtain ⟨T16, h16, X16, e16, W16, st16⟩ := stB X14 hx hZ e14 Arq15 (j := (5 : Int32)) (inb_of Sq15 ⟨(by decide : ¬ ((5 : Int32) < (0 : Int32))), (by decide : (5 : Int32) < (6 : Int32))⟩) (g := (mkF m 52 #[lR r0, lV vI5, lI x1] [(.int ((x1 >>> ((8 : Int32) &&& 31)).toInt8.toInt32)), vI5, (.ref r0)])) rfl rfl (hb hby d40_52)
  have V16 : Arv Z h16 r0 c2 .byte (6 : Int32) [(.int x3), (.int x4), (.int x5), (.int x6), (.int (((x1 >>> ((0 : Int32) &&& 31)).toInt8.toInt32).toInt8.toInt32)), (.int (((x1 >>> ((8 : Int32) &&& 31)).toInt8.toInt32).toInt8.toInt32))] vI0 := Arv.set Arq15 qq15 Sq15 Nq15 Hq15 Gq15 (fits_nar_byte _) W16 5 rfl (Nat.le_of_ble_eq_true rfl)
  have N16 := Fr.snoc X16 N10 g9
  have kp17 : Keep h0 h10 [r0] := (Keep.refl h0 [r0]).wr W10 (Or.inl (List.mem_of_getElem? (i := 0) rfl))
  have kp18 : Keep h0 h16 [r0] := kp17.wr W16 (Or.inl (List.mem_of_getElem? (i := 0) rfl))
  refine ⟨none, _, _, _, _, (fun _ => rfl), X16, by decide, by decide, ?_, fun fs hr => ?_⟩
  · rw [e16]; exact ⟨rfl, N16, kp18, V16⟩
  · show SG p e below s₁ (mkF m 0 #[lR r0, lV vI2, lI x1] []) _
    refine st3 _ ?_
    refine XS.ifYes X3.here hx rfl (pc0 := 3) (pc' := 28) rfl (hb hby d40_3) rfl ((if0 _ _).trans (feq (by decide : ¬ ((1 : Int32) = (0 : Int32)))).2) (by decide) (by decide) ?_
    refine qiN X3 hx hby d40_28 ?_
    refine qc X3 hx hby d40_29 ?_
    refine XS.ishl X3.here hx rfl (hb hby d40_30) rfl ?_
    refine XS.istoreN X3.here hx rfl (hb hby d40_31) rfl (l' := #[lR r0, lV vI4, lI x1]) rfl ?_
    refine qaN X3 hx hby d40_32 ?_
    refine qiN X3 hx hby d40_33 ?_
    refine XS.iinc X3.here hx rfl (hb hby d40_34) rfl (l' := #[lR r0, lV vI5, lI x1]) rfl ?_
    refine qiN X3 hx hby d40_37 ?_
    show SG p e below T3 (mkF m 38 #[lR r0, lV vI5, lI x1] [(.int x1), vI4, (.ref r0)]) _
    refine st6 _ ?_
    refine XS.ishr X6.here hx rfl (hb hby d40_41) rfl ?_
    refine XS.i2b X6.here hx rfl (hb hby d40_42) rfl ?_
    refine st10 _ ?_
    refine qaN X10 hx hby d40_44 ?_
    refine qiN X10 hx hby d40_45 ?_
    refine qiN X10 hx hby d40_46 ?_
    refine st14 _ ?_
    refine XS.ishr X14.here hx rfl (hb hby d40_50) rfl ?_
    refine XS.i2b X14.here hx rfl (hb hby d40_51) rfl ?_
    show SG p e below T14 (mkF m 52 #[lR r0, lV vI5, lI x1] [(.int ((x1 >>> ((8 : Int32) &&& 31)).toInt8.toInt32)), vI5, (.ref r0)]) _
    refine st16 _ ?_
    exact X16.returnOut hx hret (hb hby d40_53) hr
def Q37_3 (Z : State) (r0 : Addr) (c1 : ClassId) (x2 x3 x4 : Int32) (h0 : Heap) (n0 : Nat) (v : Option Value) (h : Heap) (L : List Loc) : Prop := ∃ (b1_0 : Addr) (k1_0 : ClassId), v = some (.ref b1_0) ∧ Fr n0 L ∧ Keep h0 h [] ∧ h0.size ≤ b1_0 ∧ Exa Z h b1_0 "[B" ∧ Arv Z h b1_0 k1_0 .byte (6 : Int32) [(.int (((x2 >>> ((0 : Int32) &&& 31)).toInt8.toInt32).toInt8.toInt32)), (.int (((x2 >>> ((8 : Int32) &&& 31)).toInt8.toInt32).toInt8.toInt32)), (.int (((x3 >>> ((0 : Int32) &&& 31)).toInt8.toInt32).toInt8.toInt32)), (.int (((x3 >>> ((8 : Int32) &&& 31)).toInt8.toInt32).toInt8.toInt32)), (.int (((x4 >>> ((0 : Int32) &&& 31)).toInt8.toInt32).toInt8.toInt32)), (.int (((x4 >>> ((8 : Int32) &&& 31)).toInt8.toInt32).toInt8.toInt32))] vI0
theorem rm37_3 (l : Launch) (Z : State) (a0 : Array Value) (hw : own_HW a0 Z) (ws : List Jvm.Cond) (r0 : Addr) (c1 : ClassId) (x2 x3 x4 : Int32) (h0 : Heap) (n0 : Nat) (O0 : Old Z n0 h0) (f5 : Arv Z h0 r0 c1 .char (3 : Int32) [(.int x2), (.int x3), (.int x4)] vI0) (f8 : Sta Z Z.heap "java/lang/StringUTF16" "$assertionsDisabled" "Z" vI1) (f9 : Sta Z Z.heap "java/lang/StringUTF16" "HI_BYTE_SHIFT" "I" vI0) (f12 : Sta Z Z.heap "java/lang/StringUTF16" "LO_BYTE_SHIFT" "I" vI8) (l16 : r0 < h0.size) :
    own_MF l mN36 jdk_52_method_14_code 5 (some (.array .byte)) ws rR2_1_6_24 Z h0 #[(.ref r0), vI0, vI3] (Q37_3 Z r0 c1 x2 x3 x4 h0 n0) := by
  refine own_open (plainFor_of_name pn_java_lang_StringUTF16) (L0 := #[lR r0, lV vI0, lV vI3, lU, lU]) (fun _ => by first | (simp [entryFrame, mkF, argsToLocals, Value.category]; done) | rfl) ?_
  intro p e s m below meth c s₁ hx hby hml hret hnn hZ hown X0 e0
  have N0 := Fr.nil n0; have w := @ww Z a0 hw
  obtain ⟨_, T1, Lc1, X1, hQ1, st1⟩ := own_cS X0 hx hZ hown e0 (rm38_4 l Z a0 hw [] h0 n0 O0) (w 193 rfl) (w 194 rfl) (w 182 rfl) (w 195 rfl) (by decide) (W := 0) (by decide) (by decide) (by decide) (by decide) (g := (mkF m 1 #[lR r0, lV vI0, lV vI3, lU, lU] [vI3])) rfl (by rw [hml]; rfl) (argsL := [vI3]) (rest := []) (lenOf pd__I__B rfl) rfl (own_W rfl) (hb hby d37_1)
  obtain ⟨b1_0, k1_0, rfl, N1q, K1, f2, f3, f4⟩ := hQ1
  have N1 := Fr.app N0 N1q
  have f6 := (f5.keep K1 nin0)
  obtain ⟨clq7, Arq7, qq7, Sq7, Nq7, Hq7, Gq7⟩ := id f6
  have zz10 : n0 ≤ h0.size := by rw [← O0.1]; exact O0.2.1
  have g11 := Nat.le_trans zz10 f2
  have o13 := Old.keep O0 K1 all0
  obtain ⟨_, T14, Lc14, X14, hQ14, st14⟩ := own_cS X1 hx hZ hown rfl (rm40_5 l Z a0 hw [] b1_0 x2 k1_0 T1.heap n0 o13 f8 f9 f3 g11 f12) (w 200 rfl) (w 201 rfl) (w 182 rfl) (w 202 rfl) (by decide) (W := 0) (by decide) (by decide) (by decide) (by decide) (g := (mkF m 20 #[lR r0, lV vI0, lV vI3, lR b1_0, lV vI0] [(.int x2), vI0, (.ref b1_0)])) rfl (by rw [hml]; rfl) (argsL := [(.ref b1_0), vI0, (.int x2)]) (rest := []) (lenOf pd___BII_V rfl) rfl (own_W rfl) (hb hby d37_20)
  obtain ⟨rfl, N14q, K14, f15⟩ := hQ14
  have N14 := Fr.app N1 N14q
  have n17 := Nat.ne_of_lt (Nat.lt_of_lt_of_le l16 f2)
  have f18 := (f6.keep K14 (ninS n17 nin0))
  obtain ⟨clq19, Arq19, qq19, Sq19, Nq19, Hq19, Gq19⟩ := id f18
  have o20 := Old.keep o13 K14 (allS g11 all0)
  obtain ⟨_, T21, Lc21, X21, hQ21, st21⟩ := own_cS X14 hx hZ hown rfl (rm40_6 l Z a0 hw [] b1_0 x3 k1_0 (((x2 >>> ((0 : Int32) &&& 31)).toInt8.toInt32).toInt8.toInt32) (((x2 >>> ((8 : Int32) &&& 31)).toInt8.toInt32).toInt8.toInt32) T14.heap n0 o20 f8 f9 f15 g11 f12) (w 200 rfl) (w 201 rfl) (w 182 rfl) (w 202 rfl) (by decide) (W := 0) (by decide) (by decide) (by decide) (by decide) (g := (mkF m 20 #[lR r0, lV vI1, lV vI3, lR b1_0, lV vI1] [(.int x3), vI1, (.ref b1_0)])) rfl (by rw [hml]; rfl) (argsL := [(.ref b1_0), vI1, (.int x3)]) (rest := []) (lenOf pd___BII_V rfl) rfl (own_W rfl) (hb hby d37_20)
  obtain ⟨rfl, N21q, K21, f22⟩ := hQ21
  have N21 := Fr.app N14 N21q
  have f23 := (f18.keep K21 (ninS n17 nin0))
  obtain ⟨clq24, Arq24, qq24, Sq24, Nq24, Hq24, Gq24⟩ := id f23
  have o25 := Old.keep o20 K21 (allS g11 all0)
  obtain ⟨_, T26, Lc26, X26, hQ26, st26⟩ := own_cS X21 hx hZ hown rfl (rm40_7 l Z a0 hw [] b1_0 x4 k1_0 (((x2 >>> ((0 : Int32) &&& 31)).toInt8.toInt32).toInt8.toInt32) (((x2 >>> ((8 : Int32) &&& 31)).toInt8.toInt32).toInt8.toInt32) (((x3 >>> ((0 : Int32) &&& 31)).toInt8.toInt32).toInt8.toInt32) (((x3 >>> ((8 : Int32) &&& 31)).toInt8.toInt32).toInt8.toInt32) T21.heap n0 o25 f8 f9 f22 g11 f12) (w 200 rfl) (w 201 rfl) (w 182 rfl) (w 202 rfl) (by decide) (W := 0) (by decide) (by decide) (by decide) (by decide) (g := (mkF m 20 #[lR r0, lV vI2, lV vI3, lR b1_0, lV vI2] [(.int x4), vI2, (.ref b1_0)])) rfl (by rw [hml]; rfl) (argsL := [(.ref b1_0), vI2, (.int x4)]) (rest := []) (lenOf pd___BII_V rfl) rfl (own_W rfl) (hb hby d37_20)
  obtain ⟨rfl, N26q, K26, f27⟩ := hQ26
  have N26 := Fr.app N21 N26q
  have f28 := (((f4.keep K14).keep K21).keep K26)
  have kp29 : Keep h0 T1.heap [] := (Keep.refl h0 []).trans K1 all0
  have kp30 : Keep h0 T14.heap [] := kp29.trans K14 (allS (Or.inr f2) all0)
  have kp31 : Keep h0 T21.heap [] := kp30.trans K21 (allS (Or.inr f2) all0)
  have kp32 : Keep h0 T26.heap [] := kp31.trans K26 (allS (Or.inr f2) all0)
  refine ⟨some (.ref b1_0), _, _, _, _, nofun, X26, by decide, by decide, ?_, fun fs hr => ?_⟩
  · exact ⟨b1_0, k1_0, rfl, N26, kp32, f2, f28, f27⟩
  · show SG p e below s₁ (mkF m 0 #[lR r0, lV vI0, lV vI3, lU, lU] []) _
    refine qiN X0 hx hby d37_0 ?_
    refine st1 _ ?_
    refine XS.astoreN X1.here hx rfl (hb hby d37_4) rfl rfl (l' := #[lR r0, lV vI0, lV vI3, lR b1_0, lU]) rfl ?_
    refine qc X1 hx hby d37_5 ?_
    refine XS.istore X1.here hx rfl (hb hby d37_6) rfl (l' := #[lR r0, lV vI0, lV vI3, lR b1_0, lV vI0]) rfl ?_
    refine qi X1 hx hby d37_8 ?_
    refine qiN X1 hx hby d37_10 ?_
    refine XS.icmpNo X1.here hx rfl (hb hby d37_11) rfl (tlt (by decide : (0 : Int32) < (3 : Int32))).2.1 ?_
    refine qaN X1 hx hby d37_14 ?_
    refine qi X1 hx hby d37_15 ?_
    show SG p e below T1 (mkF m 17 #[lR r0, lV vI0, lV vI3, lR b1_0, lV vI0] [vI0, (.ref b1_0)]) _
    refine qaN X1 hx hby d37_17 ?_
    refine qiN X1 hx hby d37_18 ?_
    refine X1.caload hx (j := (0 : Int32)) (v := (.int x2)) (Arq7.1) (State.isArrayOf_alike hZ.alike Arq7.2.1) Arq7.2.2 (inb_of Sq7 ⟨(by decide : ¬ ((0 : Int32) < (0 : Int32))), (by decide : (0 : Int32) < (3 : Int32))⟩) (Has.at Hq7 (inb_of Sq7 ⟨(by decide : ¬ ((0 : Int32) < (0 : Int32))), (by decide : (0 : Int32) < (3 : Int32))⟩) rfl) (g := (mkF m 19 #[lR r0, lV vI0, lV vI3, lR b1_0, lV vI0] [vI0, (.ref r0), vI0, (.ref b1_0)])) rfl rfl (hb hby d37_19) _ ?_
    refine st14 _ ?_
    refine XS.iinc X14.here hx rfl (hb hby d37_23) rfl (l' := #[lR r0, lV vI1, lV vI3, lR b1_0, lV vI0]) rfl ?_
    refine XS.iinc X14.here hx rfl (hb hby d37_26) rfl (l' := #[lR r0, lV vI1, lV vI3, lR b1_0, lV vI1]) rfl ?_
    refine XS.goto X14.here hx rfl (pc0 := 29) (pc' := 8) rfl (hb hby d37_29) (by decide) (by decide) ?_
    refine qi X14 hx hby d37_8 ?_
    refine qiN X14 hx hby d37_10 ?_
    refine XS.icmpNo X14.here hx rfl (hb hby d37_11) rfl (tlt (by decide : (1 : Int32) < (3 : Int32))).2.1 ?_
    show SG p e below T14 (mkF m 14 #[lR r0, lV vI1, lV vI3, lR b1_0, lV vI1] []) _
    refine qaN X14 hx hby d37_14 ?_
    refine qi X14 hx hby d37_15 ?_
    refine qaN X14 hx hby d37_17 ?_
    refine qiN X14 hx hby d37_18 ?_
    refine X14.caload hx (j := (1 : Int32)) (v := (.int x3)) (Arq19.1) (State.isArrayOf_alike hZ.alike Arq19.2.1) Arq19.2.2 (inb_of Sq19 ⟨(by decide : ¬ ((1 : Int32) < (0 : Int32))), (by decide : (1 : Int32) < (3 : Int32))⟩) (Has.at Hq19 (inb_of Sq19 ⟨(by decide : ¬ ((1 : Int32) < (0 : Int32))), (by decide : (1 : Int32) < (3 : Int32))⟩) rfl) (g := (mkF m 19 #[lR r0, lV vI1, lV vI3, lR b1_0, lV vI1] [vI1, (.ref r0), vI1, (.ref b1_0)])) rfl rfl (hb hby d37_19) _ ?_
    refine st21 _ ?_
    refine XS.iinc X21.here hx rfl (hb hby d37_23) rfl (l' := #[lR r0, lV vI2, lV vI3, lR b1_0, lV vI1]) rfl ?_
    refine XS.iinc X21.here hx rfl (hb hby d37_26) rfl (l' := #[lR r0, lV vI2, lV vI3, lR b1_0, lV vI2]) rfl ?_
    refine XS.goto X21.here hx rfl (pc0 := 29) (pc' := 8) rfl (hb hby d37_29) (by decide) (by decide) ?_
    refine qi X21 hx hby d37_8 ?_
    show SG p e below T21 (mkF m 10 #[lR r0, lV vI2, lV vI3, lR b1_0, lV vI2] [vI2]) _
    refine qiN X21 hx hby d37_10 ?_
    refine XS.icmpNo X21.here hx rfl (hb hby d37_11) rfl (tlt (by decide : (2 : Int32) < (3 : Int32))).2.1 ?_
    refine qaN X21 hx hby d37_14 ?_
    refine qi X21 hx hby d37_15 ?_
    refine qaN X21 hx hby d37_17 ?_
    refine qiN X21 hx hby d37_18 ?_
    refine X21.caload hx (j := (2 : Int32)) (v := (.int x4)) (Arq24.1) (State.isArrayOf_alike hZ.alike Arq24.2.1) Arq24.2.2 (inb_of Sq24 ⟨(by decide : ¬ ((2 : Int32) < (0 : Int32))), (by decide : (2 : Int32) < (3 : Int32))⟩) (Has.at Hq24 (inb_of Sq24 ⟨(by decide : ¬ ((2 : Int32) < (0 : Int32))), (by decide : (2 : Int32) < (3 : Int32))⟩) rfl) (g := (mkF m 19 #[lR r0, lV vI2, lV vI3, lR b1_0, lV vI2] [vI2, (.ref r0), vI2, (.ref b1_0)])) rfl rfl (hb hby d37_19) _ ?_
    refine st26 _ ?_
    refine XS.iinc X26.here hx rfl (hb hby d37_23) rfl (l' := #[lR r0, lV vI3, lV vI3, lR b1_0, lV vI2]) rfl ?_
    refine XS.iinc X26.here hx rfl (hb hby d37_26) rfl (l' := #[lR r0, lV vI3, lV vI3, lR b1_0, lV vI3]) rfl ?_
    show SG p e below T26 (mkF m 29 #[lR r0, lV vI3, lV vI3, lR b1_0, lV vI3] []) _
    refine XS.goto X26.here hx rfl (pc0 := 29) (pc' := 8) rfl (hb hby d37_29) (by decide) (by decide) ?_
    refine qi X26 hx hby d37_8 ?_
    refine qiN X26 hx hby d37_10 ?_
    refine XS.icmpYes X26.here hx rfl (pc0 := 11) (pc' := 32) rfl (hb hby d37_11) rfl (flt (by decide : ¬ ((3 : Int32) < (3 : Int32)))).2.1 (by decide) (by decide) ?_
    refine qaN X26 hx hby d37_32 ?_
    exact retOut X26 hx (i := .areturn) hret rfl (Or.inr (Or.inr (Or.inr (Or.inr ⟨rfl, rfl, rfl⟩)))) (hb hby d37_33) hr
def Q34_4 (Z : State) (r0 : Addr) (c1 : ClassId) (x2 x3 x4 : Int32) (h0 : Heap) (n0 : Nat) (v : Option Value) (h : Heap) (L : List Loc) : Prop := ∃ (b12_0 : Addr) (k12_0 : ClassId), v = some (.ref b12_0) ∧ Fr n0 L ∧ Keep h0 h [] ∧ h0.size ≤ b12_0 ∧ Exa Z h b12_0 "[B" ∧ Arv Z h b12_0 k12_0 .byte (6 : Int32) [(.int (((x2 >>> ((0 : Int32) &&& 31)).toInt8.toInt32).toInt8.toInt32)), (.int (((x2 >>> ((8 : Int32) &&& 31)).toInt8.toInt32).toInt8.toInt32)), (.int (((x3 >>> ((0 : Int32) &&& 31)).toInt8.toInt32).toInt8.toInt32)), (.int (((x3 >>> ((8 : Int32) &&& 31)).toInt8.toInt32).toInt8.toInt32)), (.int (((x4 >>> ((0 : Int32) &&& 31)).toInt8.toInt32).toInt8.toInt32)), (.int (((x4 >>> ((8 : Int32) &&& 31)).toInt8.toInt32).toInt8.toInt32))] vI0
theorem rm34_4 (l : Launch) (Z : State) (a0 : Array Value) (hw : own_HW a0 Z) (ws : List Jvm.Cond) (r0 : Addr) (c1 : ClassId) (x2 x3 x4 : Int32) (h0 : Heap) (n0 : Nat) (O0 : Old Z n0 h0) (f2 : Arv Z h0 r0 c1 .char (3 : Int32) [(.int x2), (.int x3), (.int x4)] vI0) (hc4 : (255 : Int32) < x2) (f7 : Sta Z Z.heap "java/lang/StringUTF16" "$assertionsDisabled" "Z" vI1) (f8 : Sta Z Z.heap "java/lang/StringUTF16" "HI_BYTE_SHIFT" "I" vI0) (f9 : Sta Z Z.heap "java/lang/StringUTF16" "LO_BYTE_SHIFT" "I" vI8) (l10 : r0 < h0.size) (hc18 : (255 : Int32) < (nar .char (((((((x2 >>> ((0 : Int32) &&& 31)).toInt8.toInt32).toInt8.toInt32) &&& (255 : Int32)) <<< ((0 : Int32) &&& 31)) ||| (((((x2 >>> ((8 : Int32) &&& 31)).toInt8.toInt32).toInt8.toInt32) &&& (255 : Int32)) <<< ((8 : Int32) &&& 31))).toUInt32.toUInt16.toUInt32.toInt32))) :
    own_MF l mN38 jdk_52_method_16_code 6 (some (.array .byte)) ws rR3_2_9_40 Z h0 #[(.ref r0), vI0, vI3] (Q34_4 Z r0 c1 x2 x3 x4 h0 n0) := by
  refine own_open (plainFor_of_name pn_java_lang_StringUTF16) (L0 := #[lR r0, lV vI0, lV vI3, lU, lU, lU]) (fun _ => by first | (simp [entryFrame, mkF, argsToLocals, Value.category]; done) | rfl) ?_
  intro p e s m below meth c s₁ hx hby hml hret hnn hZ hown X0 e0
  have N0 := Fr.nil n0; have w := @ww Z a0 hw
  obtain ⟨T1, h1, k1, X1, e1, E1, A1, B1, st1⟩ := newPE X0 hx hZ (w 16 rfl) e0 (g := (mkF m 1 #[lR r0, lV vI0, lV vI3, lU, lU, lU] [vI3])) rfl (hb hby d34_1) rfl (by decide) (cap := 3) (by decide) (by decide) (by decide) (by decide) (ad := "[B") rfl
  obtain ⟨b1, g1⟩ : ∃ z, z = h0.size := ⟨_, rfl⟩
  rw [← g1] at A1 B1 st1
  have V1 : Arv Z h1 b1 k1 .byte (3 : Int32) [vI0, vI0, vI0] vI0 := (Arv.new A1 (by decide)).pad (pad_rep [] vI0 3)
  have f3 := (f2.ext E1)
  have o5 := Old.ext O0 E1
  obtain ⟨_, T6, Lc6, X6, hQ6, st6⟩ := own_cS X1 hx hZ hown e1 (rm35_4 l Z a0 hw [] r0 b1 c1 x2 x3 x4 h1 n0 o5 f3 hc4) (w 184 rfl) (w 185 rfl) (w 182 rfl) (w 186 rfl) (by decide) (W := 0) (by decide) (by decide) (by decide) (by decide) (g := (mkF m 9 #[lR r0, lV vI0, lV vI3, lR b1, lU, lU] [vI3, vI0, (.ref b1), vI0, (.ref r0)])) rfl (by rw [hml]; rfl) (argsL := [(.ref r0), vI0, (.ref b1), vI0, vI3]) (rest := []) (lenOf pd___CI_BII_I rfl) rfl (own_W rfl) (hb hby d34_9)
  obtain ⟨rfl, N6q, E6⟩ := hQ6
  have N6 := Fr.app N0 N6q
  have zs11 := E1.1
  obtain ⟨_, T12, Lc12, X12, hQ12, st12⟩ := own_cS X6 hx hZ hown E6 (rm37_3 l Z a0 hw [] r0 c1 x2 x3 x4 h1 n0 o5 f3 f7 f8 f9 (Nat.lt_of_lt_of_le l10 zs11)) (w 190 rfl) (w 191 rfl) (w 182 rfl) (w 192 rfl) (by decide) (W := 0) (by decide) (by decide) (by decide) (by decide) (g := (mkF m 23 #[lR r0, lV vI0, lV vI3, lR b1, lV vI0, lU] [vI3, vI0, (.ref r0)])) rfl (by rw [hml]; rfl) (argsL := [(.ref r0), vI0, vI3]) (rest := []) (lenOf pd___CII__B rfl) rfl (own_W rfl) (hb hby d34_23)
  obtain ⟨b12_0, k12_0, rfl, N12q, K12, f13, f14, f15⟩ := hQ12
  have N12 := Fr.app N6 N12q
  have o16 := Old.keep o5 K12 all0
  obtain ⟨_, T17, Lc17, X17, hQ17, st17⟩ := own_cS X12 hx hZ hown rfl (rm41_1 l Z a0 hw [] b12_0 (0 : Int32) (6 : Int32) k12_0 ([(.int (((x2 >>> ((0 : Int32) &&& 31)).toInt8.toInt32).toInt8.toInt32)), (.int (((x2 >>> ((8 : Int32) &&& 31)).toInt8.toInt32).toInt8.toInt32)), (.int (((x3 >>> ((0 : Int32) &&& 31)).toInt8.toInt32).toInt8.toInt32)), (.int (((x3 >>> ((8 : Int32) &&& 31)).toInt8.toInt32).toInt8.toInt32)), (.int (((x4 >>> ((0 : Int32) &&& 31)).toInt8.toInt32).toInt8.toInt32)), (.int (((x4 >>> ((8 : Int32) &&& 31)).toInt8.toInt32).toInt8.toInt32))]) (((x2 >>> ((0 : Int32) &&& 31)).toInt8.toInt32).toInt8.toInt32) (((x2 >>> ((8 : Int32) &&& 31)).toInt8.toInt32).toInt8.toInt32) T12.heap n0 o16 f7 f15 (own_gd (n := 0) rfl rfl) (by decide) (by decide) f8 (own_gd (n := 1) rfl rfl) (by decide) (by decide) f9) (w 206 rfl) (w 207 rfl) (w 182 rfl) (w 208 rfl) (by decide) (W := 0) (by decide) (by decide) (by decide) (by decide) (g := (mkF m 32 #[lR r0, lV vI0, lV vI3, lR b1, lV vI0, lR b12_0] [vI0, (.ref b12_0)])) rfl (by rw [hml]; rfl) (argsL := [(.ref b12_0), vI0]) (rest := []) (lenOf pd___BI_C rfl) rfl (own_W rfl) (hb hby d34_32)
  obtain ⟨rfl, N17q, E17⟩ := hQ17
  have N17 := Fr.app N12 N17q
  have kp19 : Keep h0 h1 [] := (Keep.refl h0 []).ext E1
  have kp20 : Keep h0 T12.heap [] := kp19.trans K12 all0
  refine ⟨some (.ref b12_0), _, _, _, _, nofun, X17, by decide, by decide, ?_, fun fs hr => ?_⟩
  · rw [E17]; exact ⟨b12_0, k12_0, rfl, N17, kp20, (Nat.le_trans zs11 f13), f14, f15⟩
  · show SG p e below s₁ (mkF m 0 #[lR r0, lV vI0, lV vI3, lU, lU, lU] []) _
    refine qiN X0 hx hby d34_0 ?_
    refine st1 _ ?_
    refine XS.astoreN X1.here hx rfl (hb hby d34_3) rfl rfl (l' := #[lR r0, lV vI0, lV vI3, lR b1, lU, lU]) rfl ?_
    refine qaN X1 hx hby d34_4 ?_
    refine qiN X1 hx hby d34_5 ?_
    refine qaN X1 hx hby d34_6 ?_
    refine qc X1 hx hby d34_7 ?_
    refine qiN X1 hx hby d34_8 ?_
    refine st6 _ ?_
    refine XS.istore X6.here hx rfl (hb hby d34_12) rfl (l' := #[lR r0, lV vI0, lV vI3, lR b1, lV vI0, lU]) rfl ?_
    show SG p e below T6 (mkF m 14 #[lR r0, lV vI0, lV vI3, lR b1, lV vI0, lU] []) _
    refine qi X6 hx hby d34_14 ?_
    refine qiN X6 hx hby d34_16 ?_
    refine XS.icmpNo X6.here hx rfl (hb hby d34_17) rfl (feq (by decide : ¬ ((0 : Int32) = (3 : Int32)))).1 ?_
    refine qaN X6 hx hby d34_20 ?_
    refine qiN X6 hx hby d34_21 ?_
    refine qiN X6 hx hby d34_22 ?_
    refine st12 _ ?_
    refine XS.astore X12.here hx rfl (hb hby d34_26) rfl rfl (l' := #[lR r0, lV vI0, lV vI3, lR b1, lV vI0, lR b12_0]) rfl ?_
    refine qa X12 hx hby d34_28 ?_
    refine qi X12 hx hby d34_30 ?_
    show SG p e below T12 (mkF m 32 #[lR r0, lV vI0, lV vI3, lR b1, lV vI0, lR b12_0] [vI0, (.ref b12_0)]) _
    refine st17 _ ?_
    refine XS.sipush X17.here hx rfl (hb hby d34_35) ?_
    refine XS.icmpYes X17.here hx rfl (pc0 := 38) (pc' := 54) rfl (hb hby d34_38) rfl (tlt hc18).2.2.1 (by decide) (by decide) ?_
    refine qa X17 hx hby d34_54 ?_
    exact retOut X17 hx (i := .areturn) hret rfl (Or.inr (Or.inr (Or.inr (Or.inr ⟨rfl, rfl, rfl⟩)))) (hb hby d34_56) hr
def Q36_3 (Z : State) (r0 : Addr) (c1 : ClassId) (x2 x3 : Int32) (x4 x5 : Int32) (x6 x7 : Int32) (h0 : Heap) (n0 : Nat) (v : Option Value) (h : Heap) (L : List Loc) : Prop := v = some vI1 ∧ Fr n0 L ∧ h = h0
theorem rm36_3 (l : Launch) (Z : State) (a0 : Array Value) (hw : own_HW a0 Z) (ws : List Jvm.Cond) (r0 : Addr) (c1 : ClassId) (x2 x3 : Int32) (x4 x5 : Int32) (x6 x7 : Int32) (h0 : Heap) (n0 : Nat) (O0 : Old Z n0 h0) (f1 : Arv Z h0 r0 c1 .byte (6 : Int32) [(.int x2), (.int x3), (.int x4), (.int x5), (.int x6), (.int x7)] vI0) :
    own_MF l mN39 jdk_52_method_15_code 2 (some .byte) ws rR0_0_0_0 Z h0 #[(.ref r0), vI3] (Q36_3 Z r0 c1 x2 x3 x4 x5 x6 x7 h0 n0) := by
  refine own_open (plainFor_of_name pn_java_lang_StringUTF16) (L0 := #[lR r0, lV vI3]) (fun _ => by first | (simp [entryFrame, mkF, argsToLocals, Value.category]; done) | rfl) ?_
  intro p e s m below meth c s₁ hx hby hml hret hnn hZ hown X0 e0
  have N0 := Fr.nil n0
  obtain ⟨clq2, Arq2, qq2, Sq2, Nq2, Hq2, Gq2⟩ := id f1
  refine ⟨some vI1, _, _, _, _, nofun, X0, by decide, by decide, ?_, fun fs hr => ?_⟩
  · rw [e0]; exact ⟨rfl, N0, rfl⟩
  · show SG p e below s₁ (mkF m 0 #[lR r0, lV vI3] []) _
    refine qiN X0 hx hby d36_0 ?_
    refine qaN X0 hx hby d36_1 ?_
    refine X0.arraylength hx (by rw [e0]; exact Arq2.1) (State.isArrayOf_alike hZ.alike Arq2.2.1) (g := (mkF m 2 #[lR r0, lV vI3] [(.ref r0), vI3])) rfl rfl (hb hby d36_2) _ ?_
    rw [len_of Sq2 Nq2]
    refine XS.isub X0.here hx rfl (hb hby d36_3) rfl ?_
    refine qb X0 hx hby d36_4 ?_
    refine XS.iushr X0.here hx rfl (hb hby d36_6) rfl ?_
    refine XS.i2b X0.here hx rfl (hb hby d36_7) rfl ?_
    exact retN X0 hx (t := .byte) hret (by simp) (hb hby d36_8) hr
def Q2_5 (Z : State) (r0 r1 : Addr) (x2 : Int32) (c3 : ClassId) (x4 x5 x6 : Int32) (h0 : Heap) (n0 : Nat) (v : Option Value) (h : Heap) (L : List Loc) : Prop := ∃ (b13_0 : Addr) (k13_0 : ClassId), v = none ∧ Fr n0 L ∧ Keep h0 h [r0] ∧ Fld Z h r0 "java/lang/String" "coder" "B" vI1 ∧ Fld Z h r0 "java/lang/String" "value" "[B" (.ref b13_0) ∧ h0.size ≤ b13_0 ∧ Exa Z h b13_0 "[B" ∧ Arv Z h b13_0 k13_0 .byte (6 : Int32) [(.int (((x4 >>> ((0 : Int32) &&& 31)).toInt8.toInt32).toInt8.toInt32)), (.int (((x4 >>> ((8 : Int32) &&& 31)).toInt8.toInt32).toInt8.toInt32)), (.int (((x5 >>> ((0 : Int32) &&& 31)).toInt8.toInt32).toInt8.toInt32)), (.int (((x5 >>> ((8 : Int32) &&& 31)).toInt8.toInt32).toInt8.toInt32)), (.int (((x6 >>> ((0 : Int32) &&& 31)).toInt8.toInt32).toInt8.toInt32)), (.int (((x6 >>> ((8 : Int32) &&& 31)).toInt8.toInt32).toInt8.toInt32))] vI0
theorem rm2_5 (l : Launch) (Z : State) (a0 : Array Value) (hw : own_HW a0 Z) (ws : List Jvm.Cond) (r0 r1 : Addr) (x2 : Int32) (c3 : ClassId) (x4 x5 x6 : Int32) (h0 : Heap) (n0 : Nat) (O0 : Old Z n0 h0) (f2 : Sta Z Z.heap "java/lang/String" "COMPACT_STRINGS" "Z" (.int x2)) (hc5 : ¬ (x2 = (0 : Int32))) (f6 : Arv Z h0 r1 c3 .char (3 : Int32) [(.int x4), (.int x5), (.int x6)] vI0) (hc7 : (255 : Int32) < x4) (f8 : Sta Z Z.heap "java/lang/StringUTF16" "$assertionsDisabled" "Z" vI1) (f9 : Sta Z Z.heap "java/lang/StringUTF16" "HI_BYTE_SHIFT" "I" vI0) (f10 : Sta Z Z.heap "java/lang/StringUTF16" "LO_BYTE_SHIFT" "I" vI8) (l11 : r1 < h0.size) (hc12 : (255 : Int32) < (nar .char (((((((x4 >>> ((0 : Int32) &&& 31)).toInt8.toInt32).toInt8.toInt32) &&& (255 : Int32)) <<< ((0 : Int32) &&& 31)) ||| (((((x4 >>> ((8 : Int32) &&& 31)).toInt8.toInt32).toInt8.toInt32) &&& (255 : Int32)) <<< ((8 : Int32) &&& 31))).toUInt32.toUInt16.toUInt32.toInt32))) (f19 : Exa Z h0 r0 "java/lang/String") (f21 : Fld Z h0 r0 "java/lang/String" "coder" "B" vI0) (g23 : n0 ≤ r0) (f26 : Fld Z h0 r0 "java/lang/String" "value" "[B" .null) (l31 : r0 < h0.size) :
    own_MF l mN0 jdk_42_method_149_code 6 none ws rR4_2_9_57 Z h0 #[(.ref r0), (.ref r1), vI0, vI3, .null] (Q2_5 Z r0 r1 x2 c3 x4 x5 x6 h0 n0) := by
  refine own_open (plainFor_of_name pn_java_lang_String) (L0 := #[lR r0, lR r1, lV vI0, lV vI3, .val .null, lU]) (fun _ => by first | (simp [entryFrame, mkF, argsToLocals, Value.category]; done) | rfl) ?_
  intro p e s m below meth c s₁ hx hby hml hret hnn hZ hown X0 e0
  have N0 := Fr.nil n0; have w := @ww Z a0 hw
  have hnm := (name_of_methodNamed hnn.1 hnn.2).1
  obtain ⟨T1, X1, e1, st1⟩ := initO X0 hx hZ hown (w 12 rfl) (w 13 rfl) (w 14 rfl) e0 (g := (mkF m 1 #[lR r0, lR r1, lV vI0, lV vI3, .val .null, lU] [(.ref r0)])) rfl (by rw [hml]; rfl) rfl (hb hby d2_1) (by decide) (W := 0) (own_W rfl) (by decide)
  have f3 := f2.ext O0.2
  obtain ⟨T4, X4, e4, st4⟩ := getS2 X1 hx hZ hown (host := "") (Or.inl (w 68 rfl)) Via.refl e1 f3 (g := (mkF m 27 #[lR r0, lR r1, lV vI0, lV vI3, .val .null, lU] [])) rfl (hb hby d2_27)
  obtain ⟨_, T13, Lc13, X13, hQ13, st13⟩ := own_cS X4 hx hZ hown e4 (rm34_4 l Z a0 hw [] r1 c3 x4 x5 x6 h0 n0 O0 f6 hc7 f8 f9 f10 l11 hc12) (w 180 rfl) (w 181 rfl) (w 182 rfl) (w 183 rfl) (by decide) (W := 0) (by decide) (by decide) (by decide) (by decide) (g := (mkF m 36 #[lR r0, lR r1, lV vI0, lV vI3, .val .null, lU] [vI3, vI0, (.ref r1)])) rfl (by rw [hml]; rfl) (argsL := [(.ref r1), vI0, vI3]) (rest := []) (lenOf pd___CII__B rfl) rfl (own_W rfl) (hb hby d2_36)
  obtain ⟨b13_0, k13_0, rfl, N13q, K13, f14, f15, f16⟩ := hQ13
  have N13 := Fr.app N0 N13q
  have o17 := Old.keep O0 K13 all0
  obtain ⟨_, T18, Lc18, X18, hQ18, st18⟩ := own_cS X13 hx hZ hown rfl (rm36_3 l Z a0 hw [] b13_0 k13_0 (((x4 >>> ((0 : Int32) &&& 31)).toInt8.toInt32).toInt8.toInt32) (((x4 >>> ((8 : Int32) &&& 31)).toInt8.toInt32).toInt8.toInt32) (((x5 >>> ((0 : Int32) &&& 31)).toInt8.toInt32).toInt8.toInt32) (((x5 >>> ((8 : Int32) &&& 31)).toInt8.toInt32).toInt8.toInt32) (((x6 >>> ((0 : Int32) &&& 31)).toInt8.toInt32).toInt8.toInt32) (((x6 >>> ((8 : Int32) &&& 31)).toInt8.toInt32).toInt8.toInt32) T13.heap n0 o17 f16) (w 187 rfl) (w 188 rfl) (w 182 rfl) (w 189 rfl) (by decide) (W := 1) (by decide) (by decide) (by decide) (by decide) (g := (mkF m 45 #[lR r0, lR r1, lV vI0, lV vI3, .val .null, lR b13_0] [vI3, (.ref b13_0), (.ref r0)])) rfl (by rw [hml]; rfl) (argsL := [(.ref b13_0), vI3]) (rest := [(.ref r0)]) (lenOf pd___BI_B rfl) rfl (own_W rfl) (hb hby d2_45)
  obtain ⟨rfl, N18q, E18⟩ := hQ18
  have N18 := Fr.app N13 N18q
  have f20 := (f19.keep K13)
  have f22 := (f21.keep K13 nin0)
  obtain ⟨T24, h24, X24, e24, W24, st24⟩ := putFN X18 hx hZ hown (w 22 rfl) Via.refl E18 f22 f20 (Or.inr ⟨(w 18 rfl), rfl, hnm⟩) (w 3 rfl) (ty := .byte) (v' := vI1) (by decide) rfl (by decide) (g := (mkF m 48 #[lR r0, lR r1, lV vI0, lV vI3, .val .null, lR b13_0] [vI1, (.ref r0)])) rfl rfl (hb hby d2_48)
  have Fw24 := f22.same W24
  have N24 := Fr.snoc X24 N18 g23
  have f25 := (f20.wr W24)
  have f27 := ((f26.keep K13 nin0).other W24 (Or.inr (slot_ne (Or.inr (w 17 rfl)) (Or.inr (w 18 rfl)) (by decide) (t := (.array .byte)) (t' := .byte) (by decide) (by decide))))
  obtain ⟨T28, h28, X28, e28, W28, st28⟩ := putF X24 hx hZ hown (host := "") (Or.inl (w 21 rfl)) Via.refl e24 f27 f25 (Or.inr ⟨(w 17 rfl), rfl, hnm⟩) (w 3 rfl) (ty := (.array .byte)) (by decide) rfl rfl (g := (mkF m 54 #[lR r0, lR r1, lV vI0, lV vI3, .val .null, lR b13_0] [(.ref b13_0), (.ref r0)])) rfl rfl (hb hby d2_54)
  have Fw28 := f27.same W28
  have N28 := Fr.snoc X28 N24 g23
  have f29 := (Fw24.other W28 (Or.inr (slot_ne (Or.inr (w 18 rfl)) (Or.inr (w 17 rfl)) (by decide) (t := .byte) (t' := (.array .byte)) (by decide) (by decide))))
  have f30 := ((f15.wr W24).wr W28)
  have n32 := Nat.ne_of_lt (Nat.lt_of_lt_of_le l31 f14)
  have f33 := ((f16.other W24 (Ne.symm n32)).other W28 (Ne.symm n32))
  have kp34 : Keep h0 T13.heap [r0] := (Keep.refl h0 [r0]).trans K13 all0
  have kp35 : Keep h0 h24 [r0] := kp34.wr W24 (Or.inl (List.mem_of_getElem? (i := 0) rfl))
  have kp36 : Keep h0 h28 [r0] := kp35.wr W28 (Or.inl (List.mem_of_getElem? (i := 0) rfl))
  refine ⟨none, _, _, _, _, (fun _ => rfl), X28, by decide, by decide, ?_, fun fs hr => ?_⟩
  · rw [e28]; exact ⟨b13_0, k13_0, rfl, N28, kp36, f29, Fw28, f14, f30, f33⟩
  · show SG p e below s₁ (mkF m 0 #[lR r0, lR r1, lV vI0, lV vI3, .val .null, lU] []) _
    refine qaN X0 hx hby d2_0 ?_
    refine st1 _ ?_
    refine qiN X1 hx hby d2_4 ?_
    refine XS.ifYes X1.here hx rfl (pc0 := 5) (pc' := 27) rfl (hb hby d2_5) rfl ((if0 _ _).trans (feq (by decide : ¬ ((3 : Int32) = (0 : Int32)))).2) (by decide) (by decide) ?_
    refine st4 _ ?_
    refine XS.ifNo X4.here hx rfl (hb hby d2_30) rfl ((if0 _ _).trans (feq hc5).1) ?_
    refine qaN X4 hx hby d2_33 ?_
    refine qiN X4 hx hby d2_34 ?_
    refine qiN X4 hx hby d2_35 ?_
    refine st13 _ ?_
    show SG p e below T13 (mkF m 39 #[lR r0, lR r1, lV vI0, lV vI3, .val .null, lU] [(.ref b13_0)]) _
    refine XS.astore X13.here hx rfl (hb hby d2_39) rfl rfl (l' := #[lR r0, lR r1, lV vI0, lV vI3, .val .null, lR b13_0]) rfl ?_
    refine qaN X13 hx hby d2_41 ?_
    refine qa X13 hx hby d2_42 ?_
    refine qiN X13 hx hby d2_44 ?_
    refine st18 _ ?_
    refine st24 _ ?_
    refine qaN X24 hx hby d2_51 ?_
    refine qa X24 hx hby d2_52 ?_
    refine st28 _ ?_
    exact X28.returnOut hx hret (hb hby d2_57) hr
def Q1_5 (Z : State) (r0 r1 : Addr) (c2 : ClassId) (x3 x4 : Int32) (x5 x6 : Int32) (h0 : Heap) (n0 : Nat) (v : Option Value) (h : Heap) (L : List Loc) : Prop := ∃ (b16_0 : Addr) (k16_0 : ClassId), v = none ∧ Fr n0 L ∧ Keep h0 h [r0] ∧ Fld Z h r0 "java/lang/String" "coder" "B" vI1 ∧ Fld Z h r0 "java/lang/String" "value" "[B" (.ref b16_0) ∧ h0.size ≤ b16_0 ∧ Exa Z h b16_0 "[B" ∧ Arv Z h b16_0 k16_0 .byte (6 : Int32) [(.int (((x3 >>> ((0 : Int32) &&& 31)).toInt8.toInt32).toInt8.toInt32)), (.int (((x3 >>> ((8 : Int32) &&& 31)).toInt8.toInt32).toInt8.toInt32)), (.int (((x4 >>> ((0 : Int32) &&& 31)).toInt8.toInt32).toInt8.toInt32)), (.int (((x4 >>> ((8 : Int32) &&& 31)).toInt8.toInt32).toInt8.toInt32)), (.int (((x5 >>> ((0 : Int32) &&& 31)).toInt8.toInt32).toInt8.toInt32)), (.int (((x5 >>> ((8 : Int32) &&& 31)).toInt8.toInt32).toInt8.toInt32))] vI0
theorem rm1_5 (l : Launch) (Z : State) (a0 : Array Value) (hw : own_HW a0 Z) (ws : List Jvm.Cond) (r0 r1 : Addr) (c2 : ClassId) (x3 x4 : Int32) (x5 x6 : Int32) (h0 : Heap) (n0 : Nat) (O0 : Old Z n0 h0) (f1 : Arv Z h0 r1 c2 .char (3 : Int32) [(.int x3), (.int x4), (.int x5)] vI0) (f3 : Sta Z Z.heap "java/lang/String" "COMPACT_STRINGS" "Z" (.int x6)) (hc4 : ¬ (x6 = (0 : Int32))) (hc5 : (255 : Int32) < x3) (f6 : Sta Z Z.heap "java/lang/StringUTF16" "$assertionsDisabled" "Z" vI1) (f7 : Sta Z Z.heap "java/lang/StringUTF16" "HI_BYTE_SHIFT" "I" vI0) (f8 : Sta Z Z.heap "java/lang/StringUTF16" "LO_BYTE_SHIFT" "I" vI8) (l9 : r1 < h0.size) (hc10 : (255 : Int32) < (nar .char (((((((x3 >>> ((0 : Int32) &&& 31)).toInt8.toInt32).toInt8.toInt32) &&& (255 : Int32)) <<< ((0 : Int32) &&& 31)) ||| (((((x3 >>> ((8 : Int32) &&& 31)).toInt8.toInt32).toInt8.toInt32) &&& (255 : Int32)) <<< ((8 : Int32) &&& 31))).toUInt32.toUInt16.toUInt32.toInt32))) (f11 : Exa Z h0 r0 "java/lang/String") (f12 : Fld Z h0 r0 "java/lang/String" "coder" "B" vI0) (g13 : n0 ≤ r0) (f14 : Fld Z h0 r0 "java/lang/String" "value" "[B" .null) (l15 : r0 < h0.size) :
    own_MF l mN1 jdk_42_method_3_code 2 none ws rR5_2_9_74 Z h0 #[(.ref r0), (.ref r1)] (Q1_5 Z r0 r1 c2 x3 x4 x5 x6 h0 n0) := by
  refine own_open (plainFor_of_name pn_java_lang_String) (L0 := #[lR r0, lR r1]) (fun _ => by first | (simp [entryFrame, mkF, argsToLocals, Value.category]; done) | rfl) ?_
  intro p e s m below meth c s₁ hx hby hml hret hnn hZ hown X0 e0
  have N0 := Fr.nil n0; have w := @ww Z a0 hw
  obtain ⟨clq2, Arq2, qq2, Sq2, Nq2, Hq2, Gq2⟩ := id f1
  obtain ⟨_, T16, Lc16, X16, hQ16, st16⟩ := own_fin (X0.specialBack hx (y := mN0) rfl hown (mvT hZ (w 8 rfl)) (mvT hZ (w 9 rfl)) (mvT hZ (w 11 rfl)) (by decide) (backOf (W := 0) (rm2_5 l Z a0 hw [] r0 r1 x6 c2 x3 x4 x5 h0 n0 O0 f3 hc4 f1 hc5 f6 f7 f8 l9 hc10 f11 f12 g13 f14 l15) hZ (w 11 rfl) (w 4 rfl) (by decide) (by decide)) (g := (mkF m 6 #[lR r0, lR r1] [.null, vI3, vI0, (.ref r1), (.ref r0)])) rfl (by rw [hml]; rfl) (Steps.refl _) (a := r0) (argsL := [(.ref r1), vI0, vI3, .null]) (rest := []) (lenOf pd___CIILjava_lang_Void__V rfl) rfl (own_W rfl) (hb hby d1_6) (fun _ _ => ⟨rfl, e0, (by decide : 0 + 2 ≤ _), (by decide : 0 + 9 ≤ _)⟩))
  obtain ⟨b16_0, k16_0, rfl, N16q, K16, f17, f18, f19, f20, f21⟩ := hQ16
  have N16 := Fr.app N0 N16q
  have kp22 : Keep h0 T16.heap [r0] := (Keep.refl h0 [r0]).trans K16 (allS (Or.inl (List.mem_of_getElem? (i := 0) rfl)) all0)
  refine ⟨none, _, _, _, _, (fun _ => rfl), X16, by decide, by decide, ?_, fun fs hr => ?_⟩
  · exact ⟨b16_0, k16_0, rfl, N16, kp22, f17, f18, f19, f20, f21⟩
  · show SG p e below s₁ (mkF m 0 #[lR r0, lR r1] []) _
    refine qaN X0 hx hby d1_0 ?_
    refine qaN X0 hx hby d1_1 ?_
    refine qc X0 hx hby d1_2 ?_
    refine qaN X0 hx hby d1_3 ?_
    refine X0.arraylength hx (by rw [e0]; exact Arq2.1) (State.isArrayOf_alike hZ.alike Arq2.2.1) (g := (mkF m 4 #[lR r0, lR r1] [(.ref r1), vI0, (.ref r1), (.ref r0)])) rfl rfl (hb hby d1_4) _ ?_
    rw [len_of Sq2 Nq2]
    refine XS.aconstNull X0.here hx rfl (hb hby d1_5) ?_
    refine st16.trans ?_
    exact X16.returnOut hx hret (hb hby d1_9) hr
def Q12_4 (Z : State) (r0 r1 : Addr) (x2 : Int32) (r3 : Addr) (c4 : ClassId) (u5 : Value) (r6 : Addr) (c7 : ClassId) (x8 x9 : Int32) (x10 x11 : Int32) (x12 x13 : Int32) (h0 : Heap) (n0 : Nat) (v : Option Value) (h : Heap) (L : List Loc) : Prop := ∃ (b18_0 : Addr) (k18_0 : ClassId), v = none ∧ Fr n0 L ∧ Keep h0 h [r0] ∧ Fld Z h r0 cs0 "coder" "B" vI1 ∧ Fld Z h r0 cs0 "value" "[B" (.ref b18_0) ∧ Fld Z h r0 cs0 "count" "I" vI1 ∧ Fld Z h r0 cs0 "maybeLatin1" "Z" vI0 ∧ h0.size ≤ b18_0 ∧ Exa Z h b18_0 "[B" ∧ Arv Z h b18_0 k18_0 .byte (32 : Int32) [vI58, vI0, (.int x8), (.int x9), (.int x10), (.int x11), (.int x12), (.int x13), vI0, vI0, vI0, vI0, vI0, vI0, vI0, vI0, vI0, vI0, vI0, vI0, vI0, vI0, vI0, vI0, vI0, vI0, vI0, vI0, vI0, vI0, vI0, vI0] vI0
theorem rm12_4 (l : Launch) (Z : State) (a0 : Array Value) (hw : own_HW a0 Z) (ws : List Jvm.Cond) (r0 r1 : Addr) (x2 : Int32) (r3 : Addr) (c4 : ClassId) (u5 : Value) (r6 : Addr) (c7 : ClassId) (x8 x9 : Int32) (x10 x11 : Int32) (x12 x13 : Int32) (h0 : Heap) (n0 : Nat) (O0 : Old Z n0 h0) (f1 : Exa Z h0 r0 "java/lang/StringBuilder") (f2 : Sta Z Z.heap "java/lang/String" "COMPACT_STRINGS" "Z" (.int x2)) (hc3 : ¬ (x2 = (0 : Int32))) (f4 : Fld Z h0 r0 cs0 "coder" "B" vI0) (f5 : Exa Z h0 r1 "java/lang/String") (f6 : Fld Z h0 r1 "java/lang/String" "coder" "B" vI1) (f7 : Fld Z h0 r0 cs0 "value" "[B" (.ref r3)) (f8 : Arv Z h0 r3 c4 .byte (16 : Int32) [vI58, vI0, vI0, vI0, vI0, vI0, vI0, vI0, vI0, vI0, vI0, vI0, vI0, vI0, vI0, vI0] vI0) (f9 : Fld Z h0 r0 cs0 "count" "I" vI1) (f10 : Sta Z Z.heap cs7 "SIOOBE_FORMATTER" cs8 u5) (hc11 : u5.isRef = true) (f12 : Sta Z Z.heap "java/lang/StringUTF16" "$assertionsDisabled" "Z" vI1) (f13 : Sta Z Z.heap "java/lang/StringUTF16" "HI_BYTE_SHIFT" "I" vI0) (f14 : Sta Z Z.heap "java/lang/StringUTF16" "LO_BYTE_SHIFT" "I" vI8) (l15 : r0 < h0.size) (g16 : n0 ≤ r0) (f17 : Fld Z h0 r0 cs0 "maybeLatin1" "Z" vI0) (n30 : r1 ≠ r0) (f32 : Fld Z h0 r1 "java/lang/String" "value" "[B" (.ref r6)) (f34 : Arv Z h0 r6 c7 .byte (6 : Int32) [(.int x8), (.int x9), (.int x10), (.int x11), (.int x12), (.int x13)] vI0) (n35 : r6 ≠ r0) :
    own_MF l mN9 jdk_68_method_73_code 3 none ws rR7_1_32_102 Z h0 #[(.ref r0), vI1, (.ref r1)] (Q12_4 Z r0 r1 x2 r3 c4 u5 r6 c7 x8 x9 x10 x11 x12 x13 h0 n0) := by
  refine own_open (plainFor_of_name pn_java_lang_AbstractStringBuilder) (L0 := #[lR r0, lV vI1, lR r1]) (fun _ => by first | (simp [entryFrame, mkF, argsToLocals, Value.category]; done) | rfl) ?_
  intro p e s m below meth c s₁ hx hby hml hret hnn hZ hown X0 e0
  have N0 := Fr.nil n0; have w := @ww Z a0 hw
  obtain ⟨cqq19, qq19, qq19'⟩ := f1.cell
  obtain ⟨_, T18, Lc18, X18, hQ18, st18⟩ := own_fin (X0.privateBack hx (y := mN7) hown (mvT hZ (w 81 rfl)) (mvT hZ (w 82 rfl)) (own_selfsel (mvT hZ (w 84 rfl)) (Cond.privateMethod_at (mvP hZ (w 83 rfl) (args := #[]))) (mvT hZ (w 82 rfl)) (by decide)) (Cond.privateMethod_at (mvP hZ (w 83 rfl) (args := #[]))) (mvT hZ (w 85 rfl)) (by decide) (backOf (W := 0) (rm13_2 l Z a0 hw [] r0 r1 x2 r3 c4 u5 h0 n0 O0 f2 hc3 f4 f5 f6 f1 f7 f8 f9 f10 hc11 f12 f13 f14 l15 g16 f17) hZ (w 85 rfl) (w 39 rfl) (by decide) (by decide)) (g := (mkF m 2 #[lR r0, lV vI1, lR r1] [(.ref r1), (.ref r0)])) rfl (by rw [hml]; rfl) (Steps.refl _) (a := r0) (by rw [e0]; exact qq19) qq19' (argsL := [(.ref r1)]) (rest := []) (lenOf pd__Ljava_lang_String__V rfl) rfl (own_W rfl) (hb hby d12_2) (fun _ _ => ⟨rfl, e0, (by decide : 0 + 1 ≤ _), (by decide : 0 + 32 ≤ _)⟩))
  obtain ⟨b18_0, k18_0, rfl, N18q, K18, f20, f21, f22, f23, f24, f25, f26⟩ := hQ18
  have N18 := Fr.app N0 N18q
  obtain ⟨T27, X27, e27, st27⟩ := getF X18 hx hZ hown (host := "") (Or.inl (w 43 rfl)) Via.refl rfl f21 (g := (mkF m 7 #[lR r0, lV vI1, lR r1] [(.ref r0), (.ref r1)])) rfl rfl (hb hby d12_7)
  obtain ⟨T28, X28, e28, st28⟩ := getF X27 hx hZ hown (host := "") (Or.inl (w 45 rfl)) Via.refl e27 f20 (g := (mkF m 12 #[lR r0, lV vI1, lR r1] [(.ref r0), vI1, (.ref b18_0), (.ref r1)])) rfl rfl (hb hby d12_12)
  have f29 := (f5.keep K18)
  have f31 := (f6.keep K18 (ninS n30 nin0))
  have f33 := (f32.keep K18 (ninS n30 nin0))
  have f36 := (f34.keep K18 (ninS n35 nin0))
  have zz37 : n0 ≤ h0.size := by rw [← O0.1]; exact O0.2.1
  have g38 := Nat.le_trans zz37 f24
  have o39 := Old.keep O0 K18 (allS g16 all0)
  obtain ⟨_, T40, Lc40, X40, hQ40, st40⟩ := own_cV X28 hx hZ hown e28 (rm14_1 l Z a0 hw [] r1 b18_0 (1 : Int32) (1 : Int32) x2 (1 : Int32) r6 (6 : Int32) c7 ([(.int x8), (.int x9), (.int x10), (.int x11), (.int x12), (.int x13)]) (32 : Int32) k18_0 ([vI58, vI0, vI0, vI0, vI0, vI0, vI0, vI0, vI0, vI0, vI0, vI0, vI0, vI0, vI0, vI0, vI0, vI0, vI0, vI0, vI0, vI0, vI0, vI0, vI0, vI0, vI0, vI0, vI0, vI0, vI0, vI0]) T18.heap n0 o39 f29 f2 hc3 f31 (by decide) f33 f36 f26 (own_lenK (n := 6) rfl (by decide) : [(.int x8), (.int x9), (.int x10), (.int x11), (.int x12), (.int x13)].length = ((6 : Int32)).toNatClampNeg) (by decide) (by decide) (by decide) (by decide) g38) f29 (w 87 rfl) (w 88 rfl) (w 90 rfl) (w 89 rfl) (w 91 rfl) (w 4 rfl) (by decide) (W := 0) (by decide) (by decide) (by decide) (by decide) (g := (mkF m 15 #[lR r0, lV vI1, lR r1] [vI1, vI1, (.ref b18_0), (.ref r1)])) rfl (by rw [hml]; rfl) (argsL := [(.ref b18_0), vI1, vI1]) (rest := []) (lenOf pd___BIB_V rfl) rfl (own_W rfl) (hb hby d12_15)
  obtain ⟨rfl, N40q, K40, f41⟩ := hQ40
  have N40 := Fr.app N18 N40q
  have f42 : Arv Z T40.heap b18_0 k18_0 .byte (32 : Int32) [vI58, vI0, (.int x8), (.int x9), (.int x10), (.int x11), (.int x12), (.int x13), vI0, vI0, vI0, vI0, vI0, vI0, vI0, vI0, vI0, vI0, vI0, vI0, vI0, vI0, vI0, vI0, vI0, vI0, vI0, vI0, vI0, vI0, vI0, vI0] vI0 := own_cpx (by decide : (((1 : Int32) <<< ((1 : Int32) &&& 31))).toNatClampNeg = 2) (by decide : (((1 : Int32) <<< ((1 : Int32) &&& 31))).toNatClampNeg + ((6 : Int32)).toNatClampNeg = 8) f41
  have n43 := Nat.ne_of_lt (Nat.lt_of_lt_of_le l15 f24)
  have f44 := (f20.keep K40 (ninS n43 nin0))
  have f45 := (f21.keep K40 (ninS n43 nin0))
  have f46 := (f22.keep K40 (ninS n43 nin0))
  have f47 := (f23.keep K40 (ninS n43 nin0))
  have f48 := (f25.keep K40)
  have kp49 : Keep h0 T18.heap [r0] := (Keep.refl h0 [r0]).trans K18 (allS (Or.inl (List.mem_of_getElem? (i := 0) rfl)) all0)
  have kp50 : Keep h0 T40.heap [r0] := kp49.trans K40 (allS (Or.inr f24) all0)
  refine ⟨none, _, _, _, _, (fun _ => rfl), X40, by decide, by decide, ?_, fun fs hr => ?_⟩
  · exact ⟨b18_0, k18_0, rfl, N40, kp50, f44, f45, f46, f47, f24, f48, f42⟩
  · show SG p e below s₁ (mkF m 0 #[lR r0, lV vI1, lR r1] []) _
    refine qaN X0 hx hby d12_0 ?_
    refine qaN X0 hx hby d12_1 ?_
    refine st18.trans ?_
    refine qaN X18 hx hby d12_5 ?_
    refine qaN X18 hx hby d12_6 ?_
    refine st27 _ ?_
    refine qiN X27 hx hby d12_10 ?_
    refine qaN X27 hx hby d12_11 ?_
    refine st28 _ ?_
    refine st40 _ ?_
    show SG p e below T40 (mkF m 18 #[lR r0, lV vI1, lR r1] []) _
    exact X40.returnOut hx hret (hb hby d12_18) hr
def Q8_4 (Z : State) (r0 r1 r2 : Addr) (c3 : ClassId) (x4 x5 : Int32) (x6 x7 : Int32) (x8 x9 x10 : Int32) (r11 : Addr) (c12 : ClassId) (u13 : Value) (h0 : Heap) (n0 : Nat) (v : Option Value) (h : Heap) (L : List Loc) : Prop := ∃ (b27_0 : Addr) (k27_0 : ClassId), v = some (.ref r0) ∧ Fr n0 L ∧ Keep h0 h [r0] ∧ Fld Z h r0 cs0 "coder" "B" vI1 ∧ Fld Z h r0 cs0 "value" "[B" (.ref b27_0) ∧ Fld Z h r0 cs0 "count" "I" vI4 ∧ Fld Z h r0 cs0 "maybeLatin1" "Z" vI0 ∧ h0.size ≤ b27_0 ∧ Exa Z h b27_0 "[B" ∧ Arv Z h b27_0 k27_0 .byte (32 : Int32) [vI58, vI0, (.int x4), (.int x5), (.int x6), (.int x7), (.int x8), (.int x9), vI0, vI0, vI0, vI0, vI0, vI0, vI0, vI0, vI0, vI0, vI0, vI0, vI0, vI0, vI0, vI0, vI0, vI0, vI0, vI0, vI0, vI0, vI0, vI0] vI0
theorem rm8_4 (l : Launch) (Z : State) (a0 : Array Value) (hw : own_HW a0 Z) (ws : List Jvm.Cond) (r0 r1 r2 : Addr) (c3 : ClassId) (x4 x5 : Int32) (x6 x7 : Int32) (x8 x9 x10 : Int32) (r11 : Addr) (c12 : ClassId) (u13 : Value) (h0 : Heap) (n0 : Nat) (O0 : Old Z n0 h0) (f1 : Exa Z h0 r1 "java/lang/String") (f2 : Fld Z h0 r1 "java/lang/String" "value" "[B" (.ref r2)) (f3 : Arv Z h0 r2 c3 .byte (6 : Int32) [(.int x4), (.int x5), (.int x6), (.int x7), (.int x8), (.int x9)] vI0) (f4 : Sta Z Z.heap "java/lang/String" "COMPACT_STRINGS" "Z" (.int x10)) (hc5 : ¬ (x10 = (0 : Int32))) (f6 : Fld Z h0 r1 "java/lang/String" "coder" "B" vI1) (f8 : Fld Z h0 r0 cs0 "count" "I" vI1) (f10 : Exa Z h0 r0 "java/lang/StringBuilder") (f11 : Fld Z h0 r0 cs0 "value" "[B" (.ref r11)) (f12 : Arv Z h0 r11 c12 .byte (16 : Int32) [vI58, vI0, vI0, vI0, vI0, vI0, vI0, vI0, vI0, vI0, vI0, vI0, vI0, vI0, vI0, vI0] vI0) (f13 : Fld Z h0 r0 cs0 "coder" "B" vI0) (f17 : Sta Z Z.heap cs7 "SIOOBE_FORMATTER" cs8 u13) (hc18 : u13.isRef = true) (f19 : Sta Z Z.heap "java/lang/StringUTF16" "$assertionsDisabled" "Z" vI1) (f20 : Sta Z Z.heap "java/lang/StringUTF16" "HI_BYTE_SHIFT" "I" vI0) (f21 : Sta Z Z.heap "java/lang/StringUTF16" "LO_BYTE_SHIFT" "I" vI8) (l22 : r0 < h0.size) (g23 : n0 ≤ r0) (f24 : Fld Z h0 r0 cs0 "maybeLatin1" "Z" vI0) (n25 : r1 ≠ r0) (n26 : r2 ≠ r0) :
    own_MF l mN10 jdk_68_method_22_code 3 (some (.object cs0)) ws rR8_1_32_116 Z h0 #[(.ref r0), (.ref r1)] (Q8_4 Z r0 r1 r2 c3 x4 x5 x6 x7 x8 x9 x10 r11 c12 u13 h0 n0) := by
  refine own_open (plainFor_of_name pn_java_lang_AbstractStringBuilder) (L0 := #[lR r0, lR r1, lU]) (fun _ => by first | (simp [entryFrame, mkF, argsToLocals, Value.category]; done) | rfl) ?_
  intro p e s m below meth c s₁ hx hby hml hret hnn hZ hown X0 e0
  have N0 := Fr.nil n0; have w := @ww Z a0 hw
  obtain ⟨_, T7, Lc7, X7, hQ7, st7⟩ := own_cV X0 hx hZ hown e0 (rm9_1 l Z a0 hw [] r1 r2 (6 : Int32) c3 ([(.int x4), (.int x5), (.int x6), (.int x7), (.int x8), (.int x9)]) x10 (1 : Int32) h0 n0 O0 f2 f3 f1 f4 hc5 f6) f1 (w 58 rfl) (w 59 rfl) (w 61 rfl) (w 60 rfl) (w 62 rfl) (w 4 rfl) (by decide) (W := 0) (by decide) (by decide) (by decide) (by decide) (g := (mkF m 10 #[lR r0, lR r1, lU] [(.ref r1)])) rfl (by rw [hml]; rfl) (argsL := []) (rest := []) (lenOf pd___I rfl) rfl (own_W rfl) (hb hby d8_10)
  obtain ⟨rfl, N7q, E7⟩ := hQ7
  have N7 := Fr.app N0 N7q
  obtain ⟨T9, X9, e9, st9⟩ := getF X7 hx hZ hown (host := "") (Or.inl (w 69 rfl)) Via.refl E7 f8 (g := (mkF m 16 #[lR r0, lR r1, lV vI3] [(.ref r0), (.ref r0)])) rfl rfl (hb hby d8_16)
  obtain ⟨cqq15, qq15, qq15'⟩ := f10.cell
  obtain ⟨_, T14, Lc14, X14, hQ14, st14⟩ := own_fin (X9.privateBack hx (y := mN6) hown (mvT hZ (w 71 rfl)) (mvT hZ (w 72 rfl)) (own_selfsel (mvT hZ (w 74 rfl)) (Cond.privateMethod_at (mvP hZ (w 73 rfl) (args := #[]))) (mvT hZ (w 72 rfl)) (by decide)) (Cond.privateMethod_at (mvP hZ (w 73 rfl) (args := #[]))) (mvT hZ (w 75 rfl)) (by decide) (backOf (W := 0) (rm11_1 l Z a0 hw [] r0 (4 : Int32) r11 (16 : Int32) c12 ([vI58, vI0, vI0, vI0, vI0, vI0, vI0, vI0, vI0, vI0, vI0, vI0, vI0, vI0, vI0, vI0]) (0 : Int32) h0 n0 O0 f11 f12 f13 (by decide)) hZ (w 75 rfl) (w 39 rfl) (by decide) (by decide)) (g := (mkF m 21 #[lR r0, lR r1, lV vI3] [vI4, (.ref r0)])) rfl (by rw [hml]; rfl) (Steps.refl _) (a := r0) (by rw [e9]; exact qq15) qq15' (argsL := [vI4]) (rest := []) (lenOf pd__I_V rfl) rfl (own_W rfl) (hb hby d8_21) (fun _ _ => ⟨rfl, e9, (by decide : 0 + 0 ≤ _), (by decide : 0 + 0 ≤ _)⟩))
  obtain ⟨rfl, N14q, E14⟩ := hQ14
  have N14 := Fr.app N7 N14q
  obtain ⟨T16, X16, e16, st16⟩ := getF X14 hx hZ hown (host := "") (Or.inl (w 69 rfl)) Via.refl E14 f8 (g := (mkF m 26 #[lR r0, lR r1, lV vI3] [(.ref r0), (.ref r0)])) rfl rfl (hb hby d8_26)
  obtain ⟨cqq28, qq28, qq28'⟩ := f10.cell
  obtain ⟨_, T27, Lc27, X27, hQ27, st27⟩ := own_fin (X16.privateBack hx (y := mN9) hown (mvT hZ (w 76 rfl)) (mvT hZ (w 77 rfl)) (own_selfsel (mvT hZ (w 79 rfl)) (Cond.privateMethod_at (mvP hZ (w 78 rfl) (args := #[]))) (mvT hZ (w 77 rfl)) (by decide)) (Cond.privateMethod_at (mvP hZ (w 78 rfl) (args := #[]))) (mvT hZ (w 80 rfl)) (by decide) (backOf (W := 0) (rm12_4 l Z a0 hw [] r0 r1 x10 r11 c12 u13 r2 c3 x4 x5 x6 x7 x8 x9 h0 n0 O0 f10 f4 hc5 f13 f1 f6 f11 f12 f8 f17 hc18 f19 f20 f21 l22 g23 f24 n25 f2 f3 n26) hZ (w 80 rfl) (w 39 rfl) (by decide) (by decide)) (g := (mkF m 30 #[lR r0, lR r1, lV vI3] [(.ref r1), vI1, (.ref r0)])) rfl (by rw [hml]; rfl) (Steps.refl _) (a := r0) (by rw [e16]; exact qq28) qq28' (argsL := [vI1, (.ref r1)]) (rest := []) (lenOf pd__ILjava_lang_String__V rfl) rfl (own_W rfl) (hb hby d8_30) (fun _ _ => ⟨rfl, e16, (by decide : 0 + 1 ≤ _), (by decide : 0 + 32 ≤ _)⟩))
  obtain ⟨b27_0, k27_0, rfl, N27q, K27, f29, f30, f31, f32, f33, f34, f35⟩ := hQ27
  have N27 := Fr.app N14 N27q
  obtain ⟨T36, X36, e36, st36⟩ := getF X27 hx hZ hown (host := "") (Or.inl (w 69 rfl)) Via.refl rfl f31 (g := (mkF m 35 #[lR r0, lR r1, lV vI3] [(.ref r0), (.ref r0)])) rfl rfl (hb hby d8_35)
  have f37 := (f10.keep K27)
  obtain ⟨T38, h38, X38, e38, W38, st38⟩ := putF X36 hx hZ hown (host := "") (Or.inl (w 69 rfl)) Via.refl e36 f31 f37 (Or.inl (w 70 rfl)) (w 30 rfl) (ty := .int) (by decide) rfl rfl (g := (mkF m 40 #[lR r0, lR r1, lV vI3] [vI4, (.ref r0)])) rfl rfl (hb hby d8_40)
  have Fw38 := f31.same W38
  have N38 := Fr.snoc X38 N27 g23
  have f39 := (f29.other W38 (Or.inr (slot_ne (Or.inl (w 46 rfl)) (Or.inl (w 70 rfl)) (by decide) (t := .byte) (t' := .int) (by decide) (by decide))))
  have f40 := (f30.other W38 (Or.inr (slot_ne (Or.inl (w 44 rfl)) (Or.inl (w 70 rfl)) (by decide) (t := (.array .byte)) (t' := .int) (by decide) (by decide))))
  have f41 := (f32.other W38 (Or.inr (slot_ne (Or.inl (w 235 rfl)) (Or.inl (w 70 rfl)) (by decide) (t := .boolean) (t' := .int) (by decide) (by decide))))
  have f42 := (f34.wr W38)
  have n43 := Nat.ne_of_lt (Nat.lt_of_lt_of_le l22 f33)
  have f44 := (f35.other W38 (Ne.symm n43))
  have kp45 : Keep h0 T27.heap [r0] := (Keep.refl h0 [r0]).trans K27 (allS (Or.inl (List.mem_of_getElem? (i := 0) rfl)) all0)
  have kp46 : Keep h0 h38 [r0] := kp45.wr W38 (Or.inl (List.mem_of_getElem? (i := 0) rfl))
  refine ⟨some (.ref r0), _, _, _, _, nofun, X38, by decide, by decide, ?_, fun fs hr => ?_⟩
  · rw [e38]; exact ⟨b27_0, k27_0, rfl, N38, kp46, f39, f40, Fw38, f41, f33, f42, f44⟩
  · show SG p e below s₁ (mkF m 0 #[lR r0, lR r1, lU] []) _
    refine qaN X0 hx hby d8_0 ?_
    refine XS.ifnonnullYes X0.here hx rfl (pc0 := 1) (pc' := 9) rfl (hb hby d8_1) rfl (by decide) (by decide) ?_
    refine qaN X0 hx hby d8_9 ?_
    refine st7 _ ?_
    refine XS.istoreN X7.here hx rfl (hb hby d8_13) rfl (l' := #[lR r0, lR r1, lV vI3]) rfl ?_
    refine qaN X7 hx hby d8_14 ?_
    refine qaN X7 hx hby d8_15 ?_
    refine st9 _ ?_
    refine qiN X9 hx hby d8_19 ?_
    refine XS.iadd X9.here hx rfl (hb hby d8_20) rfl ?_
    show SG p e below T9 (mkF m 21 #[lR r0, lR r1, lV vI3] [vI4, (.ref r0)]) _
    refine st14.trans ?_
    refine qaN X14 hx hby d8_24 ?_
    refine qaN X14 hx hby d8_25 ?_
    refine st16 _ ?_
    refine qaN X16 hx hby d8_29 ?_
    refine st27.trans ?_
    refine qaN X27 hx hby d8_33 ?_
    refine qd X27 hx hby d8_34 ?_
    refine st36 _ ?_
    refine qiN X36 hx hby d8_38 ?_
    show SG p e below T36 (mkF m 39 #[lR r0, lR r1, lV vI3] [vI3, vI1, (.ref r0)]) _
    refine XS.iadd X36.here hx rfl (hb hby d8_39) rfl ?_
    refine st38 _ ?_
    refine qaN X38 hx hby d8_43 ?_
    exact retOut X38 hx (i := .areturn) hret rfl (Or.inr (Or.inr (Or.inr (Or.inr ⟨rfl, rfl, rfl⟩)))) (hb hby d8_44) hr
def Q7_4 (Z : State) (r0 r1 r2 : Addr) (c3 : ClassId) (x4 x5 : Int32) (x6 x7 : Int32) (x8 x9 x10 : Int32) (r11 : Addr) (c12 : ClassId) (u13 : Value) (h0 : Heap) (n0 : Nat) (v : Option Value) (h : Heap) (L : List Loc) : Prop := ∃ (b22_0 : Addr) (k22_0 : ClassId), v = some (.ref r0) ∧ Fr n0 L ∧ Keep h0 h [r0] ∧ Fld Z h r0 cs0 "coder" "B" vI1 ∧ Fld Z h r0 cs0 "value" "[B" (.ref b22_0) ∧ Fld Z h r0 cs0 "count" "I" vI4 ∧ Fld Z h r0 cs0 "maybeLatin1" "Z" vI0 ∧ h0.size ≤ b22_0 ∧ Exa Z h b22_0 "[B" ∧ Arv Z h b22_0 k22_0 .byte (32 : Int32) [vI58, vI0, (.int x4), (.int x5), (.int x6), (.int x7), (.int x8), (.int x9), vI0, vI0, vI0, vI0, vI0, vI0, vI0, vI0, vI0, vI0, vI0, vI0, vI0, vI0, vI0, vI0, vI0, vI0, vI0, vI0, vI0, vI0, vI0, vI0] vI0
theorem rm7_4 (l : Launch) (Z : State) (a0 : Array Value) (hw : own_HW a0 Z) (ws : List Jvm.Cond) (r0 r1 r2 : Addr) (c3 : ClassId) (x4 x5 : Int32) (x6 x7 : Int32) (x8 x9 x10 : Int32) (r11 : Addr) (c12 : ClassId) (u13 : Value) (h0 : Heap) (n0 : Nat) (O0 : Old Z n0 h0) (f1 : Exa Z h0 r1 "java/lang/String") (f2 : Fld Z h0 r1 "java/lang/String" "value" "[B" (.ref r2)) (f3 : Arv Z h0 r2 c3 .byte (6 : Int32) [(.int x4), (.int x5), (.int x6), (.int x7), (.int x8), (.int x9)] vI0) (f4 : Sta Z Z.heap "java/lang/String" "COMPACT_STRINGS" "Z" (.int x10)) (hc5 : ¬ (x10 = (0 : Int32))) (f6 : Fld Z h0 r1 "java/lang/String" "coder" "B" vI1) (f7 : Fld Z h0 r0 cs0 "count" "I" vI1) (f8 : Exa Z h0 r0 "java/lang/StringBuilder") (f9 : Fld Z h0 r0 cs0 "value" "[B" (.ref r11)) (f10 : Arv Z h0 r11 c12 .byte (16 : Int32) [vI58, vI0, vI0, vI0, vI0, vI0, vI0, vI0, vI0, vI0, vI0, vI0, vI0, vI0, vI0, vI0] vI0) (f11 : Fld Z h0 r0 cs0 "coder" "B" vI0) (f12 : Sta Z Z.heap cs7 "SIOOBE_FORMATTER" cs8 u13) (hc13 : u13.isRef = true) (f14 : Sta Z Z.heap "java/lang/StringUTF16" "$assertionsDisabled" "Z" vI1) (f15 : Sta Z Z.heap "java/lang/StringUTF16" "HI_BYTE_SHIFT" "I" vI0) (f16 : Sta Z Z.heap "java/lang/StringUTF16" "LO_BYTE_SHIFT" "I" vI8) (l17 : r0 < h0.size) (g18 : n0 ≤ r0) (f19 : Fld Z h0 r0 cs0 "maybeLatin1" "Z" vI0) (n20 : r1 ≠ r0) (n21 : r2 ≠ r0) :
    own_MF l mN11 jdk_67_method_7_code 2 (some (.object "java/lang/StringBuilder")) ws rR9_1_32_130 Z h0 #[(.ref r0), (.ref r1)] (Q7_4 Z r0 r1 r2 c3 x4 x5 x6 x7 x8 x9 x10 r11 c12 u13 h0 n0) := by
  refine own_open (plainFor_of_name pn_java_lang_StringBuilder) (L0 := #[lR r0, lR r1]) (fun _ => by first | (simp [entryFrame, mkF, argsToLocals, Value.category]; done) | rfl) ?_
  intro p e s m below meth c s₁ hx hby hml hret hnn hZ hown X0 e0
  have N0 := Fr.nil n0; have w := @ww Z a0 hw
  obtain ⟨_, T22, Lc22, X22, hQ22, st22⟩ := own_fin (superBack X0 hx hZ (y := mN10) hown (w 53 rfl) (own_sameOwn (y := mN10) (w 74 rfl) rfl (w 54 rfl) (by decide)) (w 54 rfl) (w 55 rfl) (by decide) (backOf (W := 0) (rm8_4 l Z a0 hw [] r0 r1 r2 c3 x4 x5 x6 x7 x8 x9 x10 r11 c12 u13 h0 n0 O0 f1 f2 f3 f4 hc5 f6 f7 f8 f9 f10 f11 f12 hc13 f14 f15 f16 l17 g18 f19 n20 n21) hZ (w 57 rfl) (w 39 rfl) (by decide) (by decide)) e0 (Ins.self f8) (g := (mkF m 2 #[lR r0, lR r1] [(.ref r1), (.ref r0)])) rfl (by rw [hml]; rfl) (w 57 rfl) (argsL := [(.ref r1)]) (rest := []) (lenOf pd__Ljava_lang_String__Ljava_lang_AbstractStringBuilder_ rfl) rfl (own_W rfl) (hb hby d7_2) (fun _ _ => ⟨rfl, e0, (by decide : 0 + 1 ≤ _), (by decide : 0 + 32 ≤ _)⟩))
  obtain ⟨b22_0, k22_0, rfl, N22q, K22, f23, f24, f25, f26, f27, f28, f29⟩ := hQ22
  have N22 := Fr.app N0 N22q
  have kp30 : Keep h0 T22.heap [r0] := (Keep.refl h0 [r0]).trans K22 (allS (Or.inl (List.mem_of_getElem? (i := 0) rfl)) all0)
  refine ⟨some (.ref r0), _, _, _, _, nofun, X22, by decide, by decide, ?_, fun fs hr => ?_⟩
  · exact ⟨b22_0, k22_0, rfl, N22, kp30, f23, f24, f25, f26, f27, f28, f29⟩
  · show SG p e below s₁ (mkF m 0 #[lR r0, lR r1] []) _
    refine qaN X0 hx hby d7_0 ?_
    refine qaN X0 hx hby d7_1 ?_
    refine st22.trans ?_
    refine XS.pop X22.here hx rfl (hb hby d7_5) rfl rfl ?_
    refine qaN X22 hx hby d7_6 ?_
    exact retOut X22 hx (i := .areturn) hret rfl (Or.inr (Or.inr (Or.inr (Or.inr ⟨rfl, rfl, rfl⟩)))) (hb hby d7_7) hr
def Q4_6 (Z : State) (r0 : Addr) (x1 : Int32) (r2 : Addr) (c3 : ClassId) (x4 x5 : Int32) (x6 x7 : Int32) (x8 x9 : Int32) (u10 : Value) (h0 : Heap) (n0 : Nat) (v : Option Value) (h : Heap) (L : List Loc) : Prop := ∃ (b1 b93_0 b93_1 : Addr) (k93_0 : ClassId), v = some (.ref b1) ∧ Fr n0 L ∧ Keep h0 h [] ∧ h0.size ≤ b1 ∧ Exa Z h b1 cs5 ∧ Fld Z h b1 cs5 "name" "Ljava/lang/String;" (.ref b93_0) ∧ h0.size ≤ b93_0 ∧ Exa Z h b93_0 "java/lang/String" ∧ Fld Z h b93_0 "java/lang/String" "coder" "B" vI1 ∧ Fld Z h b93_0 "java/lang/String" "value" "[B" (.ref b93_1) ∧ h0.size ≤ b93_1 ∧ Arv Z h b93_1 k93_0 .byte (8 : Int32) [vI58, vI0, (.int x4), (.int x5), (.int x6), (.int x7), (.int x8), (.int x9)] vI0 ∧ Exa Z h b93_1 "[B" ∧ b1 ≠ b93_0 ∧ b1 ≠ b93_1 ∧ b93_0 ≠ b93_1
theorem rm4_6 (l : Launch) (Z : State) (a0 : Array Value) (hw : own_HW a0 Z) (ws : List Jvm.Cond) (r0 : Addr) (x1 : Int32) (r2 : Addr) (c3 : ClassId) (x4 x5 : Int32) (x6 x7 : Int32) (x8 x9 : Int32) (u10 : Value) (h0 : Heap) (n0 : Nat) (O0 : Old Z n0 h0) (f12 : Sta Z Z.heap "java/lang/String" "COMPACT_STRINGS" "Z" (.int x1)) (hc13 : ¬ (x1 = (0 : Int32))) (f55 : Exa Z h0 r0 "java/lang/String") (f57 : Fld Z h0 r0 "java/lang/String" "value" "[B" (.ref r2)) (l58 : r0 < h0.size) (f64 : Arv Z h0 r2 c3 .byte (6 : Int32) [(.int x4), (.int x5), (.int x6), (.int x7), (.int x8), (.int x9)] vI0) (l65 : r2 < h0.size) (f69 : Fld Z h0 r0 "java/lang/String" "coder" "B" vI1) (f72 : Sta Z Z.heap cs7 "SIOOBE_FORMATTER" cs8 u10) (hc73 : u10.isRef = true) (f74 : Sta Z Z.heap "java/lang/StringUTF16" "$assertionsDisabled" "Z" vI1) (f75 : Sta Z Z.heap "java/lang/StringUTF16" "HI_BYTE_SHIFT" "I" vI0) (f76 : Sta Z Z.heap "java/lang/StringUTF16" "LO_BYTE_SHIFT" "I" vI8) :
    own_MH l mN25 prog_22_method_2_code 1 (some (.object cs5)) ws rR10_8_81_145 Z h0 #[(.ref r0)] (Q4_6 Z r0 x1 r2 c3 x4 x5 x6 x7 x8 x9 u10 h0 n0) := by
  have hEL : EW Z a0 consts_1 := own_EW hw
  refine own_openH hEL (plainFor_of_name pn_com_example_manojo_manojo_QueryTree_Parameter) (L0 := #[lR r0]) (fun _ => by first | (simp [entryFrame, mkF, argsToLocals, Value.category]; done) | rfl) ?_
  intro p e s m below meth c s₁ hx hby hml hret hnn hZ hown X0 e0 R0
  have N0 := Fr.nil n0; have w := @ww Z a0 hw
  obtain ⟨T1, h1, X1, e1, E1, A1, D1, -, st1⟩ := newO X0 hx hZ hown (w 27 rfl) (w 28 rfl) (w 25 rfl) e0 (g := (mkF m 0 #[lR r0] [])) rfl (hb hby d4_0) (by decide) (by decide)
  obtain ⟨b1, g1⟩ : ∃ z, z = h0.size := ⟨_, rfl⟩
  have sf2 : Safe Z consts_1 s.vm h0 b1 := Safe.new (Nat.le_of_eq g1.symm)
  rw [← g1] at A1 D1 st1
  have R3 := CHr.trans R0 (CHr.ext E1 R0.1)
  have f4 : Fld Z h1 b1 cs5 "name" "Ljava/lang/String;" .null := D1 (Or.inr (w 151 rfl)) (ty := (.object "java/lang/String")) (by decide)
  obtain ⟨T5, h5, X5, e5, E5, A5, D5, -, st5⟩ := newO X1 hx hZ hown (w 29 rfl) (w 30 rfl) (w 31 rfl) e1 (g := (mkF m 4 #[lR r0] [(.ref b1), (.ref b1)])) rfl (hb hby d4_4) (by decide) (by decide)
  obtain ⟨b5, g5⟩ : ∃ z, z = h1.size := ⟨_, rfl⟩
  have sf6 : Safe Z consts_1 s.vm h1 b5 := Safe.new (Nat.le_of_eq g5.symm)
  rw [← g5] at A5 D5 st5
  have R7 := CHr.trans R3 (CHr.ext E5 R3.1)
  have f8 : Fld Z h5 b5 cs0 "value" "[B" .null := D5 (Or.inl (w 44 rfl)) (ty := (.array .byte)) (by decide)
  have f9 : Fld Z h5 b5 cs0 "coder" "B" vI0 := D5 (Or.inl (w 46 rfl)) (ty := .byte) (by decide)
  have f10 : Fld Z h5 b5 cs0 "count" "I" vI0 := D5 (Or.inl (w 70 rfl)) (ty := .int) (by decide)
  have f11 : Fld Z h5 b5 cs0 "maybeLatin1" "Z" vI0 := D5 (Or.inl (w 235 rfl)) (ty := .boolean) (by decide)
  have o15 := Old.ext O0 E1
  have zz14 : n0 ≤ h1.size := by rw [← o15.1]; exact o15.2.1
  have g16 := Nat.le_trans zz14 (Nat.le_of_eq g5.symm)
  have o17 := Old.ext o15 E5
  obtain ⟨_, T18, Lc18, X18, hQ18, st18⟩ := own_fin (X5.specialBack hx (y := mN3) rfl hown (mvT hZ (w 32 rfl)) (mvT hZ (w 33 rfl)) (mvT hZ (w 34 rfl)) (by decide) (backOf (W := 3) (rm5_1 l Z a0 hw [] b5 x1 h5 n0 o17 f12 hc13 A5 f8 g16 f9 f10 f11 A5.lt) hZ (w 34 rfl) (w 31 rfl) (by decide) (by decide)) (g := (mkF m 8 #[lR r0] [(.ref b5), (.ref b5), (.ref b1), (.ref b1)])) rfl (by rw [hml]; rfl) (Steps.refl _) (a := b5) (argsL := []) (rest := [(.ref b5), (.ref b1), (.ref b1)]) (lenOf pd___V rfl) rfl (own_W rfl) (hb hby d4_8) (fun _ _ => ⟨rfl, e5, (by decide : 2 + 1 ≤ _), (by decide : 5 + 16 ≤ _)⟩))
  obtain ⟨b18_0, k18_0, rfl, N18q, K18, f19, f20, f21, f22, f23, f24, f25⟩ := hQ18
  have N18 := Fr.app N0 N18q
  have R26 := CHr.trans R7 (CHr.keep K18 (sfS (Safe.exa hZ.alike A5 (by decide) (by decide)) sf0) R7.1)
  have sf27 : Safe Z consts_1 s.vm h5 b18_0 := Safe.new f23
  have hS28 := (State.WarmedH.refl s).since 0
  have hstr : ∀ a ∈ Bundle.stringAtoms, a.before a0 Z = true := fun a q => hw a (own_str a q)
  obtain ⟨a29, T29, h29, kk29, b29, k29, X29, e29, E29, hS29, hk29, hZ29, ho29, EE29, C29, F29, V29, l29, m29, CR29, -, ne29, st29⟩ := ldcCH (s := s) (vm0 := s.vm) X18 hx hZ hown (w 47 rfl) hstr rfl hS28 (Nat.zero_le _) hEL (by simp [consts_1]) R26.1 (vs := [vI58]) (z := (1 : Int32)) ⟨by decide, by decide⟩ (by decide) rfl (g := (mkF m 11 #[lR r0] [(.ref b5), (.ref b1), (.ref b1)])) rfl (hb hby d4_11) (n := 4) (by decide) (by decide) (by decide) (by decide)
  have R30 := CHr.trans R26 CR29
  have f31 := (((A1.ext E5).keep K18).ext E29)
  have nl32 := ne29 _ (Safe.exa hZ29.alike f31 (by decide) (by decide))
  have f33 := ((A5.keep K18).ext E29)
  have nl34 := ne29 _ (Safe.exa hZ29.alike f33 (by decide) (by decide))
  have sf35 := (CHr.safe CR29 f24.lt (Safe.keep K18 (sfS (Safe.exa hZ.alike A5 (by decide) (by decide)) sf0) R7.1 sf27))
  have nl36 := ne29 _ sf35
  have f37 := (f21.ext E29)
  have f38 := (f19.ext E29)
  have f39 := (f24.ext E29)
  have f40 := (f20.ext E29)
  have zz41 : n0 ≤ h5.size := by rw [← o17.1]; exact o17.2.1
  have g42 := Nat.le_trans zz41 f23
  have n43 := Nat.ne_of_lt (Nat.lt_of_lt_of_le A5.lt f23)
  have f44 := (f22.ext E29)
  have o45 := Old.keep o17 K18 (allS g16 all0)
  have o46 := Old.ext o45 E29
  obtain ⟨_, T47, Lc47, X47, hQ47, st47⟩ := own_cV X29 hx hZ29 ho29 e29 (rm7_1 l Z a0 hw [] b5 a29 b29 (1 : Int32) k29 ([vI58]) x1 (0 : Int32) (0 : Int32) b18_0 (16 : Int32) k18_0 ([vI0, vI0, vI0, vI0, vI0, vI0, vI0, vI0, vI0, vI0, vI0, vI0, vI0, vI0, vI0, vI0]) (0 : Int32) (0 : Int32) h29 n0 o46 EE29 F29 V29 f12 hc13 C29 f37 f33 f38 f39 f40 (by decide) (by decide) (by decide) (by decide) (by decide) (by decide) (by decide) (by decide) g42 n43 g16 f44) f33 (w 48 rfl) (w 49 rfl) (w 51 rfl) (w 50 rfl) (w 52 rfl) (w 31 rfl) (by decide) (W := 2) (by decide) (by decide) (by decide) (by decide) (g := (mkF m 13 #[lR r0] [(.ref a29), (.ref b5), (.ref b1), (.ref b1)])) rfl (by rw [hml]; rfl) (argsL := [(.ref a29)]) (rest := [(.ref b1), (.ref b1)]) (lenOf pd__Ljava_lang_String__Ljava_lang_StringBuilder_ rfl) rfl (own_W rfl) (hb hby d4_13)
  obtain ⟨rfl, N47q, K47, f48, f49, f50, f51, f52⟩ := hQ47
  have N47 := Fr.app N18 N47q
  have R53 := CHr.trans R30 (CHr.keep K47 (sfS sf35 (sfS (Safe.exa hZ29.alike f33 (by decide) (by decide)) sf0)) R30.1)
  have f54 : Arv Z T47.heap b18_0 k18_0 .byte (16 : Int32) [vI58, vI0, vI0, vI0, vI0, vI0, vI0, vI0, vI0, vI0, vI0, vI0, vI0, vI0, vI0, vI0] vI0 := own_cpx (by decide : (((0 : Int32) <<< ((0 : Int32) &&& 31))).toNatClampNeg = 0) (by decide : (((0 : Int32) <<< ((0 : Int32) &&& 31))).toNatClampNeg + ((1 : Int32)).toNatClampNeg = 1) f48
  have f56 := (((((f55.ext E1).ext E5).keep K18).ext E29).keep K47)
  have zs59 := E1.1
  have n60 := Nat.ne_of_lt (Nat.lt_of_lt_of_le (Nat.lt_of_lt_of_le l58 zs59) (Nat.le_of_eq g5.symm))
  have zs61 := Nat.le_trans zs59 E5.1
  have n62 := Nat.ne_of_lt (Nat.lt_of_lt_of_le (Nat.lt_of_lt_of_le l58 zs61) f23)
  have f63 := (((((f57.ext E1).ext E5).keep K18 (ninS n60 nin0)).ext E29).keep K47 (ninS n62 (ninS n60 nin0)))
  have n66 := Nat.ne_of_lt (Nat.lt_of_lt_of_le (Nat.lt_of_lt_of_le l65 zs59) (Nat.le_of_eq g5.symm))
  have n67 := Nat.ne_of_lt (Nat.lt_of_lt_of_le (Nat.lt_of_lt_of_le l65 zs61) f23)
  have f68 := (((((f64.ext E1).ext E5).keep K18 (ninS n66 nin0)).ext E29).keep K47 (ninS n67 (ninS n66 nin0)))
  have f70 := (((((f69.ext E1).ext E5).keep K18 (ninS n60 nin0)).ext E29).keep K47 (ninS n62 (ninS n60 nin0)))
  have f71 := (f33.keep K47)
  have zs77 := K18.1
  have zs78 := Nat.le_trans zs77 E29.1
  have zs79 := Nat.le_trans zs78 K47.1
  have o80 := Old.keep o46 K47 (allS g42 (allS g16 all0))
  obtain ⟨_, T81, Lc81, X81, hQ81, st81⟩ := own_cV X47 hx hZ29 ho29 rfl (rm7_4 l Z a0 hw [] b5 r0 r2 c3 x4 x5 x6 x7 x8 x9 x1 b18_0 k18_0 u10 T47.heap n0 o80 f56 f63 f68 f12 hc13 f70 f49 f71 f50 f54 f51 f72 hc73 f74 f75 f76 (Nat.lt_of_lt_of_le A5.lt zs79) g16 f52 n60 n66) f71 (w 48 rfl) (w 49 rfl) (w 51 rfl) (w 50 rfl) (w 52 rfl) (w 31 rfl) (by decide) (W := 2) (by decide) (by decide) (by decide) (by decide) (g := (mkF m 17 #[lR r0] [(.ref r0), (.ref b5), (.ref b1), (.ref b1)])) rfl (by rw [hml]; rfl) (argsL := [(.ref r0)]) (rest := [(.ref b1), (.ref b1)]) (lenOf pd__Ljava_lang_String__Ljava_lang_StringBuilder_ rfl) rfl (own_W rfl) (hb hby d4_17)
  obtain ⟨b81_0, k81_0, rfl, N81q, K81, f82, f83, f84, f85, f86, f87, f88⟩ := hQ81
  have N81 := Fr.app N47 N81q
  have R89 := CHr.trans R53 (CHr.keep K81 (sfS (Safe.exa hZ29.alike f71 (by decide) (by decide)) sf0) R53.1)
  have sf90 : Safe Z consts_1 T29.vm T47.heap b81_0 := Safe.new f86
  have f91 := (f71.keep K81)
  have o92 := Old.keep o80 K81 (allS g16 all0)
  obtain ⟨_, T93, Lc93, X93, hQ93, st93⟩ := own_cV X81 hx hZ29 ho29 rfl (rm15_2 l Z a0 hw [] b5 b81_0 (4 : Int32) x1 (1 : Int32) (0 : Int32) (32 : Int32) k81_0 ([vI58, vI0, (.int x4), (.int x5), (.int x6), (.int x7), (.int x8), (.int x9), vI0, vI0, vI0, vI0, vI0, vI0, vI0, vI0, vI0, vI0, vI0, vI0, vI0, vI0, vI0, vI0, vI0, vI0, vI0, vI0, vI0, vI0, vI0, vI0]) T81.heap n0 o92 f91 f83 f84 f12 hc13 f82 (by decide) f85 (by decide) f88 f87.lt (by decide) (by decide) (by decide) (by decide) (by decide) (by decide)) f91 (w 96 rfl) (w 97 rfl) (w 99 rfl) (w 98 rfl) (w 100 rfl) (w 31 rfl) (by decide) (W := 2) (by decide) (by decide) (by decide) (by decide) (g := (mkF m 20 #[lR r0] [(.ref b5), (.ref b1), (.ref b1)])) rfl (by rw [hml]; rfl) (argsL := []) (rest := [(.ref b1), (.ref b1)]) (lenOf pd___Ljava_lang_String_ rfl) rfl (own_W rfl) (hb hby d4_20)
  obtain ⟨b93_0, b93_1, k93_0, rfl, N93q, K93, f94, f95, f96, f97, f98, f99, f100, f101⟩ := hQ93
  have N93 := Fr.app N81 N93q
  have R102 := CHr.trans R89 (CHr.keep K93 sf0 R89.1)
  have sf103 : Safe Z consts_1 T29.vm T81.heap b93_0 := Safe.new f94
  have sf104 : Safe Z consts_1 T29.vm T81.heap b93_1 := Safe.new f98
  have f105 : Arv Z T93.heap b93_1 k93_0 .byte (8 : Int32) [vI58, vI0, (.int x4), (.int x5), (.int x6), (.int x7), (.int x8), (.int x9)] vI0 := own_trunc (ws := [vI58, vI0, (.int x4), (.int x5), (.int x6), (.int x7), (.int x8), (.int x9)]) (rest := [vI0, vI0, vI0, vI0, vI0, vI0, vI0, vI0, vI0, vI0, vI0, vI0, vI0, vI0, vI0, vI0, vI0, vI0, vI0, vI0, vI0, vI0, vI0, vI0]) (own_lenK (n := 8) rfl (by decide)) f99
  have f106 := (((f31.keep K47).keep K81).keep K93)
  have n107 := Nat.ne_of_lt (Nat.lt_of_lt_of_le A1.lt (Nat.le_of_eq g5.symm))
  have zs108 := E5.1
  have n109 := Nat.ne_of_lt (Nat.lt_of_lt_of_le (Nat.lt_of_lt_of_le A1.lt zs108) f23)
  have f110 := ((((((f4.ext E5).keep K18 (ninS n107 nin0)).ext E29).keep K47 (ninS n109 (ninS n107 nin0))).keep K81 (ninS n107 nin0)).keep K93 nin0)
  have zz111 : n0 ≤ h0.size := by rw [← O0.1]; exact O0.2.1
  have g112 := Nat.le_trans zz111 (Nat.le_of_eq g1.symm)
  have o113 := Old.keep o92 K93 all0
  obtain ⟨_, T114, Lc114, X114, hQ114, st114⟩ := own_fin (X93.specialBack hx (y := mN24) rfl ho29 (mvT hZ29 (w 141 rfl)) (mvT hZ29 (w 142 rfl)) (mvT hZ29 (w 143 rfl)) (by decide) (backOf (W := 1) (rm26_1 l Z a0 hw [] b1 b93_0 T93.heap n0 o113 f106 f110 g112) hZ29 (w 143 rfl) (w 25 rfl) (by decide) (by decide)) (g := (mkF m 23 #[lR r0] [(.ref b93_0), (.ref b1), (.ref b1)])) rfl (by rw [hml]; rfl) (Steps.refl _) (a := b1) (argsL := [(.ref b93_0)]) (rest := [(.ref b1)]) (lenOf pd__Ljava_lang_String__V rfl) rfl (own_W rfl) (hb hby d4_23) (fun _ _ => ⟨rfl, rfl, (by decide : 8 + 0 ≤ _), (by decide : 81 + 0 ≤ _)⟩))
  obtain ⟨rfl, N114q, K114, f115⟩ := hQ114
  have N114 := Fr.app N93 N114q
  have R116 := CHr.trans R102 (CHr.keep K114 (sfS (Safe.exa hZ29.alike f106 (by decide) (by decide)) sf0) R102.1)
  have f117 := (f106.keep K114)
  have zs118 := Nat.le_trans zs61 K18.1
  have zs119 := Nat.le_trans zs118 E29.1
  have zs120 := Nat.le_trans zs119 K47.1
  have zs121 := Nat.le_trans zs120 K81.1
  have f122 := (f95.keep K114)
  have zs123 := Nat.le_trans zs108 K18.1
  have zs124 := Nat.le_trans zs123 E29.1
  have zs125 := Nat.le_trans zs124 K47.1
  have zs126 := Nat.le_trans zs125 K81.1
  have n127 := Nat.ne_of_lt (Nat.lt_of_lt_of_le (Nat.lt_of_lt_of_le A1.lt zs126) f94)
  have f128 := (f96.keep K114 (ninS (Ne.symm n127) nin0))
  have f129 := (f97.keep K114 (ninS (Ne.symm n127) nin0))
  have n130 := Nat.ne_of_lt (Nat.lt_of_lt_of_le (Nat.lt_of_lt_of_le A1.lt zs126) f98)
  have f131 := (f105.keep K114 (ninS (Ne.symm n130) nin0))
  have f132 := (f100.keep K114)
  have kp133 : Keep h0 h1 [] := (Keep.refl h0 []).ext E1
  have kp134 : Keep h0 h5 [] := kp133.ext E5
  have kp135 : Keep h0 T18.heap [] := kp134.trans K18 (allS (Or.inr (Nat.le_trans zs59 (Nat.le_of_eq g5.symm))) all0)
  have kp136 : Keep h0 h29 [] := kp135.ext E29
  have kp137 : Keep h0 T47.heap [] := kp136.trans K47 (allS (Or.inr (Nat.le_trans zs61 f23)) (allS (Or.inr (Nat.le_trans zs59 (Nat.le_of_eq g5.symm))) all0))
  have kp138 : Keep h0 T81.heap [] := kp137.trans K81 (allS (Or.inr (Nat.le_trans zs59 (Nat.le_of_eq g5.symm))) all0)
  have kp139 : Keep h0 T93.heap [] := kp138.trans K93 all0
  have kp140 : Keep h0 T114.heap [] := kp139.trans K114 (allS (Or.inr (Nat.le_of_eq g1.symm)) all0)
  have zs141 := K47.1
  have zs142 := Nat.le_trans zs141 K81.1
  have zs143 := Nat.le_trans zs142 K93.1
  have zs144 := Nat.le_trans zs143 K114.1
  refine ⟨some (.ref b1), _, _, _, _, _, _, _, nofun, X114, by decide, by decide, hS29, ((Nat.le_trans hk29 zs144)), hZ29, rfl, R116, ?_, fun fs hr => ?_⟩
  · exact ⟨b1, b93_0, b93_1, k93_0, rfl, N114, kp140, (Nat.le_of_eq g1.symm), f117, f115, (Nat.le_trans zs121 f94), f122, f128, f129, (Nat.le_trans zs121 f98), f131, f132, n127, n130, f101⟩
  · show SG p e below s₁ (mkF m 0 #[lR r0] []) _
    refine st1 _ ?_
    refine qd X1 hx hby d4_3 ?_
    refine st5 _ ?_
    refine qd X5 hx hby d4_7 ?_
    refine st18.trans ?_
    refine st29 _ ?_
    refine st47 _ ?_
    refine qaN X47 hx hby d4_16 ?_
    refine st81 _ ?_
    refine st93 _ ?_
    show SG p e below T93 (mkF m 23 #[lR r0] [(.ref b93_0), (.ref b1), (.ref b1)]) _
    refine st114.trans ?_
    exact retOut X114 hx (i := .areturn) hret rfl (Or.inr (Or.inr (Or.inr (Or.inr ⟨rfl, rfl, rfl⟩)))) (hb hby d4_26) hr
def Q0_7 (Z : State) (x0 x1 : Int32) (x2 x3 : Int32) (x4 x5 : Int32) (x6 x7 : Int32) (u8 : Value) (h0 : Heap) (n0 : Nat) (v : Option Value) (h : Heap) (L : List Loc) : Prop := v = some vI1 ∧ Fr n0 L
theorem rm0_7 (l : Launch) (Z : State) (a0 : Array Value) (hw : own_HW a0 Z) (ws : List Jvm.Cond) (x0 x1 : Int32) (x2 x3 : Int32) (x4 x5 : Int32) (x6 x7 : Int32) (u8 : Value) (h0 : Heap) (n0 : Nat) (O0 : Old Z n0 h0) (hc1 : (x0 &&& (3 : Int32)) = (3 : Int32)) (hq2 : ((x1 &&& (65535 : Int32)).toUInt32.toUInt16.toUInt32.toInt32) = x4) (hq3 : ((x2 &&& (65535 : Int32)).toUInt32.toUInt16.toUInt32.toInt32) = x5) (hq4 : ((x3 &&& (65535 : Int32)).toUInt32.toUInt16.toUInt32.toInt32) = x6) (f30 : Sta Z Z.heap "java/lang/String" "COMPACT_STRINGS" "Z" (.int x7)) (hc31 : ¬ (x7 = (0 : Int32))) (hc32 : (255 : Int32) < (nar .char x4)) (f33 : Sta Z Z.heap "java/lang/StringUTF16" "$assertionsDisabled" "Z" vI1) (f34 : Sta Z Z.heap "java/lang/StringUTF16" "HI_BYTE_SHIFT" "I" vI0) (f35 : Sta Z Z.heap "java/lang/StringUTF16" "LO_BYTE_SHIFT" "I" vI8) (hc40 : (255 : Int32) < (nar .char ((((((((nar .char x4) >>> ((0 : Int32) &&& 31)).toInt8.toInt32).toInt8.toInt32) &&& (255 : Int32)) <<< ((0 : Int32) &&& 31)) ||| ((((((nar .char x4) >>> ((8 : Int32) &&& 31)).toInt8.toInt32).toInt8.toInt32) &&& (255 : Int32)) <<< ((8 : Int32) &&& 31))).toUInt32.toUInt16.toUInt32.toInt32))) (f59 : Sta Z Z.heap cs7 "SIOOBE_FORMATTER" cs8 u8) (hc60 : u8.isRef = true) (hc83 : (nar .char (nar .char (nar .char ((((((((nar .char x4) >>> ((0 : Int32) &&& 31)).toInt8.toInt32).toInt8.toInt32) &&& (255 : Int32)) <<< ((0 : Int32) &&& 31)) ||| ((((((nar .char x4) >>> ((8 : Int32) &&& 31)).toInt8.toInt32).toInt8.toInt32) &&& (255 : Int32)) <<< ((8 : Int32) &&& 31))).toUInt32.toUInt16.toUInt32.toInt32)))) = x4) (hc85 : (nar .char (nar .char (nar .char ((((((((nar .char x5) >>> ((0 : Int32) &&& 31)).toInt8.toInt32).toInt8.toInt32) &&& (255 : Int32)) <<< ((0 : Int32) &&& 31)) ||| ((((((nar .char x5) >>> ((8 : Int32) &&& 31)).toInt8.toInt32).toInt8.toInt32) &&& (255 : Int32)) <<< ((8 : Int32) &&& 31))).toUInt32.toUInt16.toUInt32.toInt32)))) = x5) (hc87 : (nar .char (nar .char (nar .char ((((((((nar .char x6) >>> ((0 : Int32) &&& 31)).toInt8.toInt32).toInt8.toInt32) &&& (255 : Int32)) <<< ((0 : Int32) &&& 31)) ||| ((((((nar .char x6) >>> ((8 : Int32) &&& 31)).toInt8.toInt32).toInt8.toInt32) &&& (255 : Int32)) <<< ((8 : Int32) &&& 31))).toUInt32.toUInt16.toUInt32.toInt32)))) = x6) :
    own_MH l x code maxLocals ret ws room_1 Z h0 #[(.int x0), (.int x1), (.int x2), (.int x3)] (Q0_7 Z x0 x1 x2 x3 x4 x5 x6 x7 u8 h0 n0) := by
  have hEL : EW Z a0 consts_1 := own_EW hw
  refine own_openH hEL (plainFor_of_name pn_com_example_manojo_manojo_ParameterNamedPinLaw) (L0 := #[lI x0, lI x1, lI x2, lI x3, lU, lU, lU, lU, lU, lU, lU, lU]) (fun _ => by first | (simp [entryFrame, mkF, argsToLocals, Value.category, maxLocals]; done) | rfl) ?_
  intro p e s m below meth c s₁ hx hby hml hret hnn hZ hown X0 e0 R0
  have N0 := Fr.nil n0; have w := @ww Z a0 hw
  obtain ⟨T5, h5, k5, X5, e5, E5, A5, B5, st5⟩ := newPE X0 hx hZ (w 1 rfl) e0 (g := (mkF m 28 #[lI x0, lI x1, lI x2, lI x3, lV vI3, lI x4, lI x5, lI x6, lU, lU, lU, lU] [vI3])) rfl (hb hby at_28) rfl (by decide) (cap := 3) (by decide) (by decide) (by decide) (by decide) (ad := "[C") rfl
  obtain ⟨b5, g5⟩ : ∃ z, z = h0.size := ⟨_, rfl⟩
  have sf6 : Safe Z consts_1 s.vm h0 b5 := Safe.new (Nat.le_of_eq g5.symm)
  rw [← g5] at A5 B5 st5
  have R7 := CHr.trans R0 (CHr.ext E5 R0.1)
  have V5 : Arv Z h5 b5 k5 .char (3 : Int32) [vI0, vI0, vI0] vI0 := (Arv.new A5 (by decide)).pad (pad_rep [] vI0 3)
  obtain ⟨clq8, Arq8, qq8, Sq8, Nq8, Hq8, Gq8⟩ := id V5
  have zz9 : n0 ≤ h0.size := by rw [← O0.1]; exact O0.2.1
  have g10 := Nat.le_trans zz9 (Nat.le_of_eq g5.symm)
  obtain ⟨T11, h11, X11, e11, W11, st11⟩ := stC X5 hx hZ e5 Arq8 (j := (0 : Int32)) (inb_of Sq8 ⟨(by decide : ¬ ((0 : Int32) < (0 : Int32))), (by decide : (0 : Int32) < (3 : Int32))⟩) (g := (mkF m 42 #[lI x0, lI x1, lI x2, lI x3, lV vI3, lI x4, lI x5, lI x6, lR b5, lU, lU, lU] [(.int x4), vI0, (.ref b5)])) rfl rfl (hb hby at_42)
  have sf12 : Safe Z consts_1 s.vm h5 b5 := (Safe.exa hZ.alike B5 (by decide) (by decide))
  have R13 := CHr.trans R7 (CHr.wr W11 sf12 R7.1)
  have V11 : Arv Z h11 b5 k5 .char (3 : Int32) [(.int (nar .char x4)), vI0, vI0] vI0 := Arv.set Arq8 qq8 Sq8 Nq8 Hq8 Gq8 (fits_nar_char _) W11 0 rfl (Nat.le_of_ble_eq_true rfl)
  have N11 := Fr.snoc X11 N0 g10
  obtain ⟨clq14, Arq14, qq14, Sq14, Nq14, Hq14, Gq14⟩ := id V11
  obtain ⟨T15, h15, X15, e15, W15, st15⟩ := stC X11 hx hZ e11 Arq14 (j := (1 : Int32)) (inb_of Sq14 ⟨(by decide : ¬ ((1 : Int32) < (0 : Int32))), (by decide : (1 : Int32) < (3 : Int32))⟩) (g := (mkF m 54 #[lI x0, lI x1, lI x2, lI x3, lV vI3, lI x4, lI x5, lI x6, lR b5, lU, lU, lU] [(.int x5), vI1, (.ref b5)])) rfl rfl (hb hby at_54)
  have f16 := (B5.wr W11)
  have sf17 : Safe Z consts_1 s.vm h11 b5 := (Safe.exa hZ.alike f16 (by decide) (by decide))
  have R18 := CHr.trans R13 (CHr.wr W15 sf17 R13.1)
  have V15 : Arv Z h15 b5 k5 .char (3 : Int32) [(.int (nar .char x4)), (.int (nar .char x5)), vI0] vI0 := Arv.set Arq14 qq14 Sq14 Nq14 Hq14 Gq14 (fits_nar_char _) W15 1 rfl (Nat.le_of_ble_eq_true rfl)
  have N15 := Fr.snoc X15 N11 g10
  obtain ⟨clq19, Arq19, qq19, Sq19, Nq19, Hq19, Gq19⟩ := id V15
  obtain ⟨T20, h20, X20, e20, W20, st20⟩ := stC X15 hx hZ e15 Arq19 (j := (2 : Int32)) (inb_of Sq19 ⟨(by decide : ¬ ((2 : Int32) < (0 : Int32))), (by decide : (2 : Int32) < (3 : Int32))⟩) (g := (mkF m 66 #[lI x0, lI x1, lI x2, lI x3, lV vI3, lI x4, lI x5, lI x6, lR b5, lU, lU, lU] [(.int x6), vI2, (.ref b5)])) rfl rfl (hb hby at_66)
  have f21 := (f16.wr W15)
  have sf22 : Safe Z consts_1 s.vm h15 b5 := (Safe.exa hZ.alike f21 (by decide) (by decide))
  have R23 := CHr.trans R18 (CHr.wr W20 sf22 R18.1)
  have V20 : Arv Z h20 b5 k5 .char (3 : Int32) [(.int (nar .char x4)), (.int (nar .char x5)), (.int (nar .char x6))] vI0 := Arv.set Arq19 qq19 Sq19 Nq19 Hq19 Gq19 (fits_nar_char _) W20 2 rfl (Nat.le_of_ble_eq_true rfl)
  have N20 := Fr.snoc X20 N15 g10
  obtain ⟨T24, h24, X24, e24, E24, A24, D24, -, st24⟩ := newO X20 hx hZ hown (w 2 rfl) (w 3 rfl) (w 4 rfl) e20 (g := (mkF m 67 #[lI x0, lI x1, lI x2, lI x3, lV vI3, lI x4, lI x5, lI x6, lR b5, lU, lU, lU] [])) rfl (hb hby at_67) (by decide) (by decide)
  obtain ⟨b24, g24⟩ : ∃ z, z = h20.size := ⟨_, rfl⟩
  have sf25 : Safe Z consts_1 s.vm h20 b24 := Safe.new (Nat.le_of_eq g24.symm)
  rw [← g24] at A24 D24 st24
  have R26 := CHr.trans R23 (CHr.ext E24 R23.1)
  have f27 : Fld Z h24 b24 "java/lang/String" "value" "[B" .null := D24 (Or.inr (w 17 rfl)) (ty := (.array .byte)) (by decide)
  have f28 : Fld Z h24 b24 "java/lang/String" "coder" "B" vI0 := D24 (Or.inr (w 18 rfl)) (ty := .byte) (by decide)
  have f29 := (V20.ext E24)
  have zs36 := (Nat.le_of_eq W11.size.symm)
  have zs37 := Nat.le_trans zs36 (Nat.le_of_eq W15.size.symm)
  have zs38 := Nat.le_trans zs37 (Nat.le_of_eq W20.size.symm)
  have zs39 := Nat.le_trans zs38 E24.1
  have o42 := Old.ext O0 E5
  have o43 := Old.wr o42 W11 g10
  have o44 := Old.wr o43 W15 g10
  have o45 := Old.wr o44 W20 g10
  have zz41 : n0 ≤ h20.size := by rw [← o45.1]; exact o45.2.1
  have g46 := Nat.le_trans zz41 (Nat.le_of_eq g24.symm)
  have o47 := Old.ext o45 E24
  obtain ⟨_, T48, Lc48, X48, hQ48, st48⟩ := own_fin (X24.specialBack hx (y := mN1) rfl hown (mvT hZ (w 5 rfl)) (mvT hZ (w 6 rfl)) (mvT hZ (w 7 rfl)) (by decide) (backOf (W := 1) (rm1_5 l Z a0 hw [] b24 b5 k5 (nar .char x4) (nar .char x5) (nar .char x6) x7 h24 n0 o47 f29 f30 hc31 hc32 f33 f34 f35 (Nat.lt_of_lt_of_le V5.lt zs39) hc40 A24 f28 g46 f27 A24.lt) hZ (w 7 rfl) (w 4 rfl) (by decide) (by decide)) (g := (mkF m 73 #[lI x0, lI x1, lI x2, lI x3, lV vI3, lI x4, lI x5, lI x6, lR b5, lU, lU, lU] [(.ref b5), (.ref b24), (.ref b24)])) rfl (by rw [hml]; rfl) (Steps.refl _) (a := b24) (argsL := [(.ref b5)]) (rest := [(.ref b24)]) (lenOf pd___C_V rfl) rfl (own_W rfl) (hb hby at_73) (fun _ _ => ⟨rfl, e24, (by decide : 2 + 2 ≤ _), (by decide : 7 + 9 ≤ _)⟩))
  obtain ⟨b48_0, k48_0, rfl, N48q, K48, f49, f50, f51, f52, f53⟩ := hQ48
  have N48 := Fr.app N20 N48q
  have sf54 := (Safe.ext E24 R23.1 sf25)
  have R55 := CHr.trans R26 (CHr.keep K48 (sfS sf54 sf0) R26.1)
  have sf56 : Safe Z consts_1 s.vm h24 b48_0 := Safe.new f51
  have f57 := (A24.keep K48)
  have zs58 := K48.1
  have o61 := Old.keep o47 K48 (allS g46 all0)
  have hS62 := (State.WarmedH.refl s).since 0
  obtain ⟨_, _, ⟨T63, L63, k63, n63⟩, -, X63, hs63, hg63, ⟨Lc63, hQ63, l63, y63, z63, cr63⟩, st63⟩ := callSS X48 hx (y := mN25) hown (mvT hZ (w 23 rfl)) (mvT hZ (w 24 rfl)) (mvT hZ (w 25 rfl)) (mvT hZ (w 26 rfl)) (by decide) (backOfSH (s := s) (vm0 := s.vm) (W := 0) (rm4_6 l Z a0 hw [] b24 x7 b48_0 k48_0 ((((nar .char x4) >>> ((0 : Int32) &&& 31)).toInt8.toInt32).toInt8.toInt32) ((((nar .char x4) >>> ((8 : Int32) &&& 31)).toInt8.toInt32).toInt8.toInt32) ((((nar .char x5) >>> ((0 : Int32) &&& 31)).toInt8.toInt32).toInt8.toInt32) ((((nar .char x5) >>> ((8 : Int32) &&& 31)).toInt8.toInt32).toInt8.toInt32) ((((nar .char x6) >>> ((0 : Int32) &&& 31)).toInt8.toInt32).toInt8.toInt32) ((((nar .char x6) >>> ((8 : Int32) &&& 31)).toInt8.toInt32).toInt8.toInt32) u8 T48.heap n0 o61 f30 hc31 f57 f50 (Nat.lt_of_lt_of_le A24.lt zs58) f53 f52.lt f49 f59 hc60 f33 f34 f35) hZ (w 26 rfl) (w 25 rfl) (by decide) (by decide) hEL R55.1) (g := (mkF m 80 #[lI x0, lI x1, lI x2, lI x3, lV vI3, lI x4, lI x5, lI x6, lR b5, lR b24, lU, lU] [(.ref b24)])) rfl (by rw [hml]; rfl) (argsL := [(.ref b24)]) (rest := []) (lenOf pd__Ljava_lang_String__Lcom_example_manojo_manojo_QueryTree_Parameter_ rfl) rfl (own_W rfl) (hb hby at_80) (fun _ _ => ⟨rfl, rfl, (by decide : 4 + 8 ≤ _), (by decide : 16 + 81 ≤ _)⟩)
  dsimp only [Pt.U, Pt.locs, Pt.cells, Pt.slots] at X63 l63 y63 z63 st63 hQ63 hs63 hg63 cr63
  subst l63 y63 z63
  obtain ⟨X63, hS63, hZ63, ho63⟩ := rebS (s := s) (vm0 := s.vm) hS62 ((Nat.zero_le _)) X63 hs63 hg63 hZ hown
  obtain ⟨b63_0, b63_1, b63_2, k63_0, rfl, N63q, K63, f64, f65, f66, f67, f68, f69, f70, f71, f72, f73, f74, f75, f76⟩ := hQ63
  have N63 := Fr.app N48 N63q
  have R77 := CHr.trans R55 cr63
  have o78 := Old.keep o61 K63 all0
  obtain ⟨_, T79, Lc79, X79, hQ79, st79⟩ := own_cV X63 hx hZ63 ho63 rfl (rm28_1 l Z a0 hw [] b63_0 b63_1 T63.heap n0 o78 f66) f65 (w 152 rfl) (w 153 rfl) (w 155 rfl) (w 154 rfl) (w 156 rfl) (w 25 rfl) (by decide) (W := 0) (by decide) (by decide) (by decide) (by decide) (g := (mkF m 87 #[lI x0, lI x1, lI x2, lI x3, lV vI3, lI x4, lI x5, lI x6, lR b5, lR b24, lR b63_0, lU] [(.ref b63_0)])) rfl (by rw [hml]; rfl) (argsL := []) (rest := []) (lenOf pd___Ljava_lang_String_ rfl) rfl (own_W rfl) (hb hby at_87)
  obtain ⟨rfl, N79q, E79⟩ := hQ79
  have N79 := Fr.app N63 N79q
  obtain ⟨_, T80, Lc80, X80, hQ80, st80⟩ := own_cV X79 hx hZ63 ho63 E79 (rm9_1 l Z a0 hw [] b63_1 b63_2 (8 : Int32) k63_0 ([vI58, vI0, (.int ((((nar .char x4) >>> ((0 : Int32) &&& 31)).toInt8.toInt32).toInt8.toInt32)), (.int ((((nar .char x4) >>> ((8 : Int32) &&& 31)).toInt8.toInt32).toInt8.toInt32)), (.int ((((nar .char x5) >>> ((0 : Int32) &&& 31)).toInt8.toInt32).toInt8.toInt32)), (.int ((((nar .char x5) >>> ((8 : Int32) &&& 31)).toInt8.toInt32).toInt8.toInt32)), (.int ((((nar .char x6) >>> ((0 : Int32) &&& 31)).toInt8.toInt32).toInt8.toInt32)), (.int ((((nar .char x6) >>> ((8 : Int32) &&& 31)).toInt8.toInt32).toInt8.toInt32))]) x7 (1 : Int32) T63.heap n0 o78 f70 f72 f68 f30 hc31 f69) f68 (w 157 rfl) (w 59 rfl) (w 61 rfl) (w 60 rfl) (w 62 rfl) (w 4 rfl) (by decide) (W := 0) (by decide) (by decide) (by decide) (by decide) (g := (mkF m 99 #[lI x0, lI x1, lI x2, lI x3, lV vI3, lI x4, lI x5, lI x6, lR b5, lR b24, lR b63_0, lR b63_1] [(.ref b63_1)])) rfl (by rw [hml]; rfl) (argsL := []) (rest := []) (lenOf pd___I rfl) rfl (own_W rfl) (hb hby at_99)
  obtain ⟨rfl, N80q, E80⟩ := hQ80
  have N80 := Fr.app N79 N80q
  obtain ⟨_, T81, Lc81, X81, hQ81, st81⟩ := own_cV X80 hx hZ63 ho63 E80 (rm29_2 l Z a0 hw [] b63_1 (0 : Int32) x7 (1 : Int32) b63_2 (8 : Int32) k63_0 ([vI58, vI0, (.int ((((nar .char x4) >>> ((0 : Int32) &&& 31)).toInt8.toInt32).toInt8.toInt32)), (.int ((((nar .char x4) >>> ((8 : Int32) &&& 31)).toInt8.toInt32).toInt8.toInt32)), (.int ((((nar .char x5) >>> ((0 : Int32) &&& 31)).toInt8.toInt32).toInt8.toInt32)), (.int ((((nar .char x5) >>> ((8 : Int32) &&& 31)).toInt8.toInt32).toInt8.toInt32)), (.int ((((nar .char x6) >>> ((0 : Int32) &&& 31)).toInt8.toInt32).toInt8.toInt32)), (.int ((((nar .char x6) >>> ((8 : Int32) &&& 31)).toInt8.toInt32).toInt8.toInt32))]) u8 (58 : Int32) (0 : Int32) T63.heap n0 o78 f68 f30 hc31 f69 (by decide) f70 f72 f59 hc60 (by decide) (by decide) f33 (own_gd (n := 0) rfl rfl) (by decide) (by decide) f34 (own_gd (n := 1) rfl rfl) (by decide) (by decide) f35) f68 (w 158 rfl) (w 159 rfl) (w 161 rfl) (w 160 rfl) (w 162 rfl) (w 4 rfl) (by decide) (W := 0) (by decide) (by decide) (by decide) (by decide) (g := (mkF m 114 #[lI x0, lI x1, lI x2, lI x3, lV vI3, lI x4, lI x5, lI x6, lR b5, lR b24, lR b63_0, lR b63_1] [vI0, (.ref b63_1)])) rfl (by rw [hml]; rfl) (argsL := [vI0]) (rest := []) (lenOf pd__I_C rfl) rfl (own_W rfl) (hb hby at_114)
  obtain ⟨rfl, N81q, E81⟩ := hQ81
  have N81 := Fr.app N80 N81q
  obtain ⟨_, T82, Lc82, X82, hQ82, st82⟩ := own_cV X81 hx hZ63 ho63 E81 (rm29_2 l Z a0 hw [] b63_1 (1 : Int32) x7 (1 : Int32) b63_2 (8 : Int32) k63_0 ([vI58, vI0, (.int ((((nar .char x4) >>> ((0 : Int32) &&& 31)).toInt8.toInt32).toInt8.toInt32)), (.int ((((nar .char x4) >>> ((8 : Int32) &&& 31)).toInt8.toInt32).toInt8.toInt32)), (.int ((((nar .char x5) >>> ((0 : Int32) &&& 31)).toInt8.toInt32).toInt8.toInt32)), (.int ((((nar .char x5) >>> ((8 : Int32) &&& 31)).toInt8.toInt32).toInt8.toInt32)), (.int ((((nar .char x6) >>> ((0 : Int32) &&& 31)).toInt8.toInt32).toInt8.toInt32)), (.int ((((nar .char x6) >>> ((8 : Int32) &&& 31)).toInt8.toInt32).toInt8.toInt32))]) u8 ((((nar .char x4) >>> ((0 : Int32) &&& 31)).toInt8.toInt32).toInt8.toInt32) ((((nar .char x4) >>> ((8 : Int32) &&& 31)).toInt8.toInt32).toInt8.toInt32) T63.heap n0 o78 f68 f30 hc31 f69 (by decide) f70 f72 f59 hc60 (by decide) (by decide) f33 (own_gd (n := 2) rfl rfl) (by decide) (by decide) f34 (own_gd (n := 3) rfl rfl) (by decide) (by decide) f35) f68 (w 158 rfl) (w 159 rfl) (w 161 rfl) (w 160 rfl) (w 162 rfl) (w 4 rfl) (by decide) (W := 0) (by decide) (by decide) (by decide) (by decide) (g := (mkF m 132 #[lI x0, lI x1, lI x2, lI x3, lV vI3, lI x4, lI x5, lI x6, lR b5, lR b24, lR b63_0, lR b63_1] [vI1, (.ref b63_1)])) rfl (by rw [hml]; rfl) (argsL := [vI1]) (rest := []) (lenOf pd__I_C rfl) rfl (own_W rfl) (hb hby at_132)
  obtain ⟨rfl, N82q, E82⟩ := hQ82
  have N82 := Fr.app N81 N82q
  obtain ⟨_, T84, Lc84, X84, hQ84, st84⟩ := own_cV X82 hx hZ63 ho63 E82 (rm29_2 l Z a0 hw [] b63_1 (2 : Int32) x7 (1 : Int32) b63_2 (8 : Int32) k63_0 ([vI58, vI0, (.int ((((nar .char x4) >>> ((0 : Int32) &&& 31)).toInt8.toInt32).toInt8.toInt32)), (.int ((((nar .char x4) >>> ((8 : Int32) &&& 31)).toInt8.toInt32).toInt8.toInt32)), (.int ((((nar .char x5) >>> ((0 : Int32) &&& 31)).toInt8.toInt32).toInt8.toInt32)), (.int ((((nar .char x5) >>> ((8 : Int32) &&& 31)).toInt8.toInt32).toInt8.toInt32)), (.int ((((nar .char x6) >>> ((0 : Int32) &&& 31)).toInt8.toInt32).toInt8.toInt32)), (.int ((((nar .char x6) >>> ((8 : Int32) &&& 31)).toInt8.toInt32).toInt8.toInt32))]) u8 ((((nar .char x5) >>> ((0 : Int32) &&& 31)).toInt8.toInt32).toInt8.toInt32) ((((nar .char x5) >>> ((8 : Int32) &&& 31)).toInt8.toInt32).toInt8.toInt32) T63.heap n0 o78 f68 f30 hc31 f69 (by decide) f70 f72 f59 hc60 (by decide) (by decide) f33 (own_gd (n := 4) rfl rfl) (by decide) (by decide) f34 (own_gd (n := 5) rfl rfl) (by decide) (by decide) f35) f68 (w 158 rfl) (w 159 rfl) (w 161 rfl) (w 160 rfl) (w 162 rfl) (w 4 rfl) (by decide) (W := 0) (by decide) (by decide) (by decide) (by decide) (g := (mkF m 151 #[lI x0, lI x1, lI x2, lI x3, lV vI3, lI x4, lI x5, lI x6, lR b5, lR b24, lR b63_0, lR b63_1] [vI2, (.ref b63_1)])) rfl (by rw [hml]; rfl) (argsL := [vI2]) (rest := []) (lenOf pd__I_C rfl) rfl (own_W rfl) (hb hby at_151)
  obtain ⟨rfl, N84q, E84⟩ := hQ84
  have N84 := Fr.app N82 N84q
  obtain ⟨_, T86, Lc86, X86, hQ86, st86⟩ := own_cV X84 hx hZ63 ho63 E84 (rm29_2 l Z a0 hw [] b63_1 (3 : Int32) x7 (1 : Int32) b63_2 (8 : Int32) k63_0 ([vI58, vI0, (.int ((((nar .char x4) >>> ((0 : Int32) &&& 31)).toInt8.toInt32).toInt8.toInt32)), (.int ((((nar .char x4) >>> ((8 : Int32) &&& 31)).toInt8.toInt32).toInt8.toInt32)), (.int ((((nar .char x5) >>> ((0 : Int32) &&& 31)).toInt8.toInt32).toInt8.toInt32)), (.int ((((nar .char x5) >>> ((8 : Int32) &&& 31)).toInt8.toInt32).toInt8.toInt32)), (.int ((((nar .char x6) >>> ((0 : Int32) &&& 31)).toInt8.toInt32).toInt8.toInt32)), (.int ((((nar .char x6) >>> ((8 : Int32) &&& 31)).toInt8.toInt32).toInt8.toInt32))]) u8 ((((nar .char x6) >>> ((0 : Int32) &&& 31)).toInt8.toInt32).toInt8.toInt32) ((((nar .char x6) >>> ((8 : Int32) &&& 31)).toInt8.toInt32).toInt8.toInt32) T63.heap n0 o78 f68 f30 hc31 f69 (by decide) f70 f72 f59 hc60 (by decide) (by decide) f33 (own_gd (n := 6) rfl rfl) (by decide) (by decide) f34 (own_gd (n := 7) rfl rfl) (by decide) (by decide) f35) f68 (w 158 rfl) (w 159 rfl) (w 161 rfl) (w 160 rfl) (w 162 rfl) (w 4 rfl) (by decide) (W := 0) (by decide) (by decide) (by decide) (by decide) (g := (mkF m 170 #[lI x0, lI x1, lI x2, lI x3, lV vI3, lI x4, lI x5, lI x6, lR b5, lR b24, lR b63_0, lR b63_1] [vI3, (.ref b63_1)])) rfl (by rw [hml]; rfl) (argsL := [vI3]) (rest := []) (lenOf pd__I_C rfl) rfl (own_W rfl) (hb hby at_170)
  obtain ⟨rfl, N86q, E86⟩ := hQ86
  have N86 := Fr.app N84 N86q
  refine ⟨some vI1, _, _, _, _, _, _, _, nofun, X86, by decide, by decide, hS63, (by rw [E86]; exact (Nat.le_refl _)), hZ63, E86, R77, ?_, fun fs hr => ?_⟩
  · rw [E86]; exact ⟨rfl, N86⟩
  · show SG p e below s₁ (mkF m 0 #[lI x0, lI x1, lI x2, lI x3, lU, lU, lU, lU, lU, lU, lU, lU] []) _
    refine qiN X0 hx hby at_0 ?_
    refine qc X0 hx hby at_1 ?_
    refine XS.iand X0.here hx rfl (hb hby at_2) rfl ?_
    show SG p e below s₁ (mkF m 3 #[lI x0, lI x1, lI x2, lI x3, lU, lU, lU, lU, lU, lU, lU, lU] [(.int (x0 &&& (3 : Int32)))]) _
    rw [hc1]
    refine XS.istore X0.here hx rfl (hb hby at_3) rfl (l' := #[lI x0, lI x1, lI x2, lI x3, lV vI3, lU, lU, lU, lU, lU, lU, lU]) rfl ?_
    refine qiN X0 hx hby at_5 ?_
    refine X0.ldcInt hx hown (mvT hZ (w 0 rfl)) (g := (mkF m 6 #[lI x0, lI x1, lI x2, lI x3, lV vI3, lU, lU, lU, lU, lU, lU, lU] [(.int x1)])) rfl (hb hby at_6) _ ?_
    refine XS.iand X0.here hx rfl (hb hby at_8) rfl ?_
    refine XS.i2c X0.here hx rfl (hb hby at_9) rfl ?_
    show SG p e below s₁ (mkF m 10 #[lI x0, lI x1, lI x2, lI x3, lV vI3, lU, lU, lU, lU, lU, lU, lU] [(.int ((x1 &&& (65535 : Int32)).toUInt32.toUInt16.toUInt32.toInt32))]) _
    rw [hq2]
    refine XS.istore X0.here hx rfl (hb hby at_10) rfl (l' := #[lI x0, lI x1, lI x2, lI x3, lV vI3, lI x4, lU, lU, lU, lU, lU, lU]) rfl ?_
    refine qiN X0 hx hby at_12 ?_
    show SG p e below s₁ (mkF m 13 #[lI x0, lI x1, lI x2, lI x3, lV vI3, lI x4, lU, lU, lU, lU, lU, lU] [(.int x2)]) _
    refine X0.ldcInt hx hown (mvT hZ (w 0 rfl)) (g := (mkF m 13 #[lI x0, lI x1, lI x2, lI x3, lV vI3, lI x4, lU, lU, lU, lU, lU, lU] [(.int x2)])) rfl (hb hby at_13) _ ?_
    refine XS.iand X0.here hx rfl (hb hby at_15) rfl ?_
    refine XS.i2c X0.here hx rfl (hb hby at_16) rfl ?_
    show SG p e below s₁ (mkF m 17 #[lI x0, lI x1, lI x2, lI x3, lV vI3, lI x4, lU, lU, lU, lU, lU, lU] [(.int ((x2 &&& (65535 : Int32)).toUInt32.toUInt16.toUInt32.toInt32))]) _
    rw [hq3]
    refine XS.istore X0.here hx rfl (hb hby at_17) rfl (l' := #[lI x0, lI x1, lI x2, lI x3, lV vI3, lI x4, lI x5, lU, lU, lU, lU, lU]) rfl ?_
    refine qiN X0 hx hby at_19 ?_
    refine X0.ldcInt hx hown (mvT hZ (w 0 rfl)) (g := (mkF m 20 #[lI x0, lI x1, lI x2, lI x3, lV vI3, lI x4, lI x5, lU, lU, lU, lU, lU] [(.int x3)])) rfl (hb hby at_20) _ ?_
    refine XS.iand X0.here hx rfl (hb hby at_22) rfl ?_
    refine XS.i2c X0.here hx rfl (hb hby at_23) rfl ?_
    show SG p e below s₁ (mkF m 24 #[lI x0, lI x1, lI x2, lI x3, lV vI3, lI x4, lI x5, lU, lU, lU, lU, lU] [(.int ((x3 &&& (65535 : Int32)).toUInt32.toUInt16.toUInt32.toInt32))]) _
    rw [hq4]
    refine XS.istore X0.here hx rfl (hb hby at_24) rfl (l' := #[lI x0, lI x1, lI x2, lI x3, lV vI3, lI x4, lI x5, lI x6, lU, lU, lU, lU]) rfl ?_
    refine qi X0 hx hby at_26 ?_
    show SG p e below s₁ (mkF m 28 #[lI x0, lI x1, lI x2, lI x3, lV vI3, lI x4, lI x5, lI x6, lU, lU, lU, lU] [vI3]) _
    refine st5 _ ?_
    refine XS.astore X5.here hx rfl (hb hby at_30) rfl rfl (l' := #[lI x0, lI x1, lI x2, lI x3, lV vI3, lI x4, lI x5, lI x6, lR b5, lU, lU, lU]) rfl ?_
    refine qi X5 hx hby at_32 ?_
    refine XS.ifNo X5.here hx rfl (hb hby at_34) rfl ((if0 _ _).trans (tlt (by decide : (0 : Int32) < (3 : Int32))).2.2.2) ?_
    refine qa X5 hx hby at_37 ?_
    refine qc X5 hx hby at_39 ?_
    refine qi X5 hx hby at_40 ?_
    refine st11 _ ?_
    refine qi X11 hx hby at_43 ?_
    refine qc X11 hx hby at_45 ?_
    show SG p e below T11 (mkF m 46 #[lI x0, lI x1, lI x2, lI x3, lV vI3, lI x4, lI x5, lI x6, lR b5, lU, lU, lU] [vI1, vI3]) _
    refine XS.icmpNo X11.here hx rfl (hb hby at_46) rfl (tlt (by decide : (1 : Int32) < (3 : Int32))).2.2.2 ?_
    refine qa X11 hx hby at_49 ?_
    refine qc X11 hx hby at_51 ?_
    refine qi X11 hx hby at_52 ?_
    refine st15 _ ?_
    refine qi X15 hx hby at_55 ?_
    refine qc X15 hx hby at_57 ?_
    refine XS.icmpNo X15.here hx rfl (hb hby at_58) rfl (tlt (by decide : (2 : Int32) < (3 : Int32))).2.2.2 ?_
    refine qa X15 hx hby at_61 ?_
    refine qc X15 hx hby at_63 ?_
    show SG p e below T15 (mkF m 64 #[lI x0, lI x1, lI x2, lI x3, lV vI3, lI x4, lI x5, lI x6, lR b5, lU, lU, lU] [vI2, (.ref b5)]) _
    refine qi X15 hx hby at_64 ?_
    refine st20 _ ?_
    refine st24 _ ?_
    refine qd X24 hx hby at_70 ?_
    refine qa X24 hx hby at_71 ?_
    refine st48.trans ?_
    refine XS.astore X48.here hx rfl (hb hby at_76) rfl rfl (l' := #[lI x0, lI x1, lI x2, lI x3, lV vI3, lI x4, lI x5, lI x6, lR b5, lR b24, lU, lU]) rfl ?_
    refine qa X48 hx hby at_78 ?_
    refine st63.trans ?_
    refine XS.astore X63.here hx rfl (hb hby at_83) rfl rfl (l' := #[lI x0, lI x1, lI x2, lI x3, lV vI3, lI x4, lI x5, lI x6, lR b5, lR b24, lR b63_0, lU]) rfl ?_
    show SG p e below T63 (mkF m 85 #[lI x0, lI x1, lI x2, lI x3, lV vI3, lI x4, lI x5, lI x6, lR b5, lR b24, lR b63_0, lU] []) _
    refine qa X63 hx hby at_85 ?_
    refine st79 _ ?_
    refine XS.astore X79.here hx rfl (hb hby at_90) rfl rfl (l' := #[lI x0, lI x1, lI x2, lI x3, lV vI3, lI x4, lI x5, lI x6, lR b5, lR b24, lR b63_0, lR b63_1]) rfl ?_
    refine qa X79 hx hby at_92 ?_
    refine XS.ifnullNo X79.here hx rfl (hb hby at_94) rfl ?_
    refine qa X79 hx hby at_97 ?_
    refine st80 _ ?_
    refine qi X80 hx hby at_102 ?_
    refine qc X80 hx hby at_104 ?_
    refine XS.iadd X80.here hx rfl (hb hby at_105) rfl ?_
    show SG p e below T80 (mkF m 106 #[lI x0, lI x1, lI x2, lI x3, lV vI3, lI x4, lI x5, lI x6, lR b5, lR b24, lR b63_0, lR b63_1] [vI4, vI4]) _
    refine XS.icmpYes X80.here hx rfl (pc0 := 106) (pc' := 111) rfl (hb hby at_106) rfl (teq (rfl : (4 : Int32) = (4 : Int32))).1 (by decide) (by decide) ?_
    refine qa X80 hx hby at_111 ?_
    refine qc X80 hx hby at_113 ?_
    refine st81 _ ?_
    refine qb X81 hx hby at_117 ?_
    refine XS.icmpYes X81.here hx rfl (pc0 := 119) (pc' := 124) rfl (hb hby at_119) rfl (teq (rfl : (58 : Int32) = (58 : Int32))).1 (by decide) (by decide) ?_
    refine qi X81 hx hby at_124 ?_
    refine XS.ifNo X81.here hx rfl (hb hby at_126) rfl ((if0 _ _).trans (tlt (by decide : (0 : Int32) < (3 : Int32))).2.2.2) ?_
    refine qa X81 hx hby at_129 ?_
    refine qc X81 hx hby at_131 ?_
    show SG p e below T81 (mkF m 132 #[lI x0, lI x1, lI x2, lI x3, lV vI3, lI x4, lI x5, lI x6, lR b5, lR b24, lR b63_0, lR b63_1] [vI1, (.ref b63_1)]) _
    refine st82 _ ?_
    refine qi X82 hx hby at_135 ?_
    refine XS.icmpYes X82.here hx rfl (pc0 := 137) (pc' := 142) rfl (hb hby at_137) rfl (teq hc83).1 (by decide) (by decide) ?_
    refine qi X82 hx hby at_142 ?_
    refine qc X82 hx hby at_144 ?_
    refine XS.icmpNo X82.here hx rfl (hb hby at_145) rfl (tlt (by decide : (1 : Int32) < (3 : Int32))).2.2.2 ?_
    refine qa X82 hx hby at_148 ?_
    refine qc X82 hx hby at_150 ?_
    refine st84 _ ?_
    refine qi X84 hx hby at_154 ?_
    show SG p e below T84 (mkF m 156 #[lI x0, lI x1, lI x2, lI x3, lV vI3, lI x4, lI x5, lI x6, lR b5, lR b24, lR b63_0, lR b63_1] [(.int x5), (.int (nar .char (nar .char (nar .char ((((((((nar .char x5) >>> ((0 : Int32) &&& 31)).toInt8.toInt32).toInt8.toInt32) &&& (255 : Int32)) <<< ((0 : Int32) &&& 31)) ||| ((((((nar .char x5) >>> ((8 : Int32) &&& 31)).toInt8.toInt32).toInt8.toInt32) &&& (255 : Int32)) <<< ((8 : Int32) &&& 31))).toUInt32.toUInt16.toUInt32.toInt32)))))]) _
    refine XS.icmpYes X84.here hx rfl (pc0 := 156) (pc' := 161) rfl (hb hby at_156) rfl (teq hc85).1 (by decide) (by decide) ?_
    refine qi X84 hx hby at_161 ?_
    refine qc X84 hx hby at_163 ?_
    refine XS.icmpNo X84.here hx rfl (hb hby at_164) rfl (tlt (by decide : (2 : Int32) < (3 : Int32))).2.2.2 ?_
    refine qa X84 hx hby at_167 ?_
    refine qc X84 hx hby at_169 ?_
    refine st86 _ ?_
    refine qi X86 hx hby at_173 ?_
    refine XS.icmpYes X86.here hx rfl (pc0 := 175) (pc' := 180) rfl (hb hby at_175) rfl (teq hc87).1 (by decide) (by decide) ?_
    refine qc X86 hx hby at_180 ?_
    show SG p e below T86 (mkF m 181 #[lI x0, lI x1, lI x2, lI x3, lV vI3, lI x4, lI x5, lI x6, lR b5, lR b24, lR b63_0, lR b63_1] [vI1]) _
    exact retN X86 hx (t := .boolean) hret (by simp) (hb hby at_181) hr
def Q35_5 (Z : State) (r0 r1 : Addr) (c2 : ClassId) (x3 x4 x5 : Int32) (c6 : ClassId) (h0 : Heap) (n0 : Nat) (v : Option Value) (h : Heap) (L : List Loc) : Prop := v = some vI1 ∧ Fr n0 L ∧ Keep h0 h [r1] ∧ Arv Z h r1 c6 .byte (3 : Int32) [(.int ((x3.toInt8.toInt32).toInt8.toInt32)), vI0, vI0] vI0
theorem rm35_5 (l : Launch) (Z : State) (a0 : Array Value) (hw : own_HW a0 Z) (ws : List Jvm.Cond) (r0 r1 : Addr) (c2 : ClassId) (x3 x4 x5 : Int32) (c6 : ClassId) (h0 : Heap) (n0 : Nat) (O0 : Old Z n0 h0) (f1 : Arv Z h0 r0 c2 .char (3 : Int32) [(.int x3), (.int x4), (.int x5)] vI0) (hc3 : ¬ ((255 : Int32) < x3)) (f4 : Arv Z h0 r1 c6 .byte (3 : Int32) [vI0, vI0, vI0] vI0) (g6 : n0 ≤ r1) (n8 : r0 ≠ r1) (hc11 : (255 : Int32) < x4) :
    own_MF l mN32 jdk_52_method_21_code 7 (some .int) ws rR0_0_0_0 Z h0 #[(.ref r0), vI0, (.ref r1), vI0, vI3] (Q35_5 Z r0 r1 c2 x3 x4 x5 c6 h0 n0) := by
  refine own_open (plainFor_of_name pn_java_lang_StringUTF16) (L0 := #[lR r0, lV vI0, lR r1, lV vI0, lV vI3, lU, lU]) (fun _ => by first | (simp [entryFrame, mkF, argsToLocals, Value.category]; done) | rfl) ?_
  intro p e s m below meth c s₁ hx hby hml hret hnn hZ hown X0 e0
  have N0 := Fr.nil n0
  obtain ⟨clq2, Arq2, qq2, Sq2, Nq2, Hq2, Gq2⟩ := id f1
  obtain ⟨clq5, Arq5, qq5, Sq5, Nq5, Hq5, Gq5⟩ := id f4
  obtain ⟨T7, h7, X7, e7, W7, st7⟩ := stB X0 hx hZ e0 Arq5 (j := (0 : Int32)) (inb_of Sq5 ⟨(by decide : ¬ ((0 : Int32) < (0 : Int32))), (by decide : (0 : Int32) < (3 : Int32))⟩) (g := (mkF m 31 #[lR r0, lV vI0, lR r1, lV vI0, lV vI3, lV vI0, lI x3] [(.int (x3.toInt8.toInt32)), vI0, (.ref r1)])) rfl rfl (hb hby d35_31)
  have V7 : Arv Z h7 r1 c6 .byte (3 : Int32) [(.int ((x3.toInt8.toInt32).toInt8.toInt32)), vI0, vI0] vI0 := Arv.set Arq5 qq5 Sq5 Nq5 Hq5 Gq5 (fits_nar_byte _) W7 0 rfl (Nat.le_of_ble_eq_true rfl)
  have N7 := Fr.snoc X7 N0 g6
  have f9 := (f1.other W7 n8)
  obtain ⟨clq10, Arq10, qq10, Sq10, Nq10, Hq10, Gq10⟩ := id f9
  have kp12 : Keep h0 h7 [r1] := (Keep.refl h0 [r1]).wr W7 (Or.inl (List.mem_of_getElem? (i := 0) rfl))
  refine ⟨some vI1, _, _, _, _, nofun, X7, by decide, by decide, ?_, fun fs hr => ?_⟩
  · rw [e7]; exact ⟨rfl, N7, kp12, V7⟩
  · show SG p e below s₁ (mkF m 0 #[lR r0, lV vI0, lR r1, lV vI0, lV vI3, lU, lU] []) _
    refine qc X0 hx hby d35_0 ?_
    refine XS.istore X0.here hx rfl (hb hby d35_1) rfl (l' := #[lR r0, lV vI0, lR r1, lV vI0, lV vI3, lV vI0, lU]) rfl ?_
    refine qi X0 hx hby d35_3 ?_
    refine qi X0 hx hby d35_5 ?_
    refine XS.icmpNo X0.here hx rfl (hb hby d35_7) rfl (tlt (by decide : (0 : Int32) < (3 : Int32))).2.1 ?_
    refine qaN X0 hx hby d35_10 ?_
    refine qiN X0 hx hby d35_11 ?_
    refine X0.caload hx (j := (0 : Int32)) (v := (.int x3)) (by rw [e0]; exact Arq2.1) (State.isArrayOf_alike hZ.alike Arq2.2.1) Arq2.2.2 (inb_of Sq2 ⟨(by decide : ¬ ((0 : Int32) < (0 : Int32))), (by decide : (0 : Int32) < (3 : Int32))⟩) (Has.at Hq2 (inb_of Sq2 ⟨(by decide : ¬ ((0 : Int32) < (0 : Int32))), (by decide : (0 : Int32) < (3 : Int32))⟩) rfl) (g := (mkF m 12 #[lR r0, lV vI0, lR r1, lV vI0, lV vI3, lV vI0, lU] [vI0, (.ref r0)])) rfl rfl (hb hby d35_12) _ ?_
    refine XS.istore X0.here hx rfl (hb hby d35_13) rfl (l' := #[lR r0, lV vI0, lR r1, lV vI0, lV vI3, lV vI0, lI x3]) rfl ?_
    refine qi X0 hx hby d35_15 ?_
    show SG p e below s₁ (mkF m 17 #[lR r0, lV vI0, lR r1, lV vI0, lV vI3, lV vI0, lI x3] [(.int x3)]) _
    refine XS.sipush X0.here hx rfl (hb hby d35_17) ?_
    refine XS.icmpYes X0.here hx rfl (pc0 := 20) (pc' := 26) rfl (hb hby d35_20) rfl (flt hc3).2.2.2 (by decide) (by decide) ?_
    refine qaN X0 hx hby d35_26 ?_
    refine qiN X0 hx hby d35_27 ?_
    refine qi X0 hx hby d35_28 ?_
    refine XS.i2b X0.here hx rfl (hb hby d35_30) rfl ?_
    refine st7 _ ?_
    refine XS.iinc X7.here hx rfl (hb hby d35_32) rfl (l' := #[lR r0, lV vI1, lR r1, lV vI0, lV vI3, lV vI0, lI x3]) rfl ?_
    refine XS.iinc X7.here hx rfl (hb hby d35_35) rfl (l' := #[lR r0, lV vI1, lR r1, lV vI1, lV vI3, lV vI0, lI x3]) rfl ?_
    refine XS.iinc X7.here hx rfl (hb hby d35_38) rfl (l' := #[lR r0, lV vI1, lR r1, lV vI1, lV vI3, lV vI1, lI x3]) rfl ?_
    show SG p e below T7 (mkF m 41 #[lR r0, lV vI1, lR r1, lV vI1, lV vI3, lV vI1, lI x3] []) _
    refine XS.goto X7.here hx rfl (pc0 := 41) (pc' := 3) rfl (hb hby d35_41) (by decide) (by decide) ?_
    refine qi X7 hx hby d35_3 ?_
    refine qi X7 hx hby d35_5 ?_
    refine XS.icmpNo X7.here hx rfl (hb hby d35_7) rfl (tlt (by decide : (1 : Int32) < (3 : Int32))).2.1 ?_
    refine qaN X7 hx hby d35_10 ?_
    refine qiN X7 hx hby d35_11 ?_
    refine X7.caload hx (j := (1 : Int32)) (v := (.int x4)) (by rw [e7]; exact Arq10.1) (State.isArrayOf_alike hZ.alike Arq10.2.1) Arq10.2.2 (inb_of Sq10 ⟨(by decide : ¬ ((1 : Int32) < (0 : Int32))), (by decide : (1 : Int32) < (3 : Int32))⟩) (Has.at Hq10 (inb_of Sq10 ⟨(by decide : ¬ ((1 : Int32) < (0 : Int32))), (by decide : (1 : Int32) < (3 : Int32))⟩) rfl) (g := (mkF m 12 #[lR r0, lV vI1, lR r1, lV vI1, lV vI3, lV vI1, lI x3] [vI1, (.ref r0)])) rfl rfl (hb hby d35_12) _ ?_
    refine XS.istore X7.here hx rfl (hb hby d35_13) rfl (l' := #[lR r0, lV vI1, lR r1, lV vI1, lV vI3, lV vI1, lI x4]) rfl ?_
    refine qi X7 hx hby d35_15 ?_
    refine XS.sipush X7.here hx rfl (hb hby d35_17) ?_
    show SG p e below T7 (mkF m 20 #[lR r0, lV vI1, lR r1, lV vI1, lV vI3, lV vI1, lI x4] [vI255, (.int x4)]) _
    refine XS.icmpNo X7.here hx rfl (hb hby d35_20) rfl (tlt hc11).2.2.2 ?_
    refine qi X7 hx hby d35_23 ?_
    exact retOut X7 hx (i := .ireturn) hret rfl (Or.inl ⟨rfl, Or.inl rfl, _, rfl⟩) (hb hby d35_25) hr
def Q34_5 (Z : State) (r0 : Addr) (c1 : ClassId) (x2 x3 x4 : Int32) (h0 : Heap) (n0 : Nat) (v : Option Value) (h : Heap) (L : List Loc) : Prop := ∃ (b20_0 : Addr) (k20_0 : ClassId), v = some (.ref b20_0) ∧ Fr n0 L ∧ Keep h0 h [] ∧ h0.size ≤ b20_0 ∧ Exa Z h b20_0 "[B" ∧ Arv Z h b20_0 k20_0 .byte (6 : Int32) [(.int (((x2 >>> ((0 : Int32) &&& 31)).toInt8.toInt32).toInt8.toInt32)), (.int (((x2 >>> ((8 : Int32) &&& 31)).toInt8.toInt32).toInt8.toInt32)), (.int (((x3 >>> ((0 : Int32) &&& 31)).toInt8.toInt32).toInt8.toInt32)), (.int (((x3 >>> ((8 : Int32) &&& 31)).toInt8.toInt32).toInt8.toInt32)), (.int (((x4 >>> ((0 : Int32) &&& 31)).toInt8.toInt32).toInt8.toInt32)), (.int (((x4 >>> ((8 : Int32) &&& 31)).toInt8.toInt32).toInt8.toInt32))] vI0
theorem rm34_5 (l : Launch) (Z : State) (a0 : Array Value) (hw : own_HW a0 Z) (ws : List Jvm.Cond) (r0 : Addr) (c1 : ClassId) (x2 x3 x4 : Int32) (h0 : Heap) (n0 : Nat) (O0 : Old Z n0 h0) (f2 : Arv Z h0 r0 c1 .char (3 : Int32) [(.int x2), (.int x3), (.int x4)] vI0) (hc4 : ¬ ((255 : Int32) < x2)) (l7 : r0 < h0.size) (hc9 : (255 : Int32) < x3) (f14 : Sta Z Z.heap "java/lang/StringUTF16" "$assertionsDisabled" "Z" vI1) (f15 : Sta Z Z.heap "java/lang/StringUTF16" "HI_BYTE_SHIFT" "I" vI0) (f16 : Sta Z Z.heap "java/lang/StringUTF16" "LO_BYTE_SHIFT" "I" vI8) (hc26 : (255 : Int32) < (nar .char (((((((x3 >>> ((0 : Int32) &&& 31)).toInt8.toInt32).toInt8.toInt32) &&& (255 : Int32)) <<< ((0 : Int32) &&& 31)) ||| (((((x3 >>> ((8 : Int32) &&& 31)).toInt8.toInt32).toInt8.toInt32) &&& (255 : Int32)) <<< ((8 : Int32) &&& 31))).toUInt32.toUInt16.toUInt32.toInt32))) :
    own_MF l mN38 jdk_52_method_16_code 6 (some (.array .byte)) ws rR3_2_9_40 Z h0 #[(.ref r0), vI0, vI3] (Q34_5 Z r0 c1 x2 x3 x4 h0 n0) := by
  refine own_open (plainFor_of_name pn_java_lang_StringUTF16) (L0 := #[lR r0, lV vI0, lV vI3, lU, lU, lU]) (fun _ => by first | (simp [entryFrame, mkF, argsToLocals, Value.category]; done) | rfl) ?_
  intro p e s m below meth c s₁ hx hby hml hret hnn hZ hown X0 e0
  have N0 := Fr.nil n0; have w := @ww Z a0 hw
  obtain ⟨T1, h1, k1, X1, e1, E1, A1, B1, st1⟩ := newPE X0 hx hZ (w 16 rfl) e0 (g := (mkF m 1 #[lR r0, lV vI0, lV vI3, lU, lU, lU] [vI3])) rfl (hb hby d34_1) rfl (by decide) (cap := 3) (by decide) (by decide) (by decide) (by decide) (ad := "[B") rfl
  obtain ⟨b1, g1⟩ : ∃ z, z = h0.size := ⟨_, rfl⟩
  rw [← g1] at A1 B1 st1
  have V1 : Arv Z h1 b1 k1 .byte (3 : Int32) [vI0, vI0, vI0] vI0 := (Arv.new A1 (by decide)).pad (pad_rep [] vI0 3)
  have f3 := (f2.ext E1)
  have zz5 : n0 ≤ h0.size := by rw [← O0.1]; exact O0.2.1
  have g6 := Nat.le_trans zz5 (Nat.le_of_eq g1.symm)
  have n8 := Nat.ne_of_lt (Nat.lt_of_lt_of_le l7 (Nat.le_of_eq g1.symm))
  have o10 := Old.ext O0 E1
  obtain ⟨_, T11, Lc11, X11, hQ11, st11⟩ := own_cS X1 hx hZ hown e1 (rm35_5 l Z a0 hw [] r0 b1 c1 x2 x3 x4 k1 h1 n0 o10 f3 hc4 V1 g6 n8 hc9) (w 184 rfl) (w 185 rfl) (w 182 rfl) (w 186 rfl) (by decide) (W := 0) (by decide) (by decide) (by decide) (by decide) (g := (mkF m 9 #[lR r0, lV vI0, lV vI3, lR b1, lU, lU] [vI3, vI0, (.ref b1), vI0, (.ref r0)])) rfl (by rw [hml]; rfl) (argsL := [(.ref r0), vI0, (.ref b1), vI0, vI3]) (rest := []) (lenOf pd___CI_BII_I rfl) rfl (own_W rfl) (hb hby d34_9)
  obtain ⟨rfl, N11q, K11, f12⟩ := hQ11
  have N11 := Fr.app N0 N11q
  have f13 := (f3.keep K11 (ninS n8 nin0))
  have zs17 := E1.1
  have zs18 := Nat.le_trans zs17 K11.1
  have o19 := Old.keep o10 K11 (allS g6 all0)
  obtain ⟨_, T20, Lc20, X20, hQ20, st20⟩ := own_cS X11 hx hZ hown rfl (rm37_3 l Z a0 hw [] r0 c1 x2 x3 x4 T11.heap n0 o19 f13 f14 f15 f16 (Nat.lt_of_lt_of_le l7 zs18)) (w 190 rfl) (w 191 rfl) (w 182 rfl) (w 192 rfl) (by decide) (W := 0) (by decide) (by decide) (by decide) (by decide) (g := (mkF m 23 #[lR r0, lV vI0, lV vI3, lR b1, lV vI1, lU] [vI3, vI0, (.ref r0)])) rfl (by rw [hml]; rfl) (argsL := [(.ref r0), vI0, vI3]) (rest := []) (lenOf pd___CII__B rfl) rfl (own_W rfl) (hb hby d34_23)
  obtain ⟨b20_0, k20_0, rfl, N20q, K20, f21, f22, f23⟩ := hQ20
  have N20 := Fr.app N11 N20q
  have o24 := Old.keep o19 K20 all0
  obtain ⟨_, T25, Lc25, X25, hQ25, st25⟩ := own_cS X20 hx hZ hown rfl (rm41_1 l Z a0 hw [] b20_0 (1 : Int32) (6 : Int32) k20_0 ([(.int (((x2 >>> ((0 : Int32) &&& 31)).toInt8.toInt32).toInt8.toInt32)), (.int (((x2 >>> ((8 : Int32) &&& 31)).toInt8.toInt32).toInt8.toInt32)), (.int (((x3 >>> ((0 : Int32) &&& 31)).toInt8.toInt32).toInt8.toInt32)), (.int (((x3 >>> ((8 : Int32) &&& 31)).toInt8.toInt32).toInt8.toInt32)), (.int (((x4 >>> ((0 : Int32) &&& 31)).toInt8.toInt32).toInt8.toInt32)), (.int (((x4 >>> ((8 : Int32) &&& 31)).toInt8.toInt32).toInt8.toInt32))]) (((x3 >>> ((0 : Int32) &&& 31)).toInt8.toInt32).toInt8.toInt32) (((x3 >>> ((8 : Int32) &&& 31)).toInt8.toInt32).toInt8.toInt32) T20.heap n0 o24 f14 f23 (own_gd (n := 2) rfl rfl) (by decide) (by decide) f15 (own_gd (n := 3) rfl rfl) (by decide) (by decide) f16) (w 206 rfl) (w 207 rfl) (w 182 rfl) (w 208 rfl) (by decide) (W := 0) (by decide) (by decide) (by decide) (by decide) (g := (mkF m 32 #[lR r0, lV vI0, lV vI3, lR b1, lV vI1, lR b20_0] [vI1, (.ref b20_0)])) rfl (by rw [hml]; rfl) (argsL := [(.ref b20_0), vI1]) (rest := []) (lenOf pd___BI_C rfl) rfl (own_W rfl) (hb hby d34_32)
  obtain ⟨rfl, N25q, E25⟩ := hQ25
  have N25 := Fr.app N20 N25q
  have kp27 : Keep h0 h1 [] := (Keep.refl h0 []).ext E1
  have kp28 : Keep h0 T11.heap [] := kp27.trans K11 (allS (Or.inr (Nat.le_of_eq g1.symm)) all0)
  have kp29 : Keep h0 T20.heap [] := kp28.trans K20 all0
  refine ⟨some (.ref b20_0), _, _, _, _, nofun, X25, by decide, by decide, ?_, fun fs hr => ?_⟩
  · rw [E25]; exact ⟨b20_0, k20_0, rfl, N25, kp29, (Nat.le_trans zs18 f21), f22, f23⟩
  · show SG p e below s₁ (mkF m 0 #[lR r0, lV vI0, lV vI3, lU, lU, lU] []) _
    refine qiN X0 hx hby d34_0 ?_
    refine st1 _ ?_
    refine XS.astoreN X1.here hx rfl (hb hby d34_3) rfl rfl (l' := #[lR r0, lV vI0, lV vI3, lR b1, lU, lU]) rfl ?_
    refine qaN X1 hx hby d34_4 ?_
    refine qiN X1 hx hby d34_5 ?_
    refine qaN X1 hx hby d34_6 ?_
    refine qc X1 hx hby d34_7 ?_
    refine qiN X1 hx hby d34_8 ?_
    refine st11 _ ?_
    refine XS.istore X11.here hx rfl (hb hby d34_12) rfl (l' := #[lR r0, lV vI0, lV vI3, lR b1, lV vI1, lU]) rfl ?_
    show SG p e below T11 (mkF m 14 #[lR r0, lV vI0, lV vI3, lR b1, lV vI1, lU] []) _
    refine qi X11 hx hby d34_14 ?_
    refine qiN X11 hx hby d34_16 ?_
    refine XS.icmpNo X11.here hx rfl (hb hby d34_17) rfl (feq (by decide : ¬ ((1 : Int32) = (3 : Int32)))).1 ?_
    refine qaN X11 hx hby d34_20 ?_
    refine qiN X11 hx hby d34_21 ?_
    refine qiN X11 hx hby d34_22 ?_
    refine st20 _ ?_
    refine XS.astore X20.here hx rfl (hb hby d34_26) rfl rfl (l' := #[lR r0, lV vI0, lV vI3, lR b1, lV vI1, lR b20_0]) rfl ?_
    refine qa X20 hx hby d34_28 ?_
    refine qi X20 hx hby d34_30 ?_
    show SG p e below T20 (mkF m 32 #[lR r0, lV vI0, lV vI3, lR b1, lV vI1, lR b20_0] [vI1, (.ref b20_0)]) _
    refine st25 _ ?_
    refine XS.sipush X25.here hx rfl (hb hby d34_35) ?_
    refine XS.icmpYes X25.here hx rfl (pc0 := 38) (pc' := 54) rfl (hb hby d34_38) rfl (tlt hc26).2.2.1 (by decide) (by decide) ?_
    refine qa X25 hx hby d34_54 ?_
    exact retOut X25 hx (i := .areturn) hret rfl (Or.inr (Or.inr (Or.inr (Or.inr ⟨rfl, rfl, rfl⟩)))) (hb hby d34_56) hr
def Q2_6 (Z : State) (r0 r1 : Addr) (x2 : Int32) (c3 : ClassId) (x4 x5 x6 : Int32) (h0 : Heap) (n0 : Nat) (v : Option Value) (h : Heap) (L : List Loc) : Prop := ∃ (b14_0 : Addr) (k14_0 : ClassId), v = none ∧ Fr n0 L ∧ Keep h0 h [r0] ∧ Fld Z h r0 "java/lang/String" "coder" "B" vI1 ∧ Fld Z h r0 "java/lang/String" "value" "[B" (.ref b14_0) ∧ h0.size ≤ b14_0 ∧ Exa Z h b14_0 "[B" ∧ Arv Z h b14_0 k14_0 .byte (6 : Int32) [(.int (((x4 >>> ((0 : Int32) &&& 31)).toInt8.toInt32).toInt8.toInt32)), (.int (((x4 >>> ((8 : Int32) &&& 31)).toInt8.toInt32).toInt8.toInt32)), (.int (((x5 >>> ((0 : Int32) &&& 31)).toInt8.toInt32).toInt8.toInt32)), (.int (((x5 >>> ((8 : Int32) &&& 31)).toInt8.toInt32).toInt8.toInt32)), (.int (((x6 >>> ((0 : Int32) &&& 31)).toInt8.toInt32).toInt8.toInt32)), (.int (((x6 >>> ((8 : Int32) &&& 31)).toInt8.toInt32).toInt8.toInt32))] vI0
theorem rm2_6 (l : Launch) (Z : State) (a0 : Array Value) (hw : own_HW a0 Z) (ws : List Jvm.Cond) (r0 r1 : Addr) (x2 : Int32) (c3 : ClassId) (x4 x5 x6 : Int32) (h0 : Heap) (n0 : Nat) (O0 : Old Z n0 h0) (f2 : Sta Z Z.heap "java/lang/String" "COMPACT_STRINGS" "Z" (.int x2)) (hc5 : ¬ (x2 = (0 : Int32))) (f6 : Arv Z h0 r1 c3 .char (3 : Int32) [(.int x4), (.int x5), (.int x6)] vI0) (hc7 : ¬ ((255 : Int32) < x4)) (l8 : r1 < h0.size) (hc9 : (255 : Int32) < x5) (f10 : Sta Z Z.heap "java/lang/StringUTF16" "$assertionsDisabled" "Z" vI1) (f11 : Sta Z Z.heap "java/lang/StringUTF16" "HI_BYTE_SHIFT" "I" vI0) (f12 : Sta Z Z.heap "java/lang/StringUTF16" "LO_BYTE_SHIFT" "I" vI8) (hc13 : (255 : Int32) < (nar .char (((((((x5 >>> ((0 : Int32) &&& 31)).toInt8.toInt32).toInt8.toInt32) &&& (255 : Int32)) <<< ((0 : Int32) &&& 31)) ||| (((((x5 >>> ((8 : Int32) &&& 31)).toInt8.toInt32).toInt8.toInt32) &&& (255 : Int32)) <<< ((8 : Int32) &&& 31))).toUInt32.toUInt16.toUInt32.toInt32))) (f20 : Exa Z h0 r0 "java/lang/String") (f22 : Fld Z h0 r0 "java/lang/String" "coder" "B" vI0) (g24 : n0 ≤ r0) (f27 : Fld Z h0 r0 "java/lang/String" "value" "[B" .null) (l32 : r0 < h0.size) :
    own_MF l mN0 jdk_42_method_149_code 6 none ws rR4_2_9_57 Z h0 #[(.ref r0), (.ref r1), vI0, vI3, .null] (Q2_6 Z r0 r1 x2 c3 x4 x5 x6 h0 n0) := by
  refine own_open (plainFor_of_name pn_java_lang_String) (L0 := #[lR r0, lR r1, lV vI0, lV vI3, .val .null, lU]) (fun _ => by first | (simp [entryFrame, mkF, argsToLocals, Value.category]; done) | rfl) ?_
  intro p e s m below meth c s₁ hx hby hml hret hnn hZ hown X0 e0
  have N0 := Fr.nil n0; have w := @ww Z a0 hw
  have hnm := (name_of_methodNamed hnn.1 hnn.2).1
  obtain ⟨T1, X1, e1, st1⟩ := initO X0 hx hZ hown (w 12 rfl) (w 13 rfl) (w 14 rfl) e0 (g := (mkF m 1 #[lR r0, lR r1, lV vI0, lV vI3, .val .null, lU] [(.ref r0)])) rfl (by rw [hml]; rfl) rfl (hb hby d2_1) (by decide) (W := 0) (own_W rfl) (by decide)
  have f3 := f2.ext O0.2
  obtain ⟨T4, X4, e4, st4⟩ := getS2 X1 hx hZ hown (host := "") (Or.inl (w 68 rfl)) Via.refl e1 f3 (g := (mkF m 27 #[lR r0, lR r1, lV vI0, lV vI3, .val .null, lU] [])) rfl (hb hby d2_27)
  obtain ⟨_, T14, Lc14, X14, hQ14, st14⟩ := own_cS X4 hx hZ hown e4 (rm34_5 l Z a0 hw [] r1 c3 x4 x5 x6 h0 n0 O0 f6 hc7 l8 hc9 f10 f11 f12 hc13) (w 180 rfl) (w 181 rfl) (w 182 rfl) (w 183 rfl) (by decide) (W := 0) (by decide) (by decide) (by decide) (by decide) (g := (mkF m 36 #[lR r0, lR r1, lV vI0, lV vI3, .val .null, lU] [vI3, vI0, (.ref r1)])) rfl (by rw [hml]; rfl) (argsL := [(.ref r1), vI0, vI3]) (rest := []) (lenOf pd___CII__B rfl) rfl (own_W rfl) (hb hby d2_36)
  obtain ⟨b14_0, k14_0, rfl, N14q, K14, f15, f16, f17⟩ := hQ14
  have N14 := Fr.app N0 N14q
  have o18 := Old.keep O0 K14 all0
  obtain ⟨_, T19, Lc19, X19, hQ19, st19⟩ := own_cS X14 hx hZ hown rfl (rm36_3 l Z a0 hw [] b14_0 k14_0 (((x4 >>> ((0 : Int32) &&& 31)).toInt8.toInt32).toInt8.toInt32) (((x4 >>> ((8 : Int32) &&& 31)).toInt8.toInt32).toInt8.toInt32) (((x5 >>> ((0 : Int32) &&& 31)).toInt8.toInt32).toInt8.toInt32) (((x5 >>> ((8 : Int32) &&& 31)).toInt8.toInt32).toInt8.toInt32) (((x6 >>> ((0 : Int32) &&& 31)).toInt8.toInt32).toInt8.toInt32) (((x6 >>> ((8 : Int32) &&& 31)).toInt8.toInt32).toInt8.toInt32) T14.heap n0 o18 f17) (w 187 rfl) (w 188 rfl) (w 182 rfl) (w 189 rfl) (by decide) (W := 1) (by decide) (by decide) (by decide) (by decide) (g := (mkF m 45 #[lR r0, lR r1, lV vI0, lV vI3, .val .null, lR b14_0] [vI3, (.ref b14_0), (.ref r0)])) rfl (by rw [hml]; rfl) (argsL := [(.ref b14_0), vI3]) (rest := [(.ref r0)]) (lenOf pd___BI_B rfl) rfl (own_W rfl) (hb hby d2_45)
  obtain ⟨rfl, N19q, E19⟩ := hQ19
  have N19 := Fr.app N14 N19q
  have f21 := (f20.keep K14)
  have f23 := (f22.keep K14 nin0)
  obtain ⟨T25, h25, X25, e25, W25, st25⟩ := putFN X19 hx hZ hown (w 22 rfl) Via.refl E19 f23 f21 (Or.inr ⟨(w 18 rfl), rfl, hnm⟩) (w 3 rfl) (ty := .byte) (v' := vI1) (by decide) rfl (by decide) (g := (mkF m 48 #[lR r0, lR r1, lV vI0, lV vI3, .val .null, lR b14_0] [vI1, (.ref r0)])) rfl rfl (hb hby d2_48)
  have Fw25 := f23.same W25
  have N25 := Fr.snoc X25 N19 g24
  have f26 := (f21.wr W25)
  have f28 := ((f27.keep K14 nin0).other W25 (Or.inr (slot_ne (Or.inr (w 17 rfl)) (Or.inr (w 18 rfl)) (by decide) (t := (.array .byte)) (t' := .byte) (by decide) (by decide))))
  obtain ⟨T29, h29, X29, e29, W29, st29⟩ := putF X25 hx hZ hown (host := "") (Or.inl (w 21 rfl)) Via.refl e25 f28 f26 (Or.inr ⟨(w 17 rfl), rfl, hnm⟩) (w 3 rfl) (ty := (.array .byte)) (by decide) rfl rfl (g := (mkF m 54 #[lR r0, lR r1, lV vI0, lV vI3, .val .null, lR b14_0] [(.ref b14_0), (.ref r0)])) rfl rfl (hb hby d2_54)
  have Fw29 := f28.same W29
  have N29 := Fr.snoc X29 N25 g24
  have f30 := (Fw25.other W29 (Or.inr (slot_ne (Or.inr (w 18 rfl)) (Or.inr (w 17 rfl)) (by decide) (t := .byte) (t' := (.array .byte)) (by decide) (by decide))))
  have f31 := ((f16.wr W25).wr W29)
  have n33 := Nat.ne_of_lt (Nat.lt_of_lt_of_le l32 f15)
  have f34 := ((f17.other W25 (Ne.symm n33)).other W29 (Ne.symm n33))
  have kp35 : Keep h0 T14.heap [r0] := (Keep.refl h0 [r0]).trans K14 all0
  have kp36 : Keep h0 h25 [r0] := kp35.wr W25 (Or.inl (List.mem_of_getElem? (i := 0) rfl))
  have kp37 : Keep h0 h29 [r0] := kp36.wr W29 (Or.inl (List.mem_of_getElem? (i := 0) rfl))
  refine ⟨none, _, _, _, _, (fun _ => rfl), X29, by decide, by decide, ?_, fun fs hr => ?_⟩
  · rw [e29]; exact ⟨b14_0, k14_0, rfl, N29, kp37, f30, Fw29, f15, f31, f34⟩
  · show SG p e below s₁ (mkF m 0 #[lR r0, lR r1, lV vI0, lV vI3, .val .null, lU] []) _
    refine qaN X0 hx hby d2_0 ?_
    refine st1 _ ?_
    refine qiN X1 hx hby d2_4 ?_
    refine XS.ifYes X1.here hx rfl (pc0 := 5) (pc' := 27) rfl (hb hby d2_5) rfl ((if0 _ _).trans (feq (by decide : ¬ ((3 : Int32) = (0 : Int32)))).2) (by decide) (by decide) ?_
    refine st4 _ ?_
    refine XS.ifNo X4.here hx rfl (hb hby d2_30) rfl ((if0 _ _).trans (feq hc5).1) ?_
    refine qaN X4 hx hby d2_33 ?_
    refine qiN X4 hx hby d2_34 ?_
    refine qiN X4 hx hby d2_35 ?_
    refine st14 _ ?_
    show SG p e below T14 (mkF m 39 #[lR r0, lR r1, lV vI0, lV vI3, .val .null, lU] [(.ref b14_0)]) _
    refine XS.astore X14.here hx rfl (hb hby d2_39) rfl rfl (l' := #[lR r0, lR r1, lV vI0, lV vI3, .val .null, lR b14_0]) rfl ?_
    refine qaN X14 hx hby d2_41 ?_
    refine qa X14 hx hby d2_42 ?_
    refine qiN X14 hx hby d2_44 ?_
    refine st19 _ ?_
    refine st25 _ ?_
    refine qaN X25 hx hby d2_51 ?_
    refine qa X25 hx hby d2_52 ?_
    refine st29 _ ?_
    exact X29.returnOut hx hret (hb hby d2_57) hr
def Q1_6 (Z : State) (r0 r1 : Addr) (c2 : ClassId) (x3 x4 : Int32) (x5 x6 : Int32) (h0 : Heap) (n0 : Nat) (v : Option Value) (h : Heap) (L : List Loc) : Prop := ∃ (b17_0 : Addr) (k17_0 : ClassId), v = none ∧ Fr n0 L ∧ Keep h0 h [r0] ∧ Fld Z h r0 "java/lang/String" "coder" "B" vI1 ∧ Fld Z h r0 "java/lang/String" "value" "[B" (.ref b17_0) ∧ h0.size ≤ b17_0 ∧ Exa Z h b17_0 "[B" ∧ Arv Z h b17_0 k17_0 .byte (6 : Int32) [(.int (((x3 >>> ((0 : Int32) &&& 31)).toInt8.toInt32).toInt8.toInt32)), (.int (((x3 >>> ((8 : Int32) &&& 31)).toInt8.toInt32).toInt8.toInt32)), (.int (((x4 >>> ((0 : Int32) &&& 31)).toInt8.toInt32).toInt8.toInt32)), (.int (((x4 >>> ((8 : Int32) &&& 31)).toInt8.toInt32).toInt8.toInt32)), (.int (((x5 >>> ((0 : Int32) &&& 31)).toInt8.toInt32).toInt8.toInt32)), (.int (((x5 >>> ((8 : Int32) &&& 31)).toInt8.toInt32).toInt8.toInt32))] vI0
theorem rm1_6 (l : Launch) (Z : State) (a0 : Array Value) (hw : own_HW a0 Z) (ws : List Jvm.Cond) (r0 r1 : Addr) (c2 : ClassId) (x3 x4 : Int32) (x5 x6 : Int32) (h0 : Heap) (n0 : Nat) (O0 : Old Z n0 h0) (f1 : Arv Z h0 r1 c2 .char (3 : Int32) [(.int x3), (.int x4), (.int x5)] vI0) (f3 : Sta Z Z.heap "java/lang/String" "COMPACT_STRINGS" "Z" (.int x6)) (hc4 : ¬ (x6 = (0 : Int32))) (hc5 : ¬ ((255 : Int32) < x3)) (l6 : r1 < h0.size) (hc7 : (255 : Int32) < x4) (f8 : Sta Z Z.heap "java/lang/StringUTF16" "$assertionsDisabled" "Z" vI1) (f9 : Sta Z Z.heap "java/lang/StringUTF16" "HI_BYTE_SHIFT" "I" vI0) (f10 : Sta Z Z.heap "java/lang/StringUTF16" "LO_BYTE_SHIFT" "I" vI8) (hc11 : (255 : Int32) < (nar .char (((((((x4 >>> ((0 : Int32) &&& 31)).toInt8.toInt32).toInt8.toInt32) &&& (255 : Int32)) <<< ((0 : Int32) &&& 31)) ||| (((((x4 >>> ((8 : Int32) &&& 31)).toInt8.toInt32).toInt8.toInt32) &&& (255 : Int32)) <<< ((8 : Int32) &&& 31))).toUInt32.toUInt16.toUInt32.toInt32))) (f12 : Exa Z h0 r0 "java/lang/String") (f13 : Fld Z h0 r0 "java/lang/String" "coder" "B" vI0) (g14 : n0 ≤ r0) (f15 : Fld Z h0 r0 "java/lang/String" "value" "[B" .null) (l16 : r0 < h0.size) :
    own_MF l mN1 jdk_42_method_3_code 2 none ws rR5_2_9_74 Z h0 #[(.ref r0), (.ref r1)] (Q1_6 Z r0 r1 c2 x3 x4 x5 x6 h0 n0) := by
  refine own_open (plainFor_of_name pn_java_lang_String) (L0 := #[lR r0, lR r1]) (fun _ => by first | (simp [entryFrame, mkF, argsToLocals, Value.category]; done) | rfl) ?_
  intro p e s m below meth c s₁ hx hby hml hret hnn hZ hown X0 e0
  have N0 := Fr.nil n0; have w := @ww Z a0 hw
  obtain ⟨clq2, Arq2, qq2, Sq2, Nq2, Hq2, Gq2⟩ := id f1
  obtain ⟨_, T17, Lc17, X17, hQ17, st17⟩ := own_fin (X0.specialBack hx (y := mN0) rfl hown (mvT hZ (w 8 rfl)) (mvT hZ (w 9 rfl)) (mvT hZ (w 11 rfl)) (by decide) (backOf (W := 0) (rm2_6 l Z a0 hw [] r0 r1 x6 c2 x3 x4 x5 h0 n0 O0 f3 hc4 f1 hc5 l6 hc7 f8 f9 f10 hc11 f12 f13 g14 f15 l16) hZ (w 11 rfl) (w 4 rfl) (by decide) (by decide)) (g := (mkF m 6 #[lR r0, lR r1] [.null, vI3, vI0, (.ref r1), (.ref r0)])) rfl (by rw [hml]; rfl) (Steps.refl _) (a := r0) (argsL := [(.ref r1), vI0, vI3, .null]) (rest := []) (lenOf pd___CIILjava_lang_Void__V rfl) rfl (own_W rfl) (hb hby d1_6) (fun _ _ => ⟨rfl, e0, (by decide : 0 + 2 ≤ _), (by decide : 0 + 9 ≤ _)⟩))
  obtain ⟨b17_0, k17_0, rfl, N17q, K17, f18, f19, f20, f21, f22⟩ := hQ17
  have N17 := Fr.app N0 N17q
  have kp23 : Keep h0 T17.heap [r0] := (Keep.refl h0 [r0]).trans K17 (allS (Or.inl (List.mem_of_getElem? (i := 0) rfl)) all0)
  refine ⟨none, _, _, _, _, (fun _ => rfl), X17, by decide, by decide, ?_, fun fs hr => ?_⟩
  · exact ⟨b17_0, k17_0, rfl, N17, kp23, f18, f19, f20, f21, f22⟩
  · show SG p e below s₁ (mkF m 0 #[lR r0, lR r1] []) _
    refine qaN X0 hx hby d1_0 ?_
    refine qaN X0 hx hby d1_1 ?_
    refine qc X0 hx hby d1_2 ?_
    refine qaN X0 hx hby d1_3 ?_
    refine X0.arraylength hx (by rw [e0]; exact Arq2.1) (State.isArrayOf_alike hZ.alike Arq2.2.1) (g := (mkF m 4 #[lR r0, lR r1] [(.ref r1), vI0, (.ref r1), (.ref r0)])) rfl rfl (hb hby d1_4) _ ?_
    rw [len_of Sq2 Nq2]
    refine XS.aconstNull X0.here hx rfl (hb hby d1_5) ?_
    refine st17.trans ?_
    exact X17.returnOut hx hret (hb hby d1_9) hr
def Q0_8 (Z : State) (x0 x1 : Int32) (x2 x3 : Int32) (x4 x5 : Int32) (x6 x7 : Int32) (u8 : Value) (h0 : Heap) (n0 : Nat) (v : Option Value) (h : Heap) (L : List Loc) : Prop := v = some vI1 ∧ Fr n0 L
theorem rm0_8 (l : Launch) (Z : State) (a0 : Array Value) (hw : own_HW a0 Z) (ws : List Jvm.Cond) (x0 x1 : Int32) (x2 x3 : Int32) (x4 x5 : Int32) (x6 x7 : Int32) (u8 : Value) (h0 : Heap) (n0 : Nat) (O0 : Old Z n0 h0) (hc1 : (x0 &&& (3 : Int32)) = (3 : Int32)) (hq2 : ((x1 &&& (65535 : Int32)).toUInt32.toUInt16.toUInt32.toInt32) = x4) (hq3 : ((x2 &&& (65535 : Int32)).toUInt32.toUInt16.toUInt32.toInt32) = x5) (hq4 : ((x3 &&& (65535 : Int32)).toUInt32.toUInt16.toUInt32.toInt32) = x6) (f30 : Sta Z Z.heap "java/lang/String" "COMPACT_STRINGS" "Z" (.int x7)) (hc31 : ¬ (x7 = (0 : Int32))) (hc32 : ¬ ((255 : Int32) < (nar .char x4))) (hc37 : (255 : Int32) < (nar .char x5)) (f38 : Sta Z Z.heap "java/lang/StringUTF16" "$assertionsDisabled" "Z" vI1) (f39 : Sta Z Z.heap "java/lang/StringUTF16" "HI_BYTE_SHIFT" "I" vI0) (f40 : Sta Z Z.heap "java/lang/StringUTF16" "LO_BYTE_SHIFT" "I" vI8) (hc41 : (255 : Int32) < (nar .char ((((((((nar .char x5) >>> ((0 : Int32) &&& 31)).toInt8.toInt32).toInt8.toInt32) &&& (255 : Int32)) <<< ((0 : Int32) &&& 31)) ||| ((((((nar .char x5) >>> ((8 : Int32) &&& 31)).toInt8.toInt32).toInt8.toInt32) &&& (255 : Int32)) <<< ((8 : Int32) &&& 31))).toUInt32.toUInt16.toUInt32.toInt32))) (f60 : Sta Z Z.heap cs7 "SIOOBE_FORMATTER" cs8 u8) (hc61 : u8.isRef = true) (hc84 : (nar .char (nar .char (nar .char ((((((((nar .char x4) >>> ((0 : Int32) &&& 31)).toInt8.toInt32).toInt8.toInt32) &&& (255 : Int32)) <<< ((0 : Int32) &&& 31)) ||| ((((((nar .char x4) >>> ((8 : Int32) &&& 31)).toInt8.toInt32).toInt8.toInt32) &&& (255 : Int32)) <<< ((8 : Int32) &&& 31))).toUInt32.toUInt16.toUInt32.toInt32)))) = x4) (hc86 : (nar .char (nar .char (nar .char ((((((((nar .char x5) >>> ((0 : Int32) &&& 31)).toInt8.toInt32).toInt8.toInt32) &&& (255 : Int32)) <<< ((0 : Int32) &&& 31)) ||| ((((((nar .char x5) >>> ((8 : Int32) &&& 31)).toInt8.toInt32).toInt8.toInt32) &&& (255 : Int32)) <<< ((8 : Int32) &&& 31))).toUInt32.toUInt16.toUInt32.toInt32)))) = x5) (hc88 : (nar .char (nar .char (nar .char ((((((((nar .char x6) >>> ((0 : Int32) &&& 31)).toInt8.toInt32).toInt8.toInt32) &&& (255 : Int32)) <<< ((0 : Int32) &&& 31)) ||| ((((((nar .char x6) >>> ((8 : Int32) &&& 31)).toInt8.toInt32).toInt8.toInt32) &&& (255 : Int32)) <<< ((8 : Int32) &&& 31))).toUInt32.toUInt16.toUInt32.toInt32)))) = x6) :
    own_MH l x code maxLocals ret ws room_1 Z h0 #[(.int x0), (.int x1), (.int x2), (.int x3)] (Q0_8 Z x0 x1 x2 x3 x4 x5 x6 x7 u8 h0 n0) := by
  have hEL : EW Z a0 consts_1 := own_EW hw
  refine own_openH hEL (plainFor_of_name pn_com_example_manojo_manojo_ParameterNamedPinLaw) (L0 := #[lI x0, lI x1, lI x2, lI x3, lU, lU, lU, lU, lU, lU, lU, lU]) (fun _ => by first | (simp [entryFrame, mkF, argsToLocals, Value.category, maxLocals]; done) | rfl) ?_
  intro p e s m below meth c s₁ hx hby hml hret hnn hZ hown X0 e0 R0
  have N0 := Fr.nil n0; have w := @ww Z a0 hw
  obtain ⟨T5, h5, k5, X5, e5, E5, A5, B5, st5⟩ := newPE X0 hx hZ (w 1 rfl) e0 (g := (mkF m 28 #[lI x0, lI x1, lI x2, lI x3, lV vI3, lI x4, lI x5, lI x6, lU, lU, lU, lU] [vI3])) rfl (hb hby at_28) rfl (by decide) (cap := 3) (by decide) (by decide) (by decide) (by decide) (ad := "[C") rfl
  obtain ⟨b5, g5⟩ : ∃ z, z = h0.size := ⟨_, rfl⟩
  have sf6 : Safe Z consts_1 s.vm h0 b5 := Safe.new (Nat.le_of_eq g5.symm)
  rw [← g5] at A5 B5 st5
  have R7 := CHr.trans R0 (CHr.ext E5 R0.1)
  have V5 : Arv Z h5 b5 k5 .char (3 : Int32) [vI0, vI0, vI0] vI0 := (Arv.new A5 (by decide)).pad (pad_rep [] vI0 3)
  obtain ⟨clq8, Arq8, qq8, Sq8, Nq8, Hq8, Gq8⟩ := id V5
  have zz9 : n0 ≤ h0.size := by rw [← O0.1]; exact O0.2.1
  have g10 := Nat.le_trans zz9 (Nat.le_of_eq g5.symm)
  obtain ⟨T11, h11, X11, e11, W11, st11⟩ := stC X5 hx hZ e5 Arq8 (j := (0 : Int32)) (inb_of Sq8 ⟨(by decide : ¬ ((0 : Int32) < (0 : Int32))), (by decide : (0 : Int32) < (3 : Int32))⟩) (g := (mkF m 42 #[lI x0, lI x1, lI x2, lI x3, lV vI3, lI x4, lI x5, lI x6, lR b5, lU, lU, lU] [(.int x4), vI0, (.ref b5)])) rfl rfl (hb hby at_42)
  have sf12 : Safe Z consts_1 s.vm h5 b5 := (Safe.exa hZ.alike B5 (by decide) (by decide))
  have R13 := CHr.trans R7 (CHr.wr W11 sf12 R7.1)
  have V11 : Arv Z h11 b5 k5 .char (3 : Int32) [(.int (nar .char x4)), vI0, vI0] vI0 := Arv.set Arq8 qq8 Sq8 Nq8 Hq8 Gq8 (fits_nar_char _) W11 0 rfl (Nat.le_of_ble_eq_true rfl)
  have N11 := Fr.snoc X11 N0 g10
  obtain ⟨clq14, Arq14, qq14, Sq14, Nq14, Hq14, Gq14⟩ := id V11
  obtain ⟨T15, h15, X15, e15, W15, st15⟩ := stC X11 hx hZ e11 Arq14 (j := (1 : Int32)) (inb_of Sq14 ⟨(by decide : ¬ ((1 : Int32) < (0 : Int32))), (by decide : (1 : Int32) < (3 : Int32))⟩) (g := (mkF m 54 #[lI x0, lI x1, lI x2, lI x3, lV vI3, lI x4, lI x5, lI x6, lR b5, lU, lU, lU] [(.int x5), vI1, (.ref b5)])) rfl rfl (hb hby at_54)
  have f16 := (B5.wr W11)
  have sf17 : Safe Z consts_1 s.vm h11 b5 := (Safe.exa hZ.alike f16 (by decide) (by decide))
  have R18 := CHr.trans R13 (CHr.wr W15 sf17 R13.1)
  have V15 : Arv Z h15 b5 k5 .char (3 : Int32) [(.int (nar .char x4)), (.int (nar .char x5)), vI0] vI0 := Arv.set Arq14 qq14 Sq14 Nq14 Hq14 Gq14 (fits_nar_char _) W15 1 rfl (Nat.le_of_ble_eq_true rfl)
  have N15 := Fr.snoc X15 N11 g10
  obtain ⟨clq19, Arq19, qq19, Sq19, Nq19, Hq19, Gq19⟩ := id V15
  obtain ⟨T20, h20, X20, e20, W20, st20⟩ := stC X15 hx hZ e15 Arq19 (j := (2 : Int32)) (inb_of Sq19 ⟨(by decide : ¬ ((2 : Int32) < (0 : Int32))), (by decide : (2 : Int32) < (3 : Int32))⟩) (g := (mkF m 66 #[lI x0, lI x1, lI x2, lI x3, lV vI3, lI x4, lI x5, lI x6, lR b5, lU, lU, lU] [(.int x6), vI2, (.ref b5)])) rfl rfl (hb hby at_66)
  have f21 := (f16.wr W15)
  have sf22 : Safe Z consts_1 s.vm h15 b5 := (Safe.exa hZ.alike f21 (by decide) (by decide))
  have R23 := CHr.trans R18 (CHr.wr W20 sf22 R18.1)
  have V20 : Arv Z h20 b5 k5 .char (3 : Int32) [(.int (nar .char x4)), (.int (nar .char x5)), (.int (nar .char x6))] vI0 := Arv.set Arq19 qq19 Sq19 Nq19 Hq19 Gq19 (fits_nar_char _) W20 2 rfl (Nat.le_of_ble_eq_true rfl)
  have N20 := Fr.snoc X20 N15 g10
  obtain ⟨T24, h24, X24, e24, E24, A24, D24, -, st24⟩ := newO X20 hx hZ hown (w 2 rfl) (w 3 rfl) (w 4 rfl) e20 (g := (mkF m 67 #[lI x0, lI x1, lI x2, lI x3, lV vI3, lI x4, lI x5, lI x6, lR b5, lU, lU, lU] [])) rfl (hb hby at_67) (by decide) (by decide)
  obtain ⟨b24, g24⟩ : ∃ z, z = h20.size := ⟨_, rfl⟩
  have sf25 : Safe Z consts_1 s.vm h20 b24 := Safe.new (Nat.le_of_eq g24.symm)
  rw [← g24] at A24 D24 st24
  have R26 := CHr.trans R23 (CHr.ext E24 R23.1)
  have f27 : Fld Z h24 b24 "java/lang/String" "value" "[B" .null := D24 (Or.inr (w 17 rfl)) (ty := (.array .byte)) (by decide)
  have f28 : Fld Z h24 b24 "java/lang/String" "coder" "B" vI0 := D24 (Or.inr (w 18 rfl)) (ty := .byte) (by decide)
  have f29 := (V20.ext E24)
  have zs33 := (Nat.le_of_eq W11.size.symm)
  have zs34 := Nat.le_trans zs33 (Nat.le_of_eq W15.size.symm)
  have zs35 := Nat.le_trans zs34 (Nat.le_of_eq W20.size.symm)
  have zs36 := Nat.le_trans zs35 E24.1
  have o43 := Old.ext O0 E5
  have o44 := Old.wr o43 W11 g10
  have o45 := Old.wr o44 W15 g10
  have o46 := Old.wr o45 W20 g10
  have zz42 : n0 ≤ h20.size := by rw [← o46.1]; exact o46.2.1
  have g47 := Nat.le_trans zz42 (Nat.le_of_eq g24.symm)
  have o48 := Old.ext o46 E24
  obtain ⟨_, T49, Lc49, X49, hQ49, st49⟩ := own_fin (X24.specialBack hx (y := mN1) rfl hown (mvT hZ (w 5 rfl)) (mvT hZ (w 6 rfl)) (mvT hZ (w 7 rfl)) (by decide) (backOf (W := 1) (rm1_6 l Z a0 hw [] b24 b5 k5 (nar .char x4) (nar .char x5) (nar .char x6) x7 h24 n0 o48 f29 f30 hc31 hc32 (Nat.lt_of_lt_of_le V5.lt zs36) hc37 f38 f39 f40 hc41 A24 f28 g47 f27 A24.lt) hZ (w 7 rfl) (w 4 rfl) (by decide) (by decide)) (g := (mkF m 73 #[lI x0, lI x1, lI x2, lI x3, lV vI3, lI x4, lI x5, lI x6, lR b5, lU, lU, lU] [(.ref b5), (.ref b24), (.ref b24)])) rfl (by rw [hml]; rfl) (Steps.refl _) (a := b24) (argsL := [(.ref b5)]) (rest := [(.ref b24)]) (lenOf pd___C_V rfl) rfl (own_W rfl) (hb hby at_73) (fun _ _ => ⟨rfl, e24, (by decide : 2 + 2 ≤ _), (by decide : 7 + 9 ≤ _)⟩))
  obtain ⟨b49_0, k49_0, rfl, N49q, K49, f50, f51, f52, f53, f54⟩ := hQ49
  have N49 := Fr.app N20 N49q
  have sf55 := (Safe.ext E24 R23.1 sf25)
  have R56 := CHr.trans R26 (CHr.keep K49 (sfS sf55 sf0) R26.1)
  have sf57 : Safe Z consts_1 s.vm h24 b49_0 := Safe.new f52
  have f58 := (A24.keep K49)
  have zs59 := K49.1
  have o62 := Old.keep o48 K49 (allS g47 all0)
  have hS63 := (State.WarmedH.refl s).since 0
  obtain ⟨_, _, ⟨T64, L64, k64, n64⟩, -, X64, hs64, hg64, ⟨Lc64, hQ64, l64, y64, z64, cr64⟩, st64⟩ := callSS X49 hx (y := mN25) hown (mvT hZ (w 23 rfl)) (mvT hZ (w 24 rfl)) (mvT hZ (w 25 rfl)) (mvT hZ (w 26 rfl)) (by decide) (backOfSH (s := s) (vm0 := s.vm) (W := 0) (rm4_6 l Z a0 hw [] b24 x7 b49_0 k49_0 ((((nar .char x4) >>> ((0 : Int32) &&& 31)).toInt8.toInt32).toInt8.toInt32) ((((nar .char x4) >>> ((8 : Int32) &&& 31)).toInt8.toInt32).toInt8.toInt32) ((((nar .char x5) >>> ((0 : Int32) &&& 31)).toInt8.toInt32).toInt8.toInt32) ((((nar .char x5) >>> ((8 : Int32) &&& 31)).toInt8.toInt32).toInt8.toInt32) ((((nar .char x6) >>> ((0 : Int32) &&& 31)).toInt8.toInt32).toInt8.toInt32) ((((nar .char x6) >>> ((8 : Int32) &&& 31)).toInt8.toInt32).toInt8.toInt32) u8 T49.heap n0 o62 f30 hc31 f58 f51 (Nat.lt_of_lt_of_le A24.lt zs59) f54 f53.lt f50 f60 hc61 f38 f39 f40) hZ (w 26 rfl) (w 25 rfl) (by decide) (by decide) hEL R56.1) (g := (mkF m 80 #[lI x0, lI x1, lI x2, lI x3, lV vI3, lI x4, lI x5, lI x6, lR b5, lR b24, lU, lU] [(.ref b24)])) rfl (by rw [hml]; rfl) (argsL := [(.ref b24)]) (rest := []) (lenOf pd__Ljava_lang_String__Lcom_example_manojo_manojo_QueryTree_Parameter_ rfl) rfl (own_W rfl) (hb hby at_80) (fun _ _ => ⟨rfl, rfl, (by decide : 4 + 8 ≤ _), (by decide : 16 + 81 ≤ _)⟩)
  dsimp only [Pt.U, Pt.locs, Pt.cells, Pt.slots] at X64 l64 y64 z64 st64 hQ64 hs64 hg64 cr64
  subst l64 y64 z64
  obtain ⟨X64, hS64, hZ64, ho64⟩ := rebS (s := s) (vm0 := s.vm) hS63 ((Nat.zero_le _)) X64 hs64 hg64 hZ hown
  obtain ⟨b64_0, b64_1, b64_2, k64_0, rfl, N64q, K64, f65, f66, f67, f68, f69, f70, f71, f72, f73, f74, f75, f76, f77⟩ := hQ64
  have N64 := Fr.app N49 N64q
  have R78 := CHr.trans R56 cr64
  have o79 := Old.keep o62 K64 all0
  obtain ⟨_, T80, Lc80, X80, hQ80, st80⟩ := own_cV X64 hx hZ64 ho64 rfl (rm28_1 l Z a0 hw [] b64_0 b64_1 T64.heap n0 o79 f67) f66 (w 152 rfl) (w 153 rfl) (w 155 rfl) (w 154 rfl) (w 156 rfl) (w 25 rfl) (by decide) (W := 0) (by decide) (by decide) (by decide) (by decide) (g := (mkF m 87 #[lI x0, lI x1, lI x2, lI x3, lV vI3, lI x4, lI x5, lI x6, lR b5, lR b24, lR b64_0, lU] [(.ref b64_0)])) rfl (by rw [hml]; rfl) (argsL := []) (rest := []) (lenOf pd___Ljava_lang_String_ rfl) rfl (own_W rfl) (hb hby at_87)
  obtain ⟨rfl, N80q, E80⟩ := hQ80
  have N80 := Fr.app N64 N80q
  obtain ⟨_, T81, Lc81, X81, hQ81, st81⟩ := own_cV X80 hx hZ64 ho64 E80 (rm9_1 l Z a0 hw [] b64_1 b64_2 (8 : Int32) k64_0 ([vI58, vI0, (.int ((((nar .char x4) >>> ((0 : Int32) &&& 31)).toInt8.toInt32).toInt8.toInt32)), (.int ((((nar .char x4) >>> ((8 : Int32) &&& 31)).toInt8.toInt32).toInt8.toInt32)), (.int ((((nar .char x5) >>> ((0 : Int32) &&& 31)).toInt8.toInt32).toInt8.toInt32)), (.int ((((nar .char x5) >>> ((8 : Int32) &&& 31)).toInt8.toInt32).toInt8.toInt32)), (.int ((((nar .char x6) >>> ((0 : Int32) &&& 31)).toInt8.toInt32).toInt8.toInt32)), (.int ((((nar .char x6) >>> ((8 : Int32) &&& 31)).toInt8.toInt32).toInt8.toInt32))]) x7 (1 : Int32) T64.heap n0 o79 f71 f73 f69 f30 hc31 f70) f69 (w 157 rfl) (w 59 rfl) (w 61 rfl) (w 60 rfl) (w 62 rfl) (w 4 rfl) (by decide) (W := 0) (by decide) (by decide) (by decide) (by decide) (g := (mkF m 99 #[lI x0, lI x1, lI x2, lI x3, lV vI3, lI x4, lI x5, lI x6, lR b5, lR b24, lR b64_0, lR b64_1] [(.ref b64_1)])) rfl (by rw [hml]; rfl) (argsL := []) (rest := []) (lenOf pd___I rfl) rfl (own_W rfl) (hb hby at_99)
  obtain ⟨rfl, N81q, E81⟩ := hQ81
  have N81 := Fr.app N80 N81q
  obtain ⟨_, T82, Lc82, X82, hQ82, st82⟩ := own_cV X81 hx hZ64 ho64 E81 (rm29_2 l Z a0 hw [] b64_1 (0 : Int32) x7 (1 : Int32) b64_2 (8 : Int32) k64_0 ([vI58, vI0, (.int ((((nar .char x4) >>> ((0 : Int32) &&& 31)).toInt8.toInt32).toInt8.toInt32)), (.int ((((nar .char x4) >>> ((8 : Int32) &&& 31)).toInt8.toInt32).toInt8.toInt32)), (.int ((((nar .char x5) >>> ((0 : Int32) &&& 31)).toInt8.toInt32).toInt8.toInt32)), (.int ((((nar .char x5) >>> ((8 : Int32) &&& 31)).toInt8.toInt32).toInt8.toInt32)), (.int ((((nar .char x6) >>> ((0 : Int32) &&& 31)).toInt8.toInt32).toInt8.toInt32)), (.int ((((nar .char x6) >>> ((8 : Int32) &&& 31)).toInt8.toInt32).toInt8.toInt32))]) u8 (58 : Int32) (0 : Int32) T64.heap n0 o79 f69 f30 hc31 f70 (by decide) f71 f73 f60 hc61 (by decide) (by decide) f38 (own_gd (n := 0) rfl rfl) (by decide) (by decide) f39 (own_gd (n := 1) rfl rfl) (by decide) (by decide) f40) f69 (w 158 rfl) (w 159 rfl) (w 161 rfl) (w 160 rfl) (w 162 rfl) (w 4 rfl) (by decide) (W := 0) (by decide) (by decide) (by decide) (by decide) (g := (mkF m 114 #[lI x0, lI x1, lI x2, lI x3, lV vI3, lI x4, lI x5, lI x6, lR b5, lR b24, lR b64_0, lR b64_1] [vI0, (.ref b64_1)])) rfl (by rw [hml]; rfl) (argsL := [vI0]) (rest := []) (lenOf pd__I_C rfl) rfl (own_W rfl) (hb hby at_114)
  obtain ⟨rfl, N82q, E82⟩ := hQ82
  have N82 := Fr.app N81 N82q
  obtain ⟨_, T83, Lc83, X83, hQ83, st83⟩ := own_cV X82 hx hZ64 ho64 E82 (rm29_2 l Z a0 hw [] b64_1 (1 : Int32) x7 (1 : Int32) b64_2 (8 : Int32) k64_0 ([vI58, vI0, (.int ((((nar .char x4) >>> ((0 : Int32) &&& 31)).toInt8.toInt32).toInt8.toInt32)), (.int ((((nar .char x4) >>> ((8 : Int32) &&& 31)).toInt8.toInt32).toInt8.toInt32)), (.int ((((nar .char x5) >>> ((0 : Int32) &&& 31)).toInt8.toInt32).toInt8.toInt32)), (.int ((((nar .char x5) >>> ((8 : Int32) &&& 31)).toInt8.toInt32).toInt8.toInt32)), (.int ((((nar .char x6) >>> ((0 : Int32) &&& 31)).toInt8.toInt32).toInt8.toInt32)), (.int ((((nar .char x6) >>> ((8 : Int32) &&& 31)).toInt8.toInt32).toInt8.toInt32))]) u8 ((((nar .char x4) >>> ((0 : Int32) &&& 31)).toInt8.toInt32).toInt8.toInt32) ((((nar .char x4) >>> ((8 : Int32) &&& 31)).toInt8.toInt32).toInt8.toInt32) T64.heap n0 o79 f69 f30 hc31 f70 (by decide) f71 f73 f60 hc61 (by decide) (by decide) f38 (own_gd (n := 2) rfl rfl) (by decide) (by decide) f39 (own_gd (n := 3) rfl rfl) (by decide) (by decide) f40) f69 (w 158 rfl) (w 159 rfl) (w 161 rfl) (w 160 rfl) (w 162 rfl) (w 4 rfl) (by decide) (W := 0) (by decide) (by decide) (by decide) (by decide) (g := (mkF m 132 #[lI x0, lI x1, lI x2, lI x3, lV vI3, lI x4, lI x5, lI x6, lR b5, lR b24, lR b64_0, lR b64_1] [vI1, (.ref b64_1)])) rfl (by rw [hml]; rfl) (argsL := [vI1]) (rest := []) (lenOf pd__I_C rfl) rfl (own_W rfl) (hb hby at_132)
  obtain ⟨rfl, N83q, E83⟩ := hQ83
  have N83 := Fr.app N82 N83q
  obtain ⟨_, T85, Lc85, X85, hQ85, st85⟩ := own_cV X83 hx hZ64 ho64 E83 (rm29_2 l Z a0 hw [] b64_1 (2 : Int32) x7 (1 : Int32) b64_2 (8 : Int32) k64_0 ([vI58, vI0, (.int ((((nar .char x4) >>> ((0 : Int32) &&& 31)).toInt8.toInt32).toInt8.toInt32)), (.int ((((nar .char x4) >>> ((8 : Int32) &&& 31)).toInt8.toInt32).toInt8.toInt32)), (.int ((((nar .char x5) >>> ((0 : Int32) &&& 31)).toInt8.toInt32).toInt8.toInt32)), (.int ((((nar .char x5) >>> ((8 : Int32) &&& 31)).toInt8.toInt32).toInt8.toInt32)), (.int ((((nar .char x6) >>> ((0 : Int32) &&& 31)).toInt8.toInt32).toInt8.toInt32)), (.int ((((nar .char x6) >>> ((8 : Int32) &&& 31)).toInt8.toInt32).toInt8.toInt32))]) u8 ((((nar .char x5) >>> ((0 : Int32) &&& 31)).toInt8.toInt32).toInt8.toInt32) ((((nar .char x5) >>> ((8 : Int32) &&& 31)).toInt8.toInt32).toInt8.toInt32) T64.heap n0 o79 f69 f30 hc31 f70 (by decide) f71 f73 f60 hc61 (by decide) (by decide) f38 (own_gd (n := 4) rfl rfl) (by decide) (by decide) f39 (own_gd (n := 5) rfl rfl) (by decide) (by decide) f40) f69 (w 158 rfl) (w 159 rfl) (w 161 rfl) (w 160 rfl) (w 162 rfl) (w 4 rfl) (by decide) (W := 0) (by decide) (by decide) (by decide) (by decide) (g := (mkF m 151 #[lI x0, lI x1, lI x2, lI x3, lV vI3, lI x4, lI x5, lI x6, lR b5, lR b24, lR b64_0, lR b64_1] [vI2, (.ref b64_1)])) rfl (by rw [hml]; rfl) (argsL := [vI2]) (rest := []) (lenOf pd__I_C rfl) rfl (own_W rfl) (hb hby at_151)
  obtain ⟨rfl, N85q, E85⟩ := hQ85
  have N85 := Fr.app N83 N85q
  obtain ⟨_, T87, Lc87, X87, hQ87, st87⟩ := own_cV X85 hx hZ64 ho64 E85 (rm29_2 l Z a0 hw [] b64_1 (3 : Int32) x7 (1 : Int32) b64_2 (8 : Int32) k64_0 ([vI58, vI0, (.int ((((nar .char x4) >>> ((0 : Int32) &&& 31)).toInt8.toInt32).toInt8.toInt32)), (.int ((((nar .char x4) >>> ((8 : Int32) &&& 31)).toInt8.toInt32).toInt8.toInt32)), (.int ((((nar .char x5) >>> ((0 : Int32) &&& 31)).toInt8.toInt32).toInt8.toInt32)), (.int ((((nar .char x5) >>> ((8 : Int32) &&& 31)).toInt8.toInt32).toInt8.toInt32)), (.int ((((nar .char x6) >>> ((0 : Int32) &&& 31)).toInt8.toInt32).toInt8.toInt32)), (.int ((((nar .char x6) >>> ((8 : Int32) &&& 31)).toInt8.toInt32).toInt8.toInt32))]) u8 ((((nar .char x6) >>> ((0 : Int32) &&& 31)).toInt8.toInt32).toInt8.toInt32) ((((nar .char x6) >>> ((8 : Int32) &&& 31)).toInt8.toInt32).toInt8.toInt32) T64.heap n0 o79 f69 f30 hc31 f70 (by decide) f71 f73 f60 hc61 (by decide) (by decide) f38 (own_gd (n := 6) rfl rfl) (by decide) (by decide) f39 (own_gd (n := 7) rfl rfl) (by decide) (by decide) f40) f69 (w 158 rfl) (w 159 rfl) (w 161 rfl) (w 160 rfl) (w 162 rfl) (w 4 rfl) (by decide) (W := 0) (by decide) (by decide) (by decide) (by decide) (g := (mkF m 170 #[lI x0, lI x1, lI x2, lI x3, lV vI3, lI x4, lI x5, lI x6, lR b5, lR b24, lR b64_0, lR b64_1] [vI3, (.ref b64_1)])) rfl (by rw [hml]; rfl) (argsL := [vI3]) (rest := []) (lenOf pd__I_C rfl) rfl (own_W rfl) (hb hby at_170)
  obtain ⟨rfl, N87q, E87⟩ := hQ87
  have N87 := Fr.app N85 N87q
  refine ⟨some vI1, _, _, _, _, _, _, _, nofun, X87, by decide, by decide, hS64, (by rw [E87]; exact (Nat.le_refl _)), hZ64, E87, R78, ?_, fun fs hr => ?_⟩
  · rw [E87]; exact ⟨rfl, N87⟩
  · show SG p e below s₁ (mkF m 0 #[lI x0, lI x1, lI x2, lI x3, lU, lU, lU, lU, lU, lU, lU, lU] []) _
    refine qiN X0 hx hby at_0 ?_
    refine qc X0 hx hby at_1 ?_
    refine XS.iand X0.here hx rfl (hb hby at_2) rfl ?_
    show SG p e below s₁ (mkF m 3 #[lI x0, lI x1, lI x2, lI x3, lU, lU, lU, lU, lU, lU, lU, lU] [(.int (x0 &&& (3 : Int32)))]) _
    rw [hc1]
    refine XS.istore X0.here hx rfl (hb hby at_3) rfl (l' := #[lI x0, lI x1, lI x2, lI x3, lV vI3, lU, lU, lU, lU, lU, lU, lU]) rfl ?_
    refine qiN X0 hx hby at_5 ?_
    refine X0.ldcInt hx hown (mvT hZ (w 0 rfl)) (g := (mkF m 6 #[lI x0, lI x1, lI x2, lI x3, lV vI3, lU, lU, lU, lU, lU, lU, lU] [(.int x1)])) rfl (hb hby at_6) _ ?_
    refine XS.iand X0.here hx rfl (hb hby at_8) rfl ?_
    refine XS.i2c X0.here hx rfl (hb hby at_9) rfl ?_
    show SG p e below s₁ (mkF m 10 #[lI x0, lI x1, lI x2, lI x3, lV vI3, lU, lU, lU, lU, lU, lU, lU] [(.int ((x1 &&& (65535 : Int32)).toUInt32.toUInt16.toUInt32.toInt32))]) _
    rw [hq2]
    refine XS.istore X0.here hx rfl (hb hby at_10) rfl (l' := #[lI x0, lI x1, lI x2, lI x3, lV vI3, lI x4, lU, lU, lU, lU, lU, lU]) rfl ?_
    refine qiN X0 hx hby at_12 ?_
    show SG p e below s₁ (mkF m 13 #[lI x0, lI x1, lI x2, lI x3, lV vI3, lI x4, lU, lU, lU, lU, lU, lU] [(.int x2)]) _
    refine X0.ldcInt hx hown (mvT hZ (w 0 rfl)) (g := (mkF m 13 #[lI x0, lI x1, lI x2, lI x3, lV vI3, lI x4, lU, lU, lU, lU, lU, lU] [(.int x2)])) rfl (hb hby at_13) _ ?_
    refine XS.iand X0.here hx rfl (hb hby at_15) rfl ?_
    refine XS.i2c X0.here hx rfl (hb hby at_16) rfl ?_
    show SG p e below s₁ (mkF m 17 #[lI x0, lI x1, lI x2, lI x3, lV vI3, lI x4, lU, lU, lU, lU, lU, lU] [(.int ((x2 &&& (65535 : Int32)).toUInt32.toUInt16.toUInt32.toInt32))]) _
    rw [hq3]
    refine XS.istore X0.here hx rfl (hb hby at_17) rfl (l' := #[lI x0, lI x1, lI x2, lI x3, lV vI3, lI x4, lI x5, lU, lU, lU, lU, lU]) rfl ?_
    refine qiN X0 hx hby at_19 ?_
    refine X0.ldcInt hx hown (mvT hZ (w 0 rfl)) (g := (mkF m 20 #[lI x0, lI x1, lI x2, lI x3, lV vI3, lI x4, lI x5, lU, lU, lU, lU, lU] [(.int x3)])) rfl (hb hby at_20) _ ?_
    refine XS.iand X0.here hx rfl (hb hby at_22) rfl ?_
    refine XS.i2c X0.here hx rfl (hb hby at_23) rfl ?_
    show SG p e below s₁ (mkF m 24 #[lI x0, lI x1, lI x2, lI x3, lV vI3, lI x4, lI x5, lU, lU, lU, lU, lU] [(.int ((x3 &&& (65535 : Int32)).toUInt32.toUInt16.toUInt32.toInt32))]) _
    rw [hq4]
    refine XS.istore X0.here hx rfl (hb hby at_24) rfl (l' := #[lI x0, lI x1, lI x2, lI x3, lV vI3, lI x4, lI x5, lI x6, lU, lU, lU, lU]) rfl ?_
    refine qi X0 hx hby at_26 ?_
    show SG p e below s₁ (mkF m 28 #[lI x0, lI x1, lI x2, lI x3, lV vI3, lI x4, lI x5, lI x6, lU, lU, lU, lU] [vI3]) _
    refine st5 _ ?_
    refine XS.astore X5.here hx rfl (hb hby at_30) rfl rfl (l' := #[lI x0, lI x1, lI x2, lI x3, lV vI3, lI x4, lI x5, lI x6, lR b5, lU, lU, lU]) rfl ?_
    refine qi X5 hx hby at_32 ?_
    refine XS.ifNo X5.here hx rfl (hb hby at_34) rfl ((if0 _ _).trans (tlt (by decide : (0 : Int32) < (3 : Int32))).2.2.2) ?_
    refine qa X5 hx hby at_37 ?_
    refine qc X5 hx hby at_39 ?_
    refine qi X5 hx hby at_40 ?_
    refine st11 _ ?_
    refine qi X11 hx hby at_43 ?_
    refine qc X11 hx hby at_45 ?_
    show SG p e below T11 (mkF m 46 #[lI x0, lI x1, lI x2, lI x3, lV vI3, lI x4, lI x5, lI x6, lR b5, lU, lU, lU] [vI1, vI3]) _
    refine XS.icmpNo X11.here hx rfl (hb hby at_46) rfl (tlt (by decide : (1 : Int32) < (3 : Int32))).2.2.2 ?_
    refine qa X11 hx hby at_49 ?_
    refine qc X11 hx hby at_51 ?_
    refine qi X11 hx hby at_52 ?_
    refine st15 _ ?_
    refine qi X15 hx hby at_55 ?_
    refine qc X15 hx hby at_57 ?_
    refine XS.icmpNo X15.here hx rfl (hb hby at_58) rfl (tlt (by decide : (2 : Int32) < (3 : Int32))).2.2.2 ?_
    refine qa X15 hx hby at_61 ?_
    refine qc X15 hx hby at_63 ?_
    show SG p e below T15 (mkF m 64 #[lI x0, lI x1, lI x2, lI x3, lV vI3, lI x4, lI x5, lI x6, lR b5, lU, lU, lU] [vI2, (.ref b5)]) _
    refine qi X15 hx hby at_64 ?_
    refine st20 _ ?_
    refine st24 _ ?_
    refine qd X24 hx hby at_70 ?_
    refine qa X24 hx hby at_71 ?_
    refine st49.trans ?_
    refine XS.astore X49.here hx rfl (hb hby at_76) rfl rfl (l' := #[lI x0, lI x1, lI x2, lI x3, lV vI3, lI x4, lI x5, lI x6, lR b5, lR b24, lU, lU]) rfl ?_
    refine qa X49 hx hby at_78 ?_
    refine st64.trans ?_
    refine XS.astore X64.here hx rfl (hb hby at_83) rfl rfl (l' := #[lI x0, lI x1, lI x2, lI x3, lV vI3, lI x4, lI x5, lI x6, lR b5, lR b24, lR b64_0, lU]) rfl ?_
    show SG p e below T64 (mkF m 85 #[lI x0, lI x1, lI x2, lI x3, lV vI3, lI x4, lI x5, lI x6, lR b5, lR b24, lR b64_0, lU] []) _
    refine qa X64 hx hby at_85 ?_
    refine st80 _ ?_
    refine XS.astore X80.here hx rfl (hb hby at_90) rfl rfl (l' := #[lI x0, lI x1, lI x2, lI x3, lV vI3, lI x4, lI x5, lI x6, lR b5, lR b24, lR b64_0, lR b64_1]) rfl ?_
    refine qa X80 hx hby at_92 ?_
    refine XS.ifnullNo X80.here hx rfl (hb hby at_94) rfl ?_
    refine qa X80 hx hby at_97 ?_
    refine st81 _ ?_
    refine qi X81 hx hby at_102 ?_
    refine qc X81 hx hby at_104 ?_
    refine XS.iadd X81.here hx rfl (hb hby at_105) rfl ?_
    show SG p e below T81 (mkF m 106 #[lI x0, lI x1, lI x2, lI x3, lV vI3, lI x4, lI x5, lI x6, lR b5, lR b24, lR b64_0, lR b64_1] [vI4, vI4]) _
    refine XS.icmpYes X81.here hx rfl (pc0 := 106) (pc' := 111) rfl (hb hby at_106) rfl (teq (rfl : (4 : Int32) = (4 : Int32))).1 (by decide) (by decide) ?_
    refine qa X81 hx hby at_111 ?_
    refine qc X81 hx hby at_113 ?_
    refine st82 _ ?_
    refine qb X82 hx hby at_117 ?_
    refine XS.icmpYes X82.here hx rfl (pc0 := 119) (pc' := 124) rfl (hb hby at_119) rfl (teq (rfl : (58 : Int32) = (58 : Int32))).1 (by decide) (by decide) ?_
    refine qi X82 hx hby at_124 ?_
    refine XS.ifNo X82.here hx rfl (hb hby at_126) rfl ((if0 _ _).trans (tlt (by decide : (0 : Int32) < (3 : Int32))).2.2.2) ?_
    refine qa X82 hx hby at_129 ?_
    refine qc X82 hx hby at_131 ?_
    show SG p e below T82 (mkF m 132 #[lI x0, lI x1, lI x2, lI x3, lV vI3, lI x4, lI x5, lI x6, lR b5, lR b24, lR b64_0, lR b64_1] [vI1, (.ref b64_1)]) _
    refine st83 _ ?_
    refine qi X83 hx hby at_135 ?_
    refine XS.icmpYes X83.here hx rfl (pc0 := 137) (pc' := 142) rfl (hb hby at_137) rfl (teq hc84).1 (by decide) (by decide) ?_
    refine qi X83 hx hby at_142 ?_
    refine qc X83 hx hby at_144 ?_
    refine XS.icmpNo X83.here hx rfl (hb hby at_145) rfl (tlt (by decide : (1 : Int32) < (3 : Int32))).2.2.2 ?_
    refine qa X83 hx hby at_148 ?_
    refine qc X83 hx hby at_150 ?_
    refine st85 _ ?_
    refine qi X85 hx hby at_154 ?_
    show SG p e below T85 (mkF m 156 #[lI x0, lI x1, lI x2, lI x3, lV vI3, lI x4, lI x5, lI x6, lR b5, lR b24, lR b64_0, lR b64_1] [(.int x5), (.int (nar .char (nar .char (nar .char ((((((((nar .char x5) >>> ((0 : Int32) &&& 31)).toInt8.toInt32).toInt8.toInt32) &&& (255 : Int32)) <<< ((0 : Int32) &&& 31)) ||| ((((((nar .char x5) >>> ((8 : Int32) &&& 31)).toInt8.toInt32).toInt8.toInt32) &&& (255 : Int32)) <<< ((8 : Int32) &&& 31))).toUInt32.toUInt16.toUInt32.toInt32)))))]) _
    refine XS.icmpYes X85.here hx rfl (pc0 := 156) (pc' := 161) rfl (hb hby at_156) rfl (teq hc86).1 (by decide) (by decide) ?_
    refine qi X85 hx hby at_161 ?_
    refine qc X85 hx hby at_163 ?_
    refine XS.icmpNo X85.here hx rfl (hb hby at_164) rfl (tlt (by decide : (2 : Int32) < (3 : Int32))).2.2.2 ?_
    refine qa X85 hx hby at_167 ?_
    refine qc X85 hx hby at_169 ?_
    refine st87 _ ?_
    refine qi X87 hx hby at_173 ?_
    refine XS.icmpYes X87.here hx rfl (pc0 := 175) (pc' := 180) rfl (hb hby at_175) rfl (teq hc88).1 (by decide) (by decide) ?_
    refine qc X87 hx hby at_180 ?_
    show SG p e below T87 (mkF m 181 #[lI x0, lI x1, lI x2, lI x3, lV vI3, lI x4, lI x5, lI x6, lR b5, lR b24, lR b64_0, lR b64_1] [vI1]) _
    exact retN X87 hx (t := .boolean) hret (by simp) (hb hby at_181) hr
def Q35_6 (Z : State) (r0 r1 : Addr) (c2 : ClassId) (x3 x4 x5 : Int32) (c6 : ClassId) (h0 : Heap) (n0 : Nat) (v : Option Value) (h : Heap) (L : List Loc) : Prop := v = some vI2 ∧ Fr n0 L ∧ Keep h0 h [r1] ∧ Arv Z h r1 c6 .byte (3 : Int32) [(.int ((x3.toInt8.toInt32).toInt8.toInt32)), (.int ((x4.toInt8.toInt32).toInt8.toInt32)), vI0] vI0
theorem rm35_6 (l : Launch) (Z : State) (a0 : Array Value) (hw : own_HW a0 Z) (ws : List Jvm.Cond) (r0 r1 : Addr) (c2 : ClassId) (x3 x4 x5 : Int32) (c6 : ClassId) (h0 : Heap) (n0 : Nat) (O0 : Old Z n0 h0) (f1 : Arv Z h0 r0 c2 .char (3 : Int32) [(.int x3), (.int x4), (.int x5)] vI0) (hc3 : ¬ ((255 : Int32) < x3)) (f4 : Arv Z h0 r1 c6 .byte (3 : Int32) [vI0, vI0, vI0] vI0) (g6 : n0 ≤ r1) (n8 : r0 ≠ r1) (hc11 : ¬ ((255 : Int32) < x4)) (hc16 : (255 : Int32) < x5) :
    own_MF l mN32 jdk_52_method_21_code 7 (some .int) ws rR0_0_0_0 Z h0 #[(.ref r0), vI0, (.ref r1), vI0, vI3] (Q35_6 Z r0 r1 c2 x3 x4 x5 c6 h0 n0) := by
  refine own_open (plainFor_of_name pn_java_lang_StringUTF16) (L0 := #[lR r0, lV vI0, lR r1, lV vI0, lV vI3, lU, lU]) (fun _ => by first | (simp [entryFrame, mkF, argsToLocals, Value.category]; done) | rfl) ?_
  intro p e s m below meth c s₁ hx hby hml hret hnn hZ hown X0 e0
  have N0 := Fr.nil n0
  obtain ⟨clq2, Arq2, qq2, Sq2, Nq2, Hq2, Gq2⟩ := id f1
  obtain ⟨clq5, Arq5, qq5, Sq5, Nq5, Hq5, Gq5⟩ := id f4
  obtain ⟨T7, h7, X7, e7, W7, st7⟩ := stB X0 hx hZ e0 Arq5 (j := (0 : Int32)) (inb_of Sq5 ⟨(by decide : ¬ ((0 : Int32) < (0 : Int32))), (by decide : (0 : Int32) < (3 : Int32))⟩) (g := (mkF m 31 #[lR r0, lV vI0, lR r1, lV vI0, lV vI3, lV vI0, lI x3] [(.int (x3.toInt8.toInt32)), vI0, (.ref r1)])) rfl rfl (hb hby d35_31)
  have V7 : Arv Z h7 r1 c6 .byte (3 : Int32) [(.int ((x3.toInt8.toInt32).toInt8.toInt32)), vI0, vI0] vI0 := Arv.set Arq5 qq5 Sq5 Nq5 Hq5 Gq5 (fits_nar_byte _) W7 0 rfl (Nat.le_of_ble_eq_true rfl)
  have N7 := Fr.snoc X7 N0 g6
  have f9 := (f1.other W7 n8)
  obtain ⟨clq10, Arq10, qq10, Sq10, Nq10, Hq10, Gq10⟩ := id f9
  obtain ⟨clq12, Arq12, qq12, Sq12, Nq12, Hq12, Gq12⟩ := id V7
  obtain ⟨T13, h13, X13, e13, W13, st13⟩ := stB X7 hx hZ e7 Arq12 (j := (1 : Int32)) (inb_of Sq12 ⟨(by decide : ¬ ((1 : Int32) < (0 : Int32))), (by decide : (1 : Int32) < (3 : Int32))⟩) (g := (mkF m 31 #[lR r0, lV vI1, lR r1, lV vI1, lV vI3, lV vI1, lI x4] [(.int (x4.toInt8.toInt32)), vI1, (.ref r1)])) rfl rfl (hb hby d35_31)
  have V13 : Arv Z h13 r1 c6 .byte (3 : Int32) [(.int ((x3.toInt8.toInt32).toInt8.toInt32)), (.int ((x4.toInt8.toInt32).toInt8.toInt32)), vI0] vI0 := Arv.set Arq12 qq12 Sq12 Nq12 Hq12 Gq12 (fits_nar_byte _) W13 1 rfl (Nat.le_of_ble_eq_true rfl)
  have N13 := Fr.snoc X13 N7 g6
  have f14 := (f9.other W13 n8)
  obtain ⟨clq15, Arq15, qq15, Sq15, Nq15, Hq15, Gq15⟩ := id f14
  have kp17 : Keep h0 h7 [r1] := (Keep.refl h0 [r1]).wr W7 (Or.inl (List.mem_of_getElem? (i := 0) rfl))
  have kp18 : Keep h0 h13 [r1] := kp17.wr W13 (Or.inl (List.mem_of_getElem? (i := 0) rfl))
  refine ⟨some vI2, _, _, _, _, nofun, X13, by decide, by decide, ?_, fun fs hr => ?_⟩
  · rw [e13]; exact ⟨rfl, N13, kp18, V13⟩
  · show SG p e below s₁ (mkF m 0 #[lR r0, lV vI0, lR r1, lV vI0, lV vI3, lU, lU] []) _
    refine qc X0 hx hby d35_0 ?_
    refine XS.istore X0.here hx rfl (hb hby d35_1) rfl (l' := #[lR r0, lV vI0, lR r1, lV vI0, lV vI3, lV vI0, lU]) rfl ?_
    refine qi X0 hx hby d35_3 ?_
    refine qi X0 hx hby d35_5 ?_
    refine XS.icmpNo X0.here hx rfl (hb hby d35_7) rfl (tlt (by decide : (0 : Int32) < (3 : Int32))).2.1 ?_
    refine qaN X0 hx hby d35_10 ?_
    refine qiN X0 hx hby d35_11 ?_
    refine X0.caload hx (j := (0 : Int32)) (v := (.int x3)) (by rw [e0]; exact Arq2.1) (State.isArrayOf_alike hZ.alike Arq2.2.1) Arq2.2.2 (inb_of Sq2 ⟨(by decide : ¬ ((0 : Int32) < (0 : Int32))), (by decide : (0 : Int32) < (3 : Int32))⟩) (Has.at Hq2 (inb_of Sq2 ⟨(by decide : ¬ ((0 : Int32) < (0 : Int32))), (by decide : (0 : Int32) < (3 : Int32))⟩) rfl) (g := (mkF m 12 #[lR r0, lV vI0, lR r1, lV vI0, lV vI3, lV vI0, lU] [vI0, (.ref r0)])) rfl rfl (hb hby d35_12) _ ?_
    refine XS.istore X0.here hx rfl (hb hby d35_13) rfl (l' := #[lR r0, lV vI0, lR r1, lV vI0, lV vI3, lV vI0, lI x3]) rfl ?_
    refine qi X0 hx hby d35_15 ?_
    show SG p e below s₁ (mkF m 17 #[lR r0, lV vI0, lR r1, lV vI0, lV vI3, lV vI0, lI x3] [(.int x3)]) _
    refine XS.sipush X0.here hx rfl (hb hby d35_17) ?_
    refine XS.icmpYes X0.here hx rfl (pc0 := 20) (pc' := 26) rfl (hb hby d35_20) rfl (flt hc3).2.2.2 (by decide) (by decide) ?_
    refine qaN X0 hx hby d35_26 ?_
    refine qiN X0 hx hby d35_27 ?_
    refine qi X0 hx hby d35_28 ?_
    refine XS.i2b X0.here hx rfl (hb hby d35_30) rfl ?_
    refine st7 _ ?_
    refine XS.iinc X7.here hx rfl (hb hby d35_32) rfl (l' := #[lR r0, lV vI1, lR r1, lV vI0, lV vI3, lV vI0, lI x3]) rfl ?_
    refine XS.iinc X7.here hx rfl (hb hby d35_35) rfl (l' := #[lR r0, lV vI1, lR r1, lV vI1, lV vI3, lV vI0, lI x3]) rfl ?_
    refine XS.iinc X7.here hx rfl (hb hby d35_38) rfl (l' := #[lR r0, lV vI1, lR r1, lV vI1, lV vI3, lV vI1, lI x3]) rfl ?_
    show SG p e below T7 (mkF m 41 #[lR r0, lV vI1, lR r1, lV vI1, lV vI3, lV vI1, lI x3] []) _
    refine XS.goto X7.here hx rfl (pc0 := 41) (pc' := 3) rfl (hb hby d35_41) (by decide) (by decide) ?_
    refine qi X7 hx hby d35_3 ?_
    refine qi X7 hx hby d35_5 ?_
    refine XS.icmpNo X7.here hx rfl (hb hby d35_7) rfl (tlt (by decide : (1 : Int32) < (3 : Int32))).2.1 ?_
    refine qaN X7 hx hby d35_10 ?_
    refine qiN X7 hx hby d35_11 ?_
    refine X7.caload hx (j := (1 : Int32)) (v := (.int x4)) (by rw [e7]; exact Arq10.1) (State.isArrayOf_alike hZ.alike Arq10.2.1) Arq10.2.2 (inb_of Sq10 ⟨(by decide : ¬ ((1 : Int32) < (0 : Int32))), (by decide : (1 : Int32) < (3 : Int32))⟩) (Has.at Hq10 (inb_of Sq10 ⟨(by decide : ¬ ((1 : Int32) < (0 : Int32))), (by decide : (1 : Int32) < (3 : Int32))⟩) rfl) (g := (mkF m 12 #[lR r0, lV vI1, lR r1, lV vI1, lV vI3, lV vI1, lI x3] [vI1, (.ref r0)])) rfl rfl (hb hby d35_12) _ ?_
    refine XS.istore X7.here hx rfl (hb hby d35_13) rfl (l' := #[lR r0, lV vI1, lR r1, lV vI1, lV vI3, lV vI1, lI x4]) rfl ?_
    refine qi X7 hx hby d35_15 ?_
    refine XS.sipush X7.here hx rfl (hb hby d35_17) ?_
    show SG p e below T7 (mkF m 20 #[lR r0, lV vI1, lR r1, lV vI1, lV vI3, lV vI1, lI x4] [vI255, (.int x4)]) _
    refine XS.icmpYes X7.here hx rfl (pc0 := 20) (pc' := 26) rfl (hb hby d35_20) rfl (flt hc11).2.2.2 (by decide) (by decide) ?_
    refine qaN X7 hx hby d35_26 ?_
    refine qiN X7 hx hby d35_27 ?_
    refine qi X7 hx hby d35_28 ?_
    refine XS.i2b X7.here hx rfl (hb hby d35_30) rfl ?_
    refine st13 _ ?_
    refine XS.iinc X13.here hx rfl (hb hby d35_32) rfl (l' := #[lR r0, lV vI2, lR r1, lV vI1, lV vI3, lV vI1, lI x4]) rfl ?_
    refine XS.iinc X13.here hx rfl (hb hby d35_35) rfl (l' := #[lR r0, lV vI2, lR r1, lV vI2, lV vI3, lV vI1, lI x4]) rfl ?_
    refine XS.iinc X13.here hx rfl (hb hby d35_38) rfl (l' := #[lR r0, lV vI2, lR r1, lV vI2, lV vI3, lV vI2, lI x4]) rfl ?_
    refine XS.goto X13.here hx rfl (pc0 := 41) (pc' := 3) rfl (hb hby d35_41) (by decide) (by decide) ?_
    show SG p e below T13 (mkF m 3 #[lR r0, lV vI2, lR r1, lV vI2, lV vI3, lV vI2, lI x4] []) _
    refine qi X13 hx hby d35_3 ?_
    refine qi X13 hx hby d35_5 ?_
    refine XS.icmpNo X13.here hx rfl (hb hby d35_7) rfl (tlt (by decide : (2 : Int32) < (3 : Int32))).2.1 ?_
    refine qaN X13 hx hby d35_10 ?_
    refine qiN X13 hx hby d35_11 ?_
    refine X13.caload hx (j := (2 : Int32)) (v := (.int x5)) (by rw [e13]; exact Arq15.1) (State.isArrayOf_alike hZ.alike Arq15.2.1) Arq15.2.2 (inb_of Sq15 ⟨(by decide : ¬ ((2 : Int32) < (0 : Int32))), (by decide : (2 : Int32) < (3 : Int32))⟩) (Has.at Hq15 (inb_of Sq15 ⟨(by decide : ¬ ((2 : Int32) < (0 : Int32))), (by decide : (2 : Int32) < (3 : Int32))⟩) rfl) (g := (mkF m 12 #[lR r0, lV vI2, lR r1, lV vI2, lV vI3, lV vI2, lI x4] [vI2, (.ref r0)])) rfl rfl (hb hby d35_12) _ ?_
    refine XS.istore X13.here hx rfl (hb hby d35_13) rfl (l' := #[lR r0, lV vI2, lR r1, lV vI2, lV vI3, lV vI2, lI x5]) rfl ?_
    refine qi X13 hx hby d35_15 ?_
    refine XS.sipush X13.here hx rfl (hb hby d35_17) ?_
    refine XS.icmpNo X13.here hx rfl (hb hby d35_20) rfl (tlt hc16).2.2.2 ?_
    show SG p e below T13 (mkF m 23 #[lR r0, lV vI2, lR r1, lV vI2, lV vI3, lV vI2, lI x5] []) _
    refine qi X13 hx hby d35_23 ?_
    exact retOut X13 hx (i := .ireturn) hret rfl (Or.inl ⟨rfl, Or.inl rfl, _, rfl⟩) (hb hby d35_25) hr
def Q34_6 (Z : State) (r0 : Addr) (c1 : ClassId) (x2 x3 x4 : Int32) (h0 : Heap) (n0 : Nat) (v : Option Value) (h : Heap) (L : List Loc) : Prop := ∃ (b21_0 : Addr) (k21_0 : ClassId), v = some (.ref b21_0) ∧ Fr n0 L ∧ Keep h0 h [] ∧ h0.size ≤ b21_0 ∧ Exa Z h b21_0 "[B" ∧ Arv Z h b21_0 k21_0 .byte (6 : Int32) [(.int (((x2 >>> ((0 : Int32) &&& 31)).toInt8.toInt32).toInt8.toInt32)), (.int (((x2 >>> ((8 : Int32) &&& 31)).toInt8.toInt32).toInt8.toInt32)), (.int (((x3 >>> ((0 : Int32) &&& 31)).toInt8.toInt32).toInt8.toInt32)), (.int (((x3 >>> ((8 : Int32) &&& 31)).toInt8.toInt32).toInt8.toInt32)), (.int (((x4 >>> ((0 : Int32) &&& 31)).toInt8.toInt32).toInt8.toInt32)), (.int (((x4 >>> ((8 : Int32) &&& 31)).toInt8.toInt32).toInt8.toInt32))] vI0
theorem rm34_6 (l : Launch) (Z : State) (a0 : Array Value) (hw : own_HW a0 Z) (ws : List Jvm.Cond) (r0 : Addr) (c1 : ClassId) (x2 x3 x4 : Int32) (h0 : Heap) (n0 : Nat) (O0 : Old Z n0 h0) (f2 : Arv Z h0 r0 c1 .char (3 : Int32) [(.int x2), (.int x3), (.int x4)] vI0) (hc4 : ¬ ((255 : Int32) < x2)) (l7 : r0 < h0.size) (hc9 : ¬ ((255 : Int32) < x3)) (hc10 : (255 : Int32) < x4) (f15 : Sta Z Z.heap "java/lang/StringUTF16" "$assertionsDisabled" "Z" vI1) (f16 : Sta Z Z.heap "java/lang/StringUTF16" "HI_BYTE_SHIFT" "I" vI0) (f17 : Sta Z Z.heap "java/lang/StringUTF16" "LO_BYTE_SHIFT" "I" vI8) (hc27 : (255 : Int32) < (nar .char (((((((x4 >>> ((0 : Int32) &&& 31)).toInt8.toInt32).toInt8.toInt32) &&& (255 : Int32)) <<< ((0 : Int32) &&& 31)) ||| (((((x4 >>> ((8 : Int32) &&& 31)).toInt8.toInt32).toInt8.toInt32) &&& (255 : Int32)) <<< ((8 : Int32) &&& 31))).toUInt32.toUInt16.toUInt32.toInt32))) :
    own_MF l mN38 jdk_52_method_16_code 6 (some (.array .byte)) ws rR3_2_9_40 Z h0 #[(.ref r0), vI0, vI3] (Q34_6 Z r0 c1 x2 x3 x4 h0 n0) := by
  refine own_open (plainFor_of_name pn_java_lang_StringUTF16) (L0 := #[lR r0, lV vI0, lV vI3, lU, lU, lU]) (fun _ => by first | (simp [entryFrame, mkF, argsToLocals, Value.category]; done) | rfl) ?_
  intro p e s m below meth c s₁ hx hby hml hret hnn hZ hown X0 e0
  have N0 := Fr.nil n0; have w := @ww Z a0 hw
  obtain ⟨T1, h1, k1, X1, e1, E1, A1, B1, st1⟩ := newPE X0 hx hZ (w 16 rfl) e0 (g := (mkF m 1 #[lR r0, lV vI0, lV vI3, lU, lU, lU] [vI3])) rfl (hb hby d34_1) rfl (by decide) (cap := 3) (by decide) (by decide) (by decide) (by decide) (ad := "[B") rfl
  obtain ⟨b1, g1⟩ : ∃ z, z = h0.size := ⟨_, rfl⟩
  rw [← g1] at A1 B1 st1
  have V1 : Arv Z h1 b1 k1 .byte (3 : Int32) [vI0, vI0, vI0] vI0 := (Arv.new A1 (by decide)).pad (pad_rep [] vI0 3)
  have f3 := (f2.ext E1)
  have zz5 : n0 ≤ h0.size := by rw [← O0.1]; exact O0.2.1
  have g6 := Nat.le_trans zz5 (Nat.le_of_eq g1.symm)
  have n8 := Nat.ne_of_lt (Nat.lt_of_lt_of_le l7 (Nat.le_of_eq g1.symm))
  have o11 := Old.ext O0 E1
  obtain ⟨_, T12, Lc12, X12, hQ12, st12⟩ := own_cS X1 hx hZ hown e1 (rm35_6 l Z a0 hw [] r0 b1 c1 x2 x3 x4 k1 h1 n0 o11 f3 hc4 V1 g6 n8 hc9 hc10) (w 184 rfl) (w 185 rfl) (w 182 rfl) (w 186 rfl) (by decide) (W := 0) (by decide) (by decide) (by decide) (by decide) (g := (mkF m 9 #[lR r0, lV vI0, lV vI3, lR b1, lU, lU] [vI3, vI0, (.ref b1), vI0, (.ref r0)])) rfl (by rw [hml]; rfl) (argsL := [(.ref r0), vI0, (.ref b1), vI0, vI3]) (rest := []) (lenOf pd___CI_BII_I rfl) rfl (own_W rfl) (hb hby d34_9)
  obtain ⟨rfl, N12q, K12, f13⟩ := hQ12
  have N12 := Fr.app N0 N12q
  have f14 := (f3.keep K12 (ninS n8 nin0))
  have zs18 := E1.1
  have zs19 := Nat.le_trans zs18 K12.1
  have o20 := Old.keep o11 K12 (allS g6 all0)
  obtain ⟨_, T21, Lc21, X21, hQ21, st21⟩ := own_cS X12 hx hZ hown rfl (rm37_3 l Z a0 hw [] r0 c1 x2 x3 x4 T12.heap n0 o20 f14 f15 f16 f17 (Nat.lt_of_lt_of_le l7 zs19)) (w 190 rfl) (w 191 rfl) (w 182 rfl) (w 192 rfl) (by decide) (W := 0) (by decide) (by decide) (by decide) (by decide) (g := (mkF m 23 #[lR r0, lV vI0, lV vI3, lR b1, lV vI2, lU] [vI3, vI0, (.ref r0)])) rfl (by rw [hml]; rfl) (argsL := [(.ref r0), vI0, vI3]) (rest := []) (lenOf pd___CII__B rfl) rfl (own_W rfl) (hb hby d34_23)
  obtain ⟨b21_0, k21_0, rfl, N21q, K21, f22, f23, f24⟩ := hQ21
  have N21 := Fr.app N12 N21q
  have o25 := Old.keep o20 K21 all0
  obtain ⟨_, T26, Lc26, X26, hQ26, st26⟩ := own_cS X21 hx hZ hown rfl (rm41_1 l Z a0 hw [] b21_0 (2 : Int32) (6 : Int32) k21_0 ([(.int (((x2 >>> ((0 : Int32) &&& 31)).toInt8.toInt32).toInt8.toInt32)), (.int (((x2 >>> ((8 : Int32) &&& 31)).toInt8.toInt32).toInt8.toInt32)), (.int (((x3 >>> ((0 : Int32) &&& 31)).toInt8.toInt32).toInt8.toInt32)), (.int (((x3 >>> ((8 : Int32) &&& 31)).toInt8.toInt32).toInt8.toInt32)), (.int (((x4 >>> ((0 : Int32) &&& 31)).toInt8.toInt32).toInt8.toInt32)), (.int (((x4 >>> ((8 : Int32) &&& 31)).toInt8.toInt32).toInt8.toInt32))]) (((x4 >>> ((0 : Int32) &&& 31)).toInt8.toInt32).toInt8.toInt32) (((x4 >>> ((8 : Int32) &&& 31)).toInt8.toInt32).toInt8.toInt32) T21.heap n0 o25 f15 f24 (own_gd (n := 4) rfl rfl) (by decide) (by decide) f16 (own_gd (n := 5) rfl rfl) (by decide) (by decide) f17) (w 206 rfl) (w 207 rfl) (w 182 rfl) (w 208 rfl) (by decide) (W := 0) (by decide) (by decide) (by decide) (by decide) (g := (mkF m 32 #[lR r0, lV vI0, lV vI3, lR b1, lV vI2, lR b21_0] [vI2, (.ref b21_0)])) rfl (by rw [hml]; rfl) (argsL := [(.ref b21_0), vI2]) (rest := []) (lenOf pd___BI_C rfl) rfl (own_W rfl) (hb hby d34_32)
  obtain ⟨rfl, N26q, E26⟩ := hQ26
  have N26 := Fr.app N21 N26q
  have kp28 : Keep h0 h1 [] := (Keep.refl h0 []).ext E1
  have kp29 : Keep h0 T12.heap [] := kp28.trans K12 (allS (Or.inr (Nat.le_of_eq g1.symm)) all0)
  have kp30 : Keep h0 T21.heap [] := kp29.trans K21 all0
  refine ⟨some (.ref b21_0), _, _, _, _, nofun, X26, by decide, by decide, ?_, fun fs hr => ?_⟩
  · rw [E26]; exact ⟨b21_0, k21_0, rfl, N26, kp30, (Nat.le_trans zs19 f22), f23, f24⟩
  · show SG p e below s₁ (mkF m 0 #[lR r0, lV vI0, lV vI3, lU, lU, lU] []) _
    refine qiN X0 hx hby d34_0 ?_
    refine st1 _ ?_
    refine XS.astoreN X1.here hx rfl (hb hby d34_3) rfl rfl (l' := #[lR r0, lV vI0, lV vI3, lR b1, lU, lU]) rfl ?_
    refine qaN X1 hx hby d34_4 ?_
    refine qiN X1 hx hby d34_5 ?_
    refine qaN X1 hx hby d34_6 ?_
    refine qc X1 hx hby d34_7 ?_
    refine qiN X1 hx hby d34_8 ?_
    refine st12 _ ?_
    refine XS.istore X12.here hx rfl (hb hby d34_12) rfl (l' := #[lR r0, lV vI0, lV vI3, lR b1, lV vI2, lU]) rfl ?_
    show SG p e below T12 (mkF m 14 #[lR r0, lV vI0, lV vI3, lR b1, lV vI2, lU] []) _
    refine qi X12 hx hby d34_14 ?_
    refine qiN X12 hx hby d34_16 ?_
    refine XS.icmpNo X12.here hx rfl (hb hby d34_17) rfl (feq (by decide : ¬ ((2 : Int32) = (3 : Int32)))).1 ?_
    refine qaN X12 hx hby d34_20 ?_
    refine qiN X12 hx hby d34_21 ?_
    refine qiN X12 hx hby d34_22 ?_
    refine st21 _ ?_
    refine XS.astore X21.here hx rfl (hb hby d34_26) rfl rfl (l' := #[lR r0, lV vI0, lV vI3, lR b1, lV vI2, lR b21_0]) rfl ?_
    refine qa X21 hx hby d34_28 ?_
    refine qi X21 hx hby d34_30 ?_
    show SG p e below T21 (mkF m 32 #[lR r0, lV vI0, lV vI3, lR b1, lV vI2, lR b21_0] [vI2, (.ref b21_0)]) _
    refine st26 _ ?_
    refine XS.sipush X26.here hx rfl (hb hby d34_35) ?_
    refine XS.icmpYes X26.here hx rfl (pc0 := 38) (pc' := 54) rfl (hb hby d34_38) rfl (tlt hc27).2.2.1 (by decide) (by decide) ?_
    refine qa X26 hx hby d34_54 ?_
    exact retOut X26 hx (i := .areturn) hret rfl (Or.inr (Or.inr (Or.inr (Or.inr ⟨rfl, rfl, rfl⟩)))) (hb hby d34_56) hr
def Q2_7 (Z : State) (r0 r1 : Addr) (x2 : Int32) (c3 : ClassId) (x4 x5 x6 : Int32) (h0 : Heap) (n0 : Nat) (v : Option Value) (h : Heap) (L : List Loc) : Prop := ∃ (b15_0 : Addr) (k15_0 : ClassId), v = none ∧ Fr n0 L ∧ Keep h0 h [r0] ∧ Fld Z h r0 "java/lang/String" "coder" "B" vI1 ∧ Fld Z h r0 "java/lang/String" "value" "[B" (.ref b15_0) ∧ h0.size ≤ b15_0 ∧ Exa Z h b15_0 "[B" ∧ Arv Z h b15_0 k15_0 .byte (6 : Int32) [(.int (((x4 >>> ((0 : Int32) &&& 31)).toInt8.toInt32).toInt8.toInt32)), (.int (((x4 >>> ((8 : Int32) &&& 31)).toInt8.toInt32).toInt8.toInt32)), (.int (((x5 >>> ((0 : Int32) &&& 31)).toInt8.toInt32).toInt8.toInt32)), (.int (((x5 >>> ((8 : Int32) &&& 31)).toInt8.toInt32).toInt8.toInt32)), (.int (((x6 >>> ((0 : Int32) &&& 31)).toInt8.toInt32).toInt8.toInt32)), (.int (((x6 >>> ((8 : Int32) &&& 31)).toInt8.toInt32).toInt8.toInt32))] vI0
theorem rm2_7 (l : Launch) (Z : State) (a0 : Array Value) (hw : own_HW a0 Z) (ws : List Jvm.Cond) (r0 r1 : Addr) (x2 : Int32) (c3 : ClassId) (x4 x5 x6 : Int32) (h0 : Heap) (n0 : Nat) (O0 : Old Z n0 h0) (f2 : Sta Z Z.heap "java/lang/String" "COMPACT_STRINGS" "Z" (.int x2)) (hc5 : ¬ (x2 = (0 : Int32))) (f6 : Arv Z h0 r1 c3 .char (3 : Int32) [(.int x4), (.int x5), (.int x6)] vI0) (hc7 : ¬ ((255 : Int32) < x4)) (l8 : r1 < h0.size) (hc9 : ¬ ((255 : Int32) < x5)) (hc10 : (255 : Int32) < x6) (f11 : Sta Z Z.heap "java/lang/StringUTF16" "$assertionsDisabled" "Z" vI1) (f12 : Sta Z Z.heap "java/lang/StringUTF16" "HI_BYTE_SHIFT" "I" vI0) (f13 : Sta Z Z.heap "java/lang/StringUTF16" "LO_BYTE_SHIFT" "I" vI8) (hc14 : (255 : Int32) < (nar .char (((((((x6 >>> ((0 : Int32) &&& 31)).toInt8.toInt32).toInt8.toInt32) &&& (255 : Int32)) <<< ((0 : Int32) &&& 31)) ||| (((((x6 >>> ((8 : Int32) &&& 31)).toInt8.toInt32).toInt8.toInt32) &&& (255 : Int32)) <<< ((8 : Int32) &&& 31))).toUInt32.toUInt16.toUInt32.toInt32))) (f21 : Exa Z h0 r0 "java/lang/String") (f23 : Fld Z h0 r0 "java/lang/String" "coder" "B" vI0) (g25 : n0 ≤ r0) (f28 : Fld Z h0 r0 "java/lang/String" "value" "[B" .null) (l33 : r0 < h0.size) :
    own_MF l mN0 jdk_42_method_149_code 6 none ws rR4_2_9_57 Z h0 #[(.ref r0), (.ref r1), vI0, vI3, .null] (Q2_7 Z r0 r1 x2 c3 x4 x5 x6 h0 n0) := by
  refine own_open (plainFor_of_name pn_java_lang_String) (L0 := #[lR r0, lR r1, lV vI0, lV vI3, .val .null, lU]) (fun _ => by first | (simp [entryFrame, mkF, argsToLocals, Value.category]; done) | rfl) ?_
  intro p e s m below meth c s₁ hx hby hml hret hnn hZ hown X0 e0
  have N0 := Fr.nil n0; have w := @ww Z a0 hw
  have hnm := (name_of_methodNamed hnn.1 hnn.2).1
  obtain ⟨T1, X1, e1, st1⟩ := initO X0 hx hZ hown (w 12 rfl) (w 13 rfl) (w 14 rfl) e0 (g := (mkF m 1 #[lR r0, lR r1, lV vI0, lV vI3, .val .null, lU] [(.ref r0)])) rfl (by rw [hml]; rfl) rfl (hb hby d2_1) (by decide) (W := 0) (own_W rfl) (by decide)
  have f3 := f2.ext O0.2
  obtain ⟨T4, X4, e4, st4⟩ := getS2 X1 hx hZ hown (host := "") (Or.inl (w 68 rfl)) Via.refl e1 f3 (g := (mkF m 27 #[lR r0, lR r1, lV vI0, lV vI3, .val .null, lU] [])) rfl (hb hby d2_27)
  obtain ⟨_, T15, Lc15, X15, hQ15, st15⟩ := own_cS X4 hx hZ hown e4 (rm34_6 l Z a0 hw [] r1 c3 x4 x5 x6 h0 n0 O0 f6 hc7 l8 hc9 hc10 f11 f12 f13 hc14) (w 180 rfl) (w 181 rfl) (w 182 rfl) (w 183 rfl) (by decide) (W := 0) (by decide) (by decide) (by decide) (by decide) (g := (mkF m 36 #[lR r0, lR r1, lV vI0, lV vI3, .val .null, lU] [vI3, vI0, (.ref r1)])) rfl (by rw [hml]; rfl) (argsL := [(.ref r1), vI0, vI3]) (rest := []) (lenOf pd___CII__B rfl) rfl (own_W rfl) (hb hby d2_36)
  obtain ⟨b15_0, k15_0, rfl, N15q, K15, f16, f17, f18⟩ := hQ15
  have N15 := Fr.app N0 N15q
  have o19 := Old.keep O0 K15 all0
  obtain ⟨_, T20, Lc20, X20, hQ20, st20⟩ := own_cS X15 hx hZ hown rfl (rm36_3 l Z a0 hw [] b15_0 k15_0 (((x4 >>> ((0 : Int32) &&& 31)).toInt8.toInt32).toInt8.toInt32) (((x4 >>> ((8 : Int32) &&& 31)).toInt8.toInt32).toInt8.toInt32) (((x5 >>> ((0 : Int32) &&& 31)).toInt8.toInt32).toInt8.toInt32) (((x5 >>> ((8 : Int32) &&& 31)).toInt8.toInt32).toInt8.toInt32) (((x6 >>> ((0 : Int32) &&& 31)).toInt8.toInt32).toInt8.toInt32) (((x6 >>> ((8 : Int32) &&& 31)).toInt8.toInt32).toInt8.toInt32) T15.heap n0 o19 f18) (w 187 rfl) (w 188 rfl) (w 182 rfl) (w 189 rfl) (by decide) (W := 1) (by decide) (by decide) (by decide) (by decide) (g := (mkF m 45 #[lR r0, lR r1, lV vI0, lV vI3, .val .null, lR b15_0] [vI3, (.ref b15_0), (.ref r0)])) rfl (by rw [hml]; rfl) (argsL := [(.ref b15_0), vI3]) (rest := [(.ref r0)]) (lenOf pd___BI_B rfl) rfl (own_W rfl) (hb hby d2_45)
  obtain ⟨rfl, N20q, E20⟩ := hQ20
  have N20 := Fr.app N15 N20q
  have f22 := (f21.keep K15)
  have f24 := (f23.keep K15 nin0)
  obtain ⟨T26, h26, X26, e26, W26, st26⟩ := putFN X20 hx hZ hown (w 22 rfl) Via.refl E20 f24 f22 (Or.inr ⟨(w 18 rfl), rfl, hnm⟩) (w 3 rfl) (ty := .byte) (v' := vI1) (by decide) rfl (by decide) (g := (mkF m 48 #[lR r0, lR r1, lV vI0, lV vI3, .val .null, lR b15_0] [vI1, (.ref r0)])) rfl rfl (hb hby d2_48)
  have Fw26 := f24.same W26
  have N26 := Fr.snoc X26 N20 g25
  have f27 := (f22.wr W26)
  have f29 := ((f28.keep K15 nin0).other W26 (Or.inr (slot_ne (Or.inr (w 17 rfl)) (Or.inr (w 18 rfl)) (by decide) (t := (.array .byte)) (t' := .byte) (by decide) (by decide))))
  obtain ⟨T30, h30, X30, e30, W30, st30⟩ := putF X26 hx hZ hown (host := "") (Or.inl (w 21 rfl)) Via.refl e26 f29 f27 (Or.inr ⟨(w 17 rfl), rfl, hnm⟩) (w 3 rfl) (ty := (.array .byte)) (by decide) rfl rfl (g := (mkF m 54 #[lR r0, lR r1, lV vI0, lV vI3, .val .null, lR b15_0] [(.ref b15_0), (.ref r0)])) rfl rfl (hb hby d2_54)
  have Fw30 := f29.same W30
  have N30 := Fr.snoc X30 N26 g25
  have f31 := (Fw26.other W30 (Or.inr (slot_ne (Or.inr (w 18 rfl)) (Or.inr (w 17 rfl)) (by decide) (t := .byte) (t' := (.array .byte)) (by decide) (by decide))))
  have f32 := ((f17.wr W26).wr W30)
  have n34 := Nat.ne_of_lt (Nat.lt_of_lt_of_le l33 f16)
  have f35 := ((f18.other W26 (Ne.symm n34)).other W30 (Ne.symm n34))
  have kp36 : Keep h0 T15.heap [r0] := (Keep.refl h0 [r0]).trans K15 all0
  have kp37 : Keep h0 h26 [r0] := kp36.wr W26 (Or.inl (List.mem_of_getElem? (i := 0) rfl))
  have kp38 : Keep h0 h30 [r0] := kp37.wr W30 (Or.inl (List.mem_of_getElem? (i := 0) rfl))
  refine ⟨none, _, _, _, _, (fun _ => rfl), X30, by decide, by decide, ?_, fun fs hr => ?_⟩
  · rw [e30]; exact ⟨b15_0, k15_0, rfl, N30, kp38, f31, Fw30, f16, f32, f35⟩
  · show SG p e below s₁ (mkF m 0 #[lR r0, lR r1, lV vI0, lV vI3, .val .null, lU] []) _
    refine qaN X0 hx hby d2_0 ?_
    refine st1 _ ?_
    refine qiN X1 hx hby d2_4 ?_
    refine XS.ifYes X1.here hx rfl (pc0 := 5) (pc' := 27) rfl (hb hby d2_5) rfl ((if0 _ _).trans (feq (by decide : ¬ ((3 : Int32) = (0 : Int32)))).2) (by decide) (by decide) ?_
    refine st4 _ ?_
    refine XS.ifNo X4.here hx rfl (hb hby d2_30) rfl ((if0 _ _).trans (feq hc5).1) ?_
    refine qaN X4 hx hby d2_33 ?_
    refine qiN X4 hx hby d2_34 ?_
    refine qiN X4 hx hby d2_35 ?_
    refine st15 _ ?_
    show SG p e below T15 (mkF m 39 #[lR r0, lR r1, lV vI0, lV vI3, .val .null, lU] [(.ref b15_0)]) _
    refine XS.astore X15.here hx rfl (hb hby d2_39) rfl rfl (l' := #[lR r0, lR r1, lV vI0, lV vI3, .val .null, lR b15_0]) rfl ?_
    refine qaN X15 hx hby d2_41 ?_
    refine qa X15 hx hby d2_42 ?_
    refine qiN X15 hx hby d2_44 ?_
    refine st20 _ ?_
    refine st26 _ ?_
    refine qaN X26 hx hby d2_51 ?_
    refine qa X26 hx hby d2_52 ?_
    refine st30 _ ?_
    exact X30.returnOut hx hret (hb hby d2_57) hr
def Q1_7 (Z : State) (r0 r1 : Addr) (c2 : ClassId) (x3 x4 : Int32) (x5 x6 : Int32) (h0 : Heap) (n0 : Nat) (v : Option Value) (h : Heap) (L : List Loc) : Prop := ∃ (b18_0 : Addr) (k18_0 : ClassId), v = none ∧ Fr n0 L ∧ Keep h0 h [r0] ∧ Fld Z h r0 "java/lang/String" "coder" "B" vI1 ∧ Fld Z h r0 "java/lang/String" "value" "[B" (.ref b18_0) ∧ h0.size ≤ b18_0 ∧ Exa Z h b18_0 "[B" ∧ Arv Z h b18_0 k18_0 .byte (6 : Int32) [(.int (((x3 >>> ((0 : Int32) &&& 31)).toInt8.toInt32).toInt8.toInt32)), (.int (((x3 >>> ((8 : Int32) &&& 31)).toInt8.toInt32).toInt8.toInt32)), (.int (((x4 >>> ((0 : Int32) &&& 31)).toInt8.toInt32).toInt8.toInt32)), (.int (((x4 >>> ((8 : Int32) &&& 31)).toInt8.toInt32).toInt8.toInt32)), (.int (((x5 >>> ((0 : Int32) &&& 31)).toInt8.toInt32).toInt8.toInt32)), (.int (((x5 >>> ((8 : Int32) &&& 31)).toInt8.toInt32).toInt8.toInt32))] vI0
theorem rm1_7 (l : Launch) (Z : State) (a0 : Array Value) (hw : own_HW a0 Z) (ws : List Jvm.Cond) (r0 r1 : Addr) (c2 : ClassId) (x3 x4 : Int32) (x5 x6 : Int32) (h0 : Heap) (n0 : Nat) (O0 : Old Z n0 h0) (f1 : Arv Z h0 r1 c2 .char (3 : Int32) [(.int x3), (.int x4), (.int x5)] vI0) (f3 : Sta Z Z.heap "java/lang/String" "COMPACT_STRINGS" "Z" (.int x6)) (hc4 : ¬ (x6 = (0 : Int32))) (hc5 : ¬ ((255 : Int32) < x3)) (l6 : r1 < h0.size) (hc7 : ¬ ((255 : Int32) < x4)) (hc8 : (255 : Int32) < x5) (f9 : Sta Z Z.heap "java/lang/StringUTF16" "$assertionsDisabled" "Z" vI1) (f10 : Sta Z Z.heap "java/lang/StringUTF16" "HI_BYTE_SHIFT" "I" vI0) (f11 : Sta Z Z.heap "java/lang/StringUTF16" "LO_BYTE_SHIFT" "I" vI8) (hc12 : (255 : Int32) < (nar .char (((((((x5 >>> ((0 : Int32) &&& 31)).toInt8.toInt32).toInt8.toInt32) &&& (255 : Int32)) <<< ((0 : Int32) &&& 31)) ||| (((((x5 >>> ((8 : Int32) &&& 31)).toInt8.toInt32).toInt8.toInt32) &&& (255 : Int32)) <<< ((8 : Int32) &&& 31))).toUInt32.toUInt16.toUInt32.toInt32))) (f13 : Exa Z h0 r0 "java/lang/String") (f14 : Fld Z h0 r0 "java/lang/String" "coder" "B" vI0) (g15 : n0 ≤ r0) (f16 : Fld Z h0 r0 "java/lang/String" "value" "[B" .null) (l17 : r0 < h0.size) :
    own_MF l mN1 jdk_42_method_3_code 2 none ws rR5_2_9_74 Z h0 #[(.ref r0), (.ref r1)] (Q1_7 Z r0 r1 c2 x3 x4 x5 x6 h0 n0) := by
  refine own_open (plainFor_of_name pn_java_lang_String) (L0 := #[lR r0, lR r1]) (fun _ => by first | (simp [entryFrame, mkF, argsToLocals, Value.category]; done) | rfl) ?_
  intro p e s m below meth c s₁ hx hby hml hret hnn hZ hown X0 e0
  have N0 := Fr.nil n0; have w := @ww Z a0 hw
  obtain ⟨clq2, Arq2, qq2, Sq2, Nq2, Hq2, Gq2⟩ := id f1
  obtain ⟨_, T18, Lc18, X18, hQ18, st18⟩ := own_fin (X0.specialBack hx (y := mN0) rfl hown (mvT hZ (w 8 rfl)) (mvT hZ (w 9 rfl)) (mvT hZ (w 11 rfl)) (by decide) (backOf (W := 0) (rm2_7 l Z a0 hw [] r0 r1 x6 c2 x3 x4 x5 h0 n0 O0 f3 hc4 f1 hc5 l6 hc7 hc8 f9 f10 f11 hc12 f13 f14 g15 f16 l17) hZ (w 11 rfl) (w 4 rfl) (by decide) (by decide)) (g := (mkF m 6 #[lR r0, lR r1] [.null, vI3, vI0, (.ref r1), (.ref r0)])) rfl (by rw [hml]; rfl) (Steps.refl _) (a := r0) (argsL := [(.ref r1), vI0, vI3, .null]) (rest := []) (lenOf pd___CIILjava_lang_Void__V rfl) rfl (own_W rfl) (hb hby d1_6) (fun _ _ => ⟨rfl, e0, (by decide : 0 + 2 ≤ _), (by decide : 0 + 9 ≤ _)⟩))
  obtain ⟨b18_0, k18_0, rfl, N18q, K18, f19, f20, f21, f22, f23⟩ := hQ18
  have N18 := Fr.app N0 N18q
  have kp24 : Keep h0 T18.heap [r0] := (Keep.refl h0 [r0]).trans K18 (allS (Or.inl (List.mem_of_getElem? (i := 0) rfl)) all0)
  refine ⟨none, _, _, _, _, (fun _ => rfl), X18, by decide, by decide, ?_, fun fs hr => ?_⟩
  · exact ⟨b18_0, k18_0, rfl, N18, kp24, f19, f20, f21, f22, f23⟩
  · show SG p e below s₁ (mkF m 0 #[lR r0, lR r1] []) _
    refine qaN X0 hx hby d1_0 ?_
    refine qaN X0 hx hby d1_1 ?_
    refine qc X0 hx hby d1_2 ?_
    refine qaN X0 hx hby d1_3 ?_
    refine X0.arraylength hx (by rw [e0]; exact Arq2.1) (State.isArrayOf_alike hZ.alike Arq2.2.1) (g := (mkF m 4 #[lR r0, lR r1] [(.ref r1), vI0, (.ref r1), (.ref r0)])) rfl rfl (hb hby d1_4) _ ?_
    rw [len_of Sq2 Nq2]
    refine XS.aconstNull X0.here hx rfl (hb hby d1_5) ?_
    refine st18.trans ?_
    exact X18.returnOut hx hret (hb hby d1_9) hr
def Q0_9 (Z : State) (x0 x1 : Int32) (x2 x3 : Int32) (x4 x5 : Int32) (x6 x7 : Int32) (u8 : Value) (h0 : Heap) (n0 : Nat) (v : Option Value) (h : Heap) (L : List Loc) : Prop := v = some vI1 ∧ Fr n0 L
theorem rm0_9 (l : Launch) (Z : State) (a0 : Array Value) (hw : own_HW a0 Z) (ws : List Jvm.Cond) (x0 x1 : Int32) (x2 x3 : Int32) (x4 x5 : Int32) (x6 x7 : Int32) (u8 : Value) (h0 : Heap) (n0 : Nat) (O0 : Old Z n0 h0) (hc1 : (x0 &&& (3 : Int32)) = (3 : Int32)) (hq2 : ((x1 &&& (65535 : Int32)).toUInt32.toUInt16.toUInt32.toInt32) = x4) (hq3 : ((x2 &&& (65535 : Int32)).toUInt32.toUInt16.toUInt32.toInt32) = x5) (hq4 : ((x3 &&& (65535 : Int32)).toUInt32.toUInt16.toUInt32.toInt32) = x6) (f30 : Sta Z Z.heap "java/lang/String" "COMPACT_STRINGS" "Z" (.int x7)) (hc31 : ¬ (x7 = (0 : Int32))) (hc32 : ¬ ((255 : Int32) < (nar .char x4))) (hc37 : ¬ ((255 : Int32) < (nar .char x5))) (hc38 : (255 : Int32) < (nar .char x6)) (f39 : Sta Z Z.heap "java/lang/StringUTF16" "$assertionsDisabled" "Z" vI1) (f40 : Sta Z Z.heap "java/lang/StringUTF16" "HI_BYTE_SHIFT" "I" vI0) (f41 : Sta Z Z.heap "java/lang/StringUTF16" "LO_BYTE_SHIFT" "I" vI8) (hc42 : (255 : Int32) < (nar .char ((((((((nar .char x6) >>> ((0 : Int32) &&& 31)).toInt8.toInt32).toInt8.toInt32) &&& (255 : Int32)) <<< ((0 : Int32) &&& 31)) ||| ((((((nar .char x6) >>> ((8 : Int32) &&& 31)).toInt8.toInt32).toInt8.toInt32) &&& (255 : Int32)) <<< ((8 : Int32) &&& 31))).toUInt32.toUInt16.toUInt32.toInt32))) (f61 : Sta Z Z.heap cs7 "SIOOBE_FORMATTER" cs8 u8) (hc62 : u8.isRef = true) (hc85 : (nar .char (nar .char (nar .char ((((((((nar .char x4) >>> ((0 : Int32) &&& 31)).toInt8.toInt32).toInt8.toInt32) &&& (255 : Int32)) <<< ((0 : Int32) &&& 31)) ||| ((((((nar .char x4) >>> ((8 : Int32) &&& 31)).toInt8.toInt32).toInt8.toInt32) &&& (255 : Int32)) <<< ((8 : Int32) &&& 31))).toUInt32.toUInt16.toUInt32.toInt32)))) = x4) (hc87 : (nar .char (nar .char (nar .char ((((((((nar .char x5) >>> ((0 : Int32) &&& 31)).toInt8.toInt32).toInt8.toInt32) &&& (255 : Int32)) <<< ((0 : Int32) &&& 31)) ||| ((((((nar .char x5) >>> ((8 : Int32) &&& 31)).toInt8.toInt32).toInt8.toInt32) &&& (255 : Int32)) <<< ((8 : Int32) &&& 31))).toUInt32.toUInt16.toUInt32.toInt32)))) = x5) (hc89 : (nar .char (nar .char (nar .char ((((((((nar .char x6) >>> ((0 : Int32) &&& 31)).toInt8.toInt32).toInt8.toInt32) &&& (255 : Int32)) <<< ((0 : Int32) &&& 31)) ||| ((((((nar .char x6) >>> ((8 : Int32) &&& 31)).toInt8.toInt32).toInt8.toInt32) &&& (255 : Int32)) <<< ((8 : Int32) &&& 31))).toUInt32.toUInt16.toUInt32.toInt32)))) = x6) :
    own_MH l x code maxLocals ret ws room_1 Z h0 #[(.int x0), (.int x1), (.int x2), (.int x3)] (Q0_9 Z x0 x1 x2 x3 x4 x5 x6 x7 u8 h0 n0) := by
  have hEL : EW Z a0 consts_1 := own_EW hw
  refine own_openH hEL (plainFor_of_name pn_com_example_manojo_manojo_ParameterNamedPinLaw) (L0 := #[lI x0, lI x1, lI x2, lI x3, lU, lU, lU, lU, lU, lU, lU, lU]) (fun _ => by first | (simp [entryFrame, mkF, argsToLocals, Value.category, maxLocals]; done) | rfl) ?_
  intro p e s m below meth c s₁ hx hby hml hret hnn hZ hown X0 e0 R0
  have N0 := Fr.nil n0; have w := @ww Z a0 hw
  obtain ⟨T5, h5, k5, X5, e5, E5, A5, B5, st5⟩ := newPE X0 hx hZ (w 1 rfl) e0 (g := (mkF m 28 #[lI x0, lI x1, lI x2, lI x3, lV vI3, lI x4, lI x5, lI x6, lU, lU, lU, lU] [vI3])) rfl (hb hby at_28) rfl (by decide) (cap := 3) (by decide) (by decide) (by decide) (by decide) (ad := "[C") rfl
  obtain ⟨b5, g5⟩ : ∃ z, z = h0.size := ⟨_, rfl⟩
  have sf6 : Safe Z consts_1 s.vm h0 b5 := Safe.new (Nat.le_of_eq g5.symm)
  rw [← g5] at A5 B5 st5
  have R7 := CHr.trans R0 (CHr.ext E5 R0.1)
  have V5 : Arv Z h5 b5 k5 .char (3 : Int32) [vI0, vI0, vI0] vI0 := (Arv.new A5 (by decide)).pad (pad_rep [] vI0 3)
  obtain ⟨clq8, Arq8, qq8, Sq8, Nq8, Hq8, Gq8⟩ := id V5
  have zz9 : n0 ≤ h0.size := by rw [← O0.1]; exact O0.2.1
  have g10 := Nat.le_trans zz9 (Nat.le_of_eq g5.symm)
  obtain ⟨T11, h11, X11, e11, W11, st11⟩ := stC X5 hx hZ e5 Arq8 (j := (0 : Int32)) (inb_of Sq8 ⟨(by decide : ¬ ((0 : Int32) < (0 : Int32))), (by decide : (0 : Int32) < (3 : Int32))⟩) (g := (mkF m 42 #[lI x0, lI x1, lI x2, lI x3, lV vI3, lI x4, lI x5, lI x6, lR b5, lU, lU, lU] [(.int x4), vI0, (.ref b5)])) rfl rfl (hb hby at_42)
  have sf12 : Safe Z consts_1 s.vm h5 b5 := (Safe.exa hZ.alike B5 (by decide) (by decide))
  have R13 := CHr.trans R7 (CHr.wr W11 sf12 R7.1)
  have V11 : Arv Z h11 b5 k5 .char (3 : Int32) [(.int (nar .char x4)), vI0, vI0] vI0 := Arv.set Arq8 qq8 Sq8 Nq8 Hq8 Gq8 (fits_nar_char _) W11 0 rfl (Nat.le_of_ble_eq_true rfl)
  have N11 := Fr.snoc X11 N0 g10
  obtain ⟨clq14, Arq14, qq14, Sq14, Nq14, Hq14, Gq14⟩ := id V11
  obtain ⟨T15, h15, X15, e15, W15, st15⟩ := stC X11 hx hZ e11 Arq14 (j := (1 : Int32)) (inb_of Sq14 ⟨(by decide : ¬ ((1 : Int32) < (0 : Int32))), (by decide : (1 : Int32) < (3 : Int32))⟩) (g := (mkF m 54 #[lI x0, lI x1, lI x2, lI x3, lV vI3, lI x4, lI x5, lI x6, lR b5, lU, lU, lU] [(.int x5), vI1, (.ref b5)])) rfl rfl (hb hby at_54)
  have f16 := (B5.wr W11)
  have sf17 : Safe Z consts_1 s.vm h11 b5 := (Safe.exa hZ.alike f16 (by decide) (by decide))
  have R18 := CHr.trans R13 (CHr.wr W15 sf17 R13.1)
  have V15 : Arv Z h15 b5 k5 .char (3 : Int32) [(.int (nar .char x4)), (.int (nar .char x5)), vI0] vI0 := Arv.set Arq14 qq14 Sq14 Nq14 Hq14 Gq14 (fits_nar_char _) W15 1 rfl (Nat.le_of_ble_eq_true rfl)
  have N15 := Fr.snoc X15 N11 g10
  obtain ⟨clq19, Arq19, qq19, Sq19, Nq19, Hq19, Gq19⟩ := id V15
  obtain ⟨T20, h20, X20, e20, W20, st20⟩ := stC X15 hx hZ e15 Arq19 (j := (2 : Int32)) (inb_of Sq19 ⟨(by decide : ¬ ((2 : Int32) < (0 : Int32))), (by decide : (2 : Int32) < (3 : Int32))⟩) (g := (mkF m 66 #[lI x0, lI x1, lI x2, lI x3, lV vI3, lI x4, lI x5, lI x6, lR b5, lU, lU, lU] [(.int x6), vI2, (.ref b5)])) rfl rfl (hb hby at_66)
  have f21 := (f16.wr W15)
  have sf22 : Safe Z consts_1 s.vm h15 b5 := (Safe.exa hZ.alike f21 (by decide) (by decide))
  have R23 := CHr.trans R18 (CHr.wr W20 sf22 R18.1)
  have V20 : Arv Z h20 b5 k5 .char (3 : Int32) [(.int (nar .char x4)), (.int (nar .char x5)), (.int (nar .char x6))] vI0 := Arv.set Arq19 qq19 Sq19 Nq19 Hq19 Gq19 (fits_nar_char _) W20 2 rfl (Nat.le_of_ble_eq_true rfl)
  have N20 := Fr.snoc X20 N15 g10
  obtain ⟨T24, h24, X24, e24, E24, A24, D24, -, st24⟩ := newO X20 hx hZ hown (w 2 rfl) (w 3 rfl) (w 4 rfl) e20 (g := (mkF m 67 #[lI x0, lI x1, lI x2, lI x3, lV vI3, lI x4, lI x5, lI x6, lR b5, lU, lU, lU] [])) rfl (hb hby at_67) (by decide) (by decide)
  obtain ⟨b24, g24⟩ : ∃ z, z = h20.size := ⟨_, rfl⟩
  have sf25 : Safe Z consts_1 s.vm h20 b24 := Safe.new (Nat.le_of_eq g24.symm)
  rw [← g24] at A24 D24 st24
  have R26 := CHr.trans R23 (CHr.ext E24 R23.1)
  have f27 : Fld Z h24 b24 "java/lang/String" "value" "[B" .null := D24 (Or.inr (w 17 rfl)) (ty := (.array .byte)) (by decide)
  have f28 : Fld Z h24 b24 "java/lang/String" "coder" "B" vI0 := D24 (Or.inr (w 18 rfl)) (ty := .byte) (by decide)
  have f29 := (V20.ext E24)
  have zs33 := (Nat.le_of_eq W11.size.symm)
  have zs34 := Nat.le_trans zs33 (Nat.le_of_eq W15.size.symm)
  have zs35 := Nat.le_trans zs34 (Nat.le_of_eq W20.size.symm)
  have zs36 := Nat.le_trans zs35 E24.1
  have o44 := Old.ext O0 E5
  have o45 := Old.wr o44 W11 g10
  have o46 := Old.wr o45 W15 g10
  have o47 := Old.wr o46 W20 g10
  have zz43 : n0 ≤ h20.size := by rw [← o47.1]; exact o47.2.1
  have g48 := Nat.le_trans zz43 (Nat.le_of_eq g24.symm)
  have o49 := Old.ext o47 E24
  obtain ⟨_, T50, Lc50, X50, hQ50, st50⟩ := own_fin (X24.specialBack hx (y := mN1) rfl hown (mvT hZ (w 5 rfl)) (mvT hZ (w 6 rfl)) (mvT hZ (w 7 rfl)) (by decide) (backOf (W := 1) (rm1_7 l Z a0 hw [] b24 b5 k5 (nar .char x4) (nar .char x5) (nar .char x6) x7 h24 n0 o49 f29 f30 hc31 hc32 (Nat.lt_of_lt_of_le V5.lt zs36) hc37 hc38 f39 f40 f41 hc42 A24 f28 g48 f27 A24.lt) hZ (w 7 rfl) (w 4 rfl) (by decide) (by decide)) (g := (mkF m 73 #[lI x0, lI x1, lI x2, lI x3, lV vI3, lI x4, lI x5, lI x6, lR b5, lU, lU, lU] [(.ref b5), (.ref b24), (.ref b24)])) rfl (by rw [hml]; rfl) (Steps.refl _) (a := b24) (argsL := [(.ref b5)]) (rest := [(.ref b24)]) (lenOf pd___C_V rfl) rfl (own_W rfl) (hb hby at_73) (fun _ _ => ⟨rfl, e24, (by decide : 2 + 2 ≤ _), (by decide : 7 + 9 ≤ _)⟩))
  obtain ⟨b50_0, k50_0, rfl, N50q, K50, f51, f52, f53, f54, f55⟩ := hQ50
  have N50 := Fr.app N20 N50q
  have sf56 := (Safe.ext E24 R23.1 sf25)
  have R57 := CHr.trans R26 (CHr.keep K50 (sfS sf56 sf0) R26.1)
  have sf58 : Safe Z consts_1 s.vm h24 b50_0 := Safe.new f53
  have f59 := (A24.keep K50)
  have zs60 := K50.1
  have o63 := Old.keep o49 K50 (allS g48 all0)
  have hS64 := (State.WarmedH.refl s).since 0
  obtain ⟨_, _, ⟨T65, L65, k65, n65⟩, -, X65, hs65, hg65, ⟨Lc65, hQ65, l65, y65, z65, cr65⟩, st65⟩ := callSS X50 hx (y := mN25) hown (mvT hZ (w 23 rfl)) (mvT hZ (w 24 rfl)) (mvT hZ (w 25 rfl)) (mvT hZ (w 26 rfl)) (by decide) (backOfSH (s := s) (vm0 := s.vm) (W := 0) (rm4_6 l Z a0 hw [] b24 x7 b50_0 k50_0 ((((nar .char x4) >>> ((0 : Int32) &&& 31)).toInt8.toInt32).toInt8.toInt32) ((((nar .char x4) >>> ((8 : Int32) &&& 31)).toInt8.toInt32).toInt8.toInt32) ((((nar .char x5) >>> ((0 : Int32) &&& 31)).toInt8.toInt32).toInt8.toInt32) ((((nar .char x5) >>> ((8 : Int32) &&& 31)).toInt8.toInt32).toInt8.toInt32) ((((nar .char x6) >>> ((0 : Int32) &&& 31)).toInt8.toInt32).toInt8.toInt32) ((((nar .char x6) >>> ((8 : Int32) &&& 31)).toInt8.toInt32).toInt8.toInt32) u8 T50.heap n0 o63 f30 hc31 f59 f52 (Nat.lt_of_lt_of_le A24.lt zs60) f55 f54.lt f51 f61 hc62 f39 f40 f41) hZ (w 26 rfl) (w 25 rfl) (by decide) (by decide) hEL R57.1) (g := (mkF m 80 #[lI x0, lI x1, lI x2, lI x3, lV vI3, lI x4, lI x5, lI x6, lR b5, lR b24, lU, lU] [(.ref b24)])) rfl (by rw [hml]; rfl) (argsL := [(.ref b24)]) (rest := []) (lenOf pd__Ljava_lang_String__Lcom_example_manojo_manojo_QueryTree_Parameter_ rfl) rfl (own_W rfl) (hb hby at_80) (fun _ _ => ⟨rfl, rfl, (by decide : 4 + 8 ≤ _), (by decide : 16 + 81 ≤ _)⟩)
  dsimp only [Pt.U, Pt.locs, Pt.cells, Pt.slots] at X65 l65 y65 z65 st65 hQ65 hs65 hg65 cr65
  subst l65 y65 z65
  obtain ⟨X65, hS65, hZ65, ho65⟩ := rebS (s := s) (vm0 := s.vm) hS64 ((Nat.zero_le _)) X65 hs65 hg65 hZ hown
  obtain ⟨b65_0, b65_1, b65_2, k65_0, rfl, N65q, K65, f66, f67, f68, f69, f70, f71, f72, f73, f74, f75, f76, f77, f78⟩ := hQ65
  have N65 := Fr.app N50 N65q
  have R79 := CHr.trans R57 cr65
  have o80 := Old.keep o63 K65 all0
  obtain ⟨_, T81, Lc81, X81, hQ81, st81⟩ := own_cV X65 hx hZ65 ho65 rfl (rm28_1 l Z a0 hw [] b65_0 b65_1 T65.heap n0 o80 f68) f67 (w 152 rfl) (w 153 rfl) (w 155 rfl) (w 154 rfl) (w 156 rfl) (w 25 rfl) (by decide) (W := 0) (by decide) (by decide) (by decide) (by decide) (g := (mkF m 87 #[lI x0, lI x1, lI x2, lI x3, lV vI3, lI x4, lI x5, lI x6, lR b5, lR b24, lR b65_0, lU] [(.ref b65_0)])) rfl (by rw [hml]; rfl) (argsL := []) (rest := []) (lenOf pd___Ljava_lang_String_ rfl) rfl (own_W rfl) (hb hby at_87)
  obtain ⟨rfl, N81q, E81⟩ := hQ81
  have N81 := Fr.app N65 N81q
  obtain ⟨_, T82, Lc82, X82, hQ82, st82⟩ := own_cV X81 hx hZ65 ho65 E81 (rm9_1 l Z a0 hw [] b65_1 b65_2 (8 : Int32) k65_0 ([vI58, vI0, (.int ((((nar .char x4) >>> ((0 : Int32) &&& 31)).toInt8.toInt32).toInt8.toInt32)), (.int ((((nar .char x4) >>> ((8 : Int32) &&& 31)).toInt8.toInt32).toInt8.toInt32)), (.int ((((nar .char x5) >>> ((0 : Int32) &&& 31)).toInt8.toInt32).toInt8.toInt32)), (.int ((((nar .char x5) >>> ((8 : Int32) &&& 31)).toInt8.toInt32).toInt8.toInt32)), (.int ((((nar .char x6) >>> ((0 : Int32) &&& 31)).toInt8.toInt32).toInt8.toInt32)), (.int ((((nar .char x6) >>> ((8 : Int32) &&& 31)).toInt8.toInt32).toInt8.toInt32))]) x7 (1 : Int32) T65.heap n0 o80 f72 f74 f70 f30 hc31 f71) f70 (w 157 rfl) (w 59 rfl) (w 61 rfl) (w 60 rfl) (w 62 rfl) (w 4 rfl) (by decide) (W := 0) (by decide) (by decide) (by decide) (by decide) (g := (mkF m 99 #[lI x0, lI x1, lI x2, lI x3, lV vI3, lI x4, lI x5, lI x6, lR b5, lR b24, lR b65_0, lR b65_1] [(.ref b65_1)])) rfl (by rw [hml]; rfl) (argsL := []) (rest := []) (lenOf pd___I rfl) rfl (own_W rfl) (hb hby at_99)
  obtain ⟨rfl, N82q, E82⟩ := hQ82
  have N82 := Fr.app N81 N82q
  obtain ⟨_, T83, Lc83, X83, hQ83, st83⟩ := own_cV X82 hx hZ65 ho65 E82 (rm29_2 l Z a0 hw [] b65_1 (0 : Int32) x7 (1 : Int32) b65_2 (8 : Int32) k65_0 ([vI58, vI0, (.int ((((nar .char x4) >>> ((0 : Int32) &&& 31)).toInt8.toInt32).toInt8.toInt32)), (.int ((((nar .char x4) >>> ((8 : Int32) &&& 31)).toInt8.toInt32).toInt8.toInt32)), (.int ((((nar .char x5) >>> ((0 : Int32) &&& 31)).toInt8.toInt32).toInt8.toInt32)), (.int ((((nar .char x5) >>> ((8 : Int32) &&& 31)).toInt8.toInt32).toInt8.toInt32)), (.int ((((nar .char x6) >>> ((0 : Int32) &&& 31)).toInt8.toInt32).toInt8.toInt32)), (.int ((((nar .char x6) >>> ((8 : Int32) &&& 31)).toInt8.toInt32).toInt8.toInt32))]) u8 (58 : Int32) (0 : Int32) T65.heap n0 o80 f70 f30 hc31 f71 (by decide) f72 f74 f61 hc62 (by decide) (by decide) f39 (own_gd (n := 0) rfl rfl) (by decide) (by decide) f40 (own_gd (n := 1) rfl rfl) (by decide) (by decide) f41) f70 (w 158 rfl) (w 159 rfl) (w 161 rfl) (w 160 rfl) (w 162 rfl) (w 4 rfl) (by decide) (W := 0) (by decide) (by decide) (by decide) (by decide) (g := (mkF m 114 #[lI x0, lI x1, lI x2, lI x3, lV vI3, lI x4, lI x5, lI x6, lR b5, lR b24, lR b65_0, lR b65_1] [vI0, (.ref b65_1)])) rfl (by rw [hml]; rfl) (argsL := [vI0]) (rest := []) (lenOf pd__I_C rfl) rfl (own_W rfl) (hb hby at_114)
  obtain ⟨rfl, N83q, E83⟩ := hQ83
  have N83 := Fr.app N82 N83q
  obtain ⟨_, T84, Lc84, X84, hQ84, st84⟩ := own_cV X83 hx hZ65 ho65 E83 (rm29_2 l Z a0 hw [] b65_1 (1 : Int32) x7 (1 : Int32) b65_2 (8 : Int32) k65_0 ([vI58, vI0, (.int ((((nar .char x4) >>> ((0 : Int32) &&& 31)).toInt8.toInt32).toInt8.toInt32)), (.int ((((nar .char x4) >>> ((8 : Int32) &&& 31)).toInt8.toInt32).toInt8.toInt32)), (.int ((((nar .char x5) >>> ((0 : Int32) &&& 31)).toInt8.toInt32).toInt8.toInt32)), (.int ((((nar .char x5) >>> ((8 : Int32) &&& 31)).toInt8.toInt32).toInt8.toInt32)), (.int ((((nar .char x6) >>> ((0 : Int32) &&& 31)).toInt8.toInt32).toInt8.toInt32)), (.int ((((nar .char x6) >>> ((8 : Int32) &&& 31)).toInt8.toInt32).toInt8.toInt32))]) u8 ((((nar .char x4) >>> ((0 : Int32) &&& 31)).toInt8.toInt32).toInt8.toInt32) ((((nar .char x4) >>> ((8 : Int32) &&& 31)).toInt8.toInt32).toInt8.toInt32) T65.heap n0 o80 f70 f30 hc31 f71 (by decide) f72 f74 f61 hc62 (by decide) (by decide) f39 (own_gd (n := 2) rfl rfl) (by decide) (by decide) f40 (own_gd (n := 3) rfl rfl) (by decide) (by decide) f41) f70 (w 158 rfl) (w 159 rfl) (w 161 rfl) (w 160 rfl) (w 162 rfl) (w 4 rfl) (by decide) (W := 0) (by decide) (by decide) (by decide) (by decide) (g := (mkF m 132 #[lI x0, lI x1, lI x2, lI x3, lV vI3, lI x4, lI x5, lI x6, lR b5, lR b24, lR b65_0, lR b65_1] [vI1, (.ref b65_1)])) rfl (by rw [hml]; rfl) (argsL := [vI1]) (rest := []) (lenOf pd__I_C rfl) rfl (own_W rfl) (hb hby at_132)
  obtain ⟨rfl, N84q, E84⟩ := hQ84
  have N84 := Fr.app N83 N84q
  obtain ⟨_, T86, Lc86, X86, hQ86, st86⟩ := own_cV X84 hx hZ65 ho65 E84 (rm29_2 l Z a0 hw [] b65_1 (2 : Int32) x7 (1 : Int32) b65_2 (8 : Int32) k65_0 ([vI58, vI0, (.int ((((nar .char x4) >>> ((0 : Int32) &&& 31)).toInt8.toInt32).toInt8.toInt32)), (.int ((((nar .char x4) >>> ((8 : Int32) &&& 31)).toInt8.toInt32).toInt8.toInt32)), (.int ((((nar .char x5) >>> ((0 : Int32) &&& 31)).toInt8.toInt32).toInt8.toInt32)), (.int ((((nar .char x5) >>> ((8 : Int32) &&& 31)).toInt8.toInt32).toInt8.toInt32)), (.int ((((nar .char x6) >>> ((0 : Int32) &&& 31)).toInt8.toInt32).toInt8.toInt32)), (.int ((((nar .char x6) >>> ((8 : Int32) &&& 31)).toInt8.toInt32).toInt8.toInt32))]) u8 ((((nar .char x5) >>> ((0 : Int32) &&& 31)).toInt8.toInt32).toInt8.toInt32) ((((nar .char x5) >>> ((8 : Int32) &&& 31)).toInt8.toInt32).toInt8.toInt32) T65.heap n0 o80 f70 f30 hc31 f71 (by decide) f72 f74 f61 hc62 (by decide) (by decide) f39 (own_gd (n := 4) rfl rfl) (by decide) (by decide) f40 (own_gd (n := 5) rfl rfl) (by decide) (by decide) f41) f70 (w 158 rfl) (w 159 rfl) (w 161 rfl) (w 160 rfl) (w 162 rfl) (w 4 rfl) (by decide) (W := 0) (by decide) (by decide) (by decide) (by decide) (g := (mkF m 151 #[lI x0, lI x1, lI x2, lI x3, lV vI3, lI x4, lI x5, lI x6, lR b5, lR b24, lR b65_0, lR b65_1] [vI2, (.ref b65_1)])) rfl (by rw [hml]; rfl) (argsL := [vI2]) (rest := []) (lenOf pd__I_C rfl) rfl (own_W rfl) (hb hby at_151)
  obtain ⟨rfl, N86q, E86⟩ := hQ86
  have N86 := Fr.app N84 N86q
  obtain ⟨_, T88, Lc88, X88, hQ88, st88⟩ := own_cV X86 hx hZ65 ho65 E86 (rm29_2 l Z a0 hw [] b65_1 (3 : Int32) x7 (1 : Int32) b65_2 (8 : Int32) k65_0 ([vI58, vI0, (.int ((((nar .char x4) >>> ((0 : Int32) &&& 31)).toInt8.toInt32).toInt8.toInt32)), (.int ((((nar .char x4) >>> ((8 : Int32) &&& 31)).toInt8.toInt32).toInt8.toInt32)), (.int ((((nar .char x5) >>> ((0 : Int32) &&& 31)).toInt8.toInt32).toInt8.toInt32)), (.int ((((nar .char x5) >>> ((8 : Int32) &&& 31)).toInt8.toInt32).toInt8.toInt32)), (.int ((((nar .char x6) >>> ((0 : Int32) &&& 31)).toInt8.toInt32).toInt8.toInt32)), (.int ((((nar .char x6) >>> ((8 : Int32) &&& 31)).toInt8.toInt32).toInt8.toInt32))]) u8 ((((nar .char x6) >>> ((0 : Int32) &&& 31)).toInt8.toInt32).toInt8.toInt32) ((((nar .char x6) >>> ((8 : Int32) &&& 31)).toInt8.toInt32).toInt8.toInt32) T65.heap n0 o80 f70 f30 hc31 f71 (by decide) f72 f74 f61 hc62 (by decide) (by decide) f39 (own_gd (n := 6) rfl rfl) (by decide) (by decide) f40 (own_gd (n := 7) rfl rfl) (by decide) (by decide) f41) f70 (w 158 rfl) (w 159 rfl) (w 161 rfl) (w 160 rfl) (w 162 rfl) (w 4 rfl) (by decide) (W := 0) (by decide) (by decide) (by decide) (by decide) (g := (mkF m 170 #[lI x0, lI x1, lI x2, lI x3, lV vI3, lI x4, lI x5, lI x6, lR b5, lR b24, lR b65_0, lR b65_1] [vI3, (.ref b65_1)])) rfl (by rw [hml]; rfl) (argsL := [vI3]) (rest := []) (lenOf pd__I_C rfl) rfl (own_W rfl) (hb hby at_170)
  obtain ⟨rfl, N88q, E88⟩ := hQ88
  have N88 := Fr.app N86 N88q
  refine ⟨some vI1, _, _, _, _, _, _, _, nofun, X88, by decide, by decide, hS65, (by rw [E88]; exact (Nat.le_refl _)), hZ65, E88, R79, ?_, fun fs hr => ?_⟩
  · rw [E88]; exact ⟨rfl, N88⟩
  · show SG p e below s₁ (mkF m 0 #[lI x0, lI x1, lI x2, lI x3, lU, lU, lU, lU, lU, lU, lU, lU] []) _
    refine qiN X0 hx hby at_0 ?_
    refine qc X0 hx hby at_1 ?_
    refine XS.iand X0.here hx rfl (hb hby at_2) rfl ?_
    show SG p e below s₁ (mkF m 3 #[lI x0, lI x1, lI x2, lI x3, lU, lU, lU, lU, lU, lU, lU, lU] [(.int (x0 &&& (3 : Int32)))]) _
    rw [hc1]
    refine XS.istore X0.here hx rfl (hb hby at_3) rfl (l' := #[lI x0, lI x1, lI x2, lI x3, lV vI3, lU, lU, lU, lU, lU, lU, lU]) rfl ?_
    refine qiN X0 hx hby at_5 ?_
    refine X0.ldcInt hx hown (mvT hZ (w 0 rfl)) (g := (mkF m 6 #[lI x0, lI x1, lI x2, lI x3, lV vI3, lU, lU, lU, lU, lU, lU, lU] [(.int x1)])) rfl (hb hby at_6) _ ?_
    refine XS.iand X0.here hx rfl (hb hby at_8) rfl ?_
    refine XS.i2c X0.here hx rfl (hb hby at_9) rfl ?_
    show SG p e below s₁ (mkF m 10 #[lI x0, lI x1, lI x2, lI x3, lV vI3, lU, lU, lU, lU, lU, lU, lU] [(.int ((x1 &&& (65535 : Int32)).toUInt32.toUInt16.toUInt32.toInt32))]) _
    rw [hq2]
    refine XS.istore X0.here hx rfl (hb hby at_10) rfl (l' := #[lI x0, lI x1, lI x2, lI x3, lV vI3, lI x4, lU, lU, lU, lU, lU, lU]) rfl ?_
    refine qiN X0 hx hby at_12 ?_
    show SG p e below s₁ (mkF m 13 #[lI x0, lI x1, lI x2, lI x3, lV vI3, lI x4, lU, lU, lU, lU, lU, lU] [(.int x2)]) _
    refine X0.ldcInt hx hown (mvT hZ (w 0 rfl)) (g := (mkF m 13 #[lI x0, lI x1, lI x2, lI x3, lV vI3, lI x4, lU, lU, lU, lU, lU, lU] [(.int x2)])) rfl (hb hby at_13) _ ?_
    refine XS.iand X0.here hx rfl (hb hby at_15) rfl ?_
    refine XS.i2c X0.here hx rfl (hb hby at_16) rfl ?_
    show SG p e below s₁ (mkF m 17 #[lI x0, lI x1, lI x2, lI x3, lV vI3, lI x4, lU, lU, lU, lU, lU, lU] [(.int ((x2 &&& (65535 : Int32)).toUInt32.toUInt16.toUInt32.toInt32))]) _
    rw [hq3]
    refine XS.istore X0.here hx rfl (hb hby at_17) rfl (l' := #[lI x0, lI x1, lI x2, lI x3, lV vI3, lI x4, lI x5, lU, lU, lU, lU, lU]) rfl ?_
    refine qiN X0 hx hby at_19 ?_
    refine X0.ldcInt hx hown (mvT hZ (w 0 rfl)) (g := (mkF m 20 #[lI x0, lI x1, lI x2, lI x3, lV vI3, lI x4, lI x5, lU, lU, lU, lU, lU] [(.int x3)])) rfl (hb hby at_20) _ ?_
    refine XS.iand X0.here hx rfl (hb hby at_22) rfl ?_
    refine XS.i2c X0.here hx rfl (hb hby at_23) rfl ?_
    show SG p e below s₁ (mkF m 24 #[lI x0, lI x1, lI x2, lI x3, lV vI3, lI x4, lI x5, lU, lU, lU, lU, lU] [(.int ((x3 &&& (65535 : Int32)).toUInt32.toUInt16.toUInt32.toInt32))]) _
    rw [hq4]
    refine XS.istore X0.here hx rfl (hb hby at_24) rfl (l' := #[lI x0, lI x1, lI x2, lI x3, lV vI3, lI x4, lI x5, lI x6, lU, lU, lU, lU]) rfl ?_
    refine qi X0 hx hby at_26 ?_
    show SG p e below s₁ (mkF m 28 #[lI x0, lI x1, lI x2, lI x3, lV vI3, lI x4, lI x5, lI x6, lU, lU, lU, lU] [vI3]) _
    refine st5 _ ?_
    refine XS.astore X5.here hx rfl (hb hby at_30) rfl rfl (l' := #[lI x0, lI x1, lI x2, lI x3, lV vI3, lI x4, lI x5, lI x6, lR b5, lU, lU, lU]) rfl ?_
    refine qi X5 hx hby at_32 ?_
    refine XS.ifNo X5.here hx rfl (hb hby at_34) rfl ((if0 _ _).trans (tlt (by decide : (0 : Int32) < (3 : Int32))).2.2.2) ?_
    refine qa X5 hx hby at_37 ?_
    refine qc X5 hx hby at_39 ?_
    refine qi X5 hx hby at_40 ?_
    refine st11 _ ?_
    refine qi X11 hx hby at_43 ?_
    refine qc X11 hx hby at_45 ?_
    show SG p e below T11 (mkF m 46 #[lI x0, lI x1, lI x2, lI x3, lV vI3, lI x4, lI x5, lI x6, lR b5, lU, lU, lU] [vI1, vI3]) _
    refine XS.icmpNo X11.here hx rfl (hb hby at_46) rfl (tlt (by decide : (1 : Int32) < (3 : Int32))).2.2.2 ?_
    refine qa X11 hx hby at_49 ?_
    refine qc X11 hx hby at_51 ?_
    refine qi X11 hx hby at_52 ?_
    refine st15 _ ?_
    refine qi X15 hx hby at_55 ?_
    refine qc X15 hx hby at_57 ?_
    refine XS.icmpNo X15.here hx rfl (hb hby at_58) rfl (tlt (by decide : (2 : Int32) < (3 : Int32))).2.2.2 ?_
    refine qa X15 hx hby at_61 ?_
    refine qc X15 hx hby at_63 ?_
    show SG p e below T15 (mkF m 64 #[lI x0, lI x1, lI x2, lI x3, lV vI3, lI x4, lI x5, lI x6, lR b5, lU, lU, lU] [vI2, (.ref b5)]) _
    refine qi X15 hx hby at_64 ?_
    refine st20 _ ?_
    refine st24 _ ?_
    refine qd X24 hx hby at_70 ?_
    refine qa X24 hx hby at_71 ?_
    refine st50.trans ?_
    refine XS.astore X50.here hx rfl (hb hby at_76) rfl rfl (l' := #[lI x0, lI x1, lI x2, lI x3, lV vI3, lI x4, lI x5, lI x6, lR b5, lR b24, lU, lU]) rfl ?_
    refine qa X50 hx hby at_78 ?_
    refine st65.trans ?_
    refine XS.astore X65.here hx rfl (hb hby at_83) rfl rfl (l' := #[lI x0, lI x1, lI x2, lI x3, lV vI3, lI x4, lI x5, lI x6, lR b5, lR b24, lR b65_0, lU]) rfl ?_
    show SG p e below T65 (mkF m 85 #[lI x0, lI x1, lI x2, lI x3, lV vI3, lI x4, lI x5, lI x6, lR b5, lR b24, lR b65_0, lU] []) _
    refine qa X65 hx hby at_85 ?_
    refine st81 _ ?_
    refine XS.astore X81.here hx rfl (hb hby at_90) rfl rfl (l' := #[lI x0, lI x1, lI x2, lI x3, lV vI3, lI x4, lI x5, lI x6, lR b5, lR b24, lR b65_0, lR b65_1]) rfl ?_
    refine qa X81 hx hby at_92 ?_
    refine XS.ifnullNo X81.here hx rfl (hb hby at_94) rfl ?_
    refine qa X81 hx hby at_97 ?_
    refine st82 _ ?_
    refine qi X82 hx hby at_102 ?_
    refine qc X82 hx hby at_104 ?_
    refine XS.iadd X82.here hx rfl (hb hby at_105) rfl ?_
    show SG p e below T82 (mkF m 106 #[lI x0, lI x1, lI x2, lI x3, lV vI3, lI x4, lI x5, lI x6, lR b5, lR b24, lR b65_0, lR b65_1] [vI4, vI4]) _
    refine XS.icmpYes X82.here hx rfl (pc0 := 106) (pc' := 111) rfl (hb hby at_106) rfl (teq (rfl : (4 : Int32) = (4 : Int32))).1 (by decide) (by decide) ?_
    refine qa X82 hx hby at_111 ?_
    refine qc X82 hx hby at_113 ?_
    refine st83 _ ?_
    refine qb X83 hx hby at_117 ?_
    refine XS.icmpYes X83.here hx rfl (pc0 := 119) (pc' := 124) rfl (hb hby at_119) rfl (teq (rfl : (58 : Int32) = (58 : Int32))).1 (by decide) (by decide) ?_
    refine qi X83 hx hby at_124 ?_
    refine XS.ifNo X83.here hx rfl (hb hby at_126) rfl ((if0 _ _).trans (tlt (by decide : (0 : Int32) < (3 : Int32))).2.2.2) ?_
    refine qa X83 hx hby at_129 ?_
    refine qc X83 hx hby at_131 ?_
    show SG p e below T83 (mkF m 132 #[lI x0, lI x1, lI x2, lI x3, lV vI3, lI x4, lI x5, lI x6, lR b5, lR b24, lR b65_0, lR b65_1] [vI1, (.ref b65_1)]) _
    refine st84 _ ?_
    refine qi X84 hx hby at_135 ?_
    refine XS.icmpYes X84.here hx rfl (pc0 := 137) (pc' := 142) rfl (hb hby at_137) rfl (teq hc85).1 (by decide) (by decide) ?_
    refine qi X84 hx hby at_142 ?_
    refine qc X84 hx hby at_144 ?_
    refine XS.icmpNo X84.here hx rfl (hb hby at_145) rfl (tlt (by decide : (1 : Int32) < (3 : Int32))).2.2.2 ?_
    refine qa X84 hx hby at_148 ?_
    refine qc X84 hx hby at_150 ?_
    refine st86 _ ?_
    refine qi X86 hx hby at_154 ?_
    show SG p e below T86 (mkF m 156 #[lI x0, lI x1, lI x2, lI x3, lV vI3, lI x4, lI x5, lI x6, lR b5, lR b24, lR b65_0, lR b65_1] [(.int x5), (.int (nar .char (nar .char (nar .char ((((((((nar .char x5) >>> ((0 : Int32) &&& 31)).toInt8.toInt32).toInt8.toInt32) &&& (255 : Int32)) <<< ((0 : Int32) &&& 31)) ||| ((((((nar .char x5) >>> ((8 : Int32) &&& 31)).toInt8.toInt32).toInt8.toInt32) &&& (255 : Int32)) <<< ((8 : Int32) &&& 31))).toUInt32.toUInt16.toUInt32.toInt32)))))]) _
    refine XS.icmpYes X86.here hx rfl (pc0 := 156) (pc' := 161) rfl (hb hby at_156) rfl (teq hc87).1 (by decide) (by decide) ?_
    refine qi X86 hx hby at_161 ?_
    refine qc X86 hx hby at_163 ?_
    refine XS.icmpNo X86.here hx rfl (hb hby at_164) rfl (tlt (by decide : (2 : Int32) < (3 : Int32))).2.2.2 ?_
    refine qa X86 hx hby at_167 ?_
    refine qc X86 hx hby at_169 ?_
    refine st88 _ ?_
    refine qi X88 hx hby at_173 ?_
    refine XS.icmpYes X88.here hx rfl (pc0 := 175) (pc' := 180) rfl (hb hby at_175) rfl (teq hc89).1 (by decide) (by decide) ?_
    refine qc X88 hx hby at_180 ?_
    show SG p e below T88 (mkF m 181 #[lI x0, lI x1, lI x2, lI x3, lV vI3, lI x4, lI x5, lI x6, lR b5, lR b24, lR b65_0, lR b65_1] [vI1]) _
    exact retN X88 hx (t := .boolean) hret (by simp) (hb hby at_181) hr
def Q4_7 (Z : State) (r0 : Addr) (x1 : Int32) (r2 : Addr) (c3 : ClassId) (x4 x5 x6 : Int32) (h0 : Heap) (n0 : Nat) (v : Option Value) (h : Heap) (L : List Loc) : Prop := ∃ (b1 b87_0 b87_1 : Addr) (k87_0 : ClassId), v = some (.ref b1) ∧ Fr n0 L ∧ Keep h0 h [] ∧ h0.size ≤ b1 ∧ Exa Z h b1 cs5 ∧ Fld Z h b1 cs5 "name" "Ljava/lang/String;" (.ref b87_0) ∧ h0.size ≤ b87_0 ∧ Exa Z h b87_0 "java/lang/String" ∧ Fld Z h b87_0 "java/lang/String" "coder" "B" vI0 ∧ Fld Z h b87_0 "java/lang/String" "value" "[B" (.ref b87_1) ∧ h0.size ≤ b87_1 ∧ Arv Z h b87_1 k87_0 .byte (4 : Int32) [vI58, (.int x4), (.int x5), (.int x6)] vI0 ∧ Exa Z h b87_1 "[B" ∧ b1 ≠ b87_0 ∧ b1 ≠ b87_1 ∧ b87_0 ≠ b87_1
theorem rm4_7 (l : Launch) (Z : State) (a0 : Array Value) (hw : own_HW a0 Z) (ws : List Jvm.Cond) (r0 : Addr) (x1 : Int32) (r2 : Addr) (c3 : ClassId) (x4 x5 x6 : Int32) (h0 : Heap) (n0 : Nat) (O0 : Old Z n0 h0) (f12 : Sta Z Z.heap "java/lang/String" "COMPACT_STRINGS" "Z" (.int x1)) (hc13 : ¬ (x1 = (0 : Int32))) (f55 : Exa Z h0 r0 "java/lang/String") (f57 : Fld Z h0 r0 "java/lang/String" "value" "[B" (.ref r2)) (l58 : r0 < h0.size) (f64 : Arv Z h0 r2 c3 .byte (3 : Int32) [(.int x4), (.int x5), (.int x6)] vI0) (l65 : r2 < h0.size) (f69 : Fld Z h0 r0 "java/lang/String" "coder" "B" vI0) :
    own_MH l mN25 prog_22_method_2_code 1 (some (.object cs5)) ws rR6_7_49_99 Z h0 #[(.ref r0)] (Q4_7 Z r0 x1 r2 c3 x4 x5 x6 h0 n0) := by
  have hEL : EW Z a0 consts_1 := own_EW hw
  refine own_openH hEL (plainFor_of_name pn_com_example_manojo_manojo_QueryTree_Parameter) (L0 := #[lR r0]) (fun _ => by first | (simp [entryFrame, mkF, argsToLocals, Value.category]; done) | rfl) ?_
  intro p e s m below meth c s₁ hx hby hml hret hnn hZ hown X0 e0 R0
  have N0 := Fr.nil n0; have w := @ww Z a0 hw
  obtain ⟨T1, h1, X1, e1, E1, A1, D1, -, st1⟩ := newO X0 hx hZ hown (w 27 rfl) (w 28 rfl) (w 25 rfl) e0 (g := (mkF m 0 #[lR r0] [])) rfl (hb hby d4_0) (by decide) (by decide)
  obtain ⟨b1, g1⟩ : ∃ z, z = h0.size := ⟨_, rfl⟩
  have sf2 : Safe Z consts_1 s.vm h0 b1 := Safe.new (Nat.le_of_eq g1.symm)
  rw [← g1] at A1 D1 st1
  have R3 := CHr.trans R0 (CHr.ext E1 R0.1)
  have f4 : Fld Z h1 b1 cs5 "name" "Ljava/lang/String;" .null := D1 (Or.inr (w 151 rfl)) (ty := (.object "java/lang/String")) (by decide)
  obtain ⟨T5, h5, X5, e5, E5, A5, D5, -, st5⟩ := newO X1 hx hZ hown (w 29 rfl) (w 30 rfl) (w 31 rfl) e1 (g := (mkF m 4 #[lR r0] [(.ref b1), (.ref b1)])) rfl (hb hby d4_4) (by decide) (by decide)
  obtain ⟨b5, g5⟩ : ∃ z, z = h1.size := ⟨_, rfl⟩
  have sf6 : Safe Z consts_1 s.vm h1 b5 := Safe.new (Nat.le_of_eq g5.symm)
  rw [← g5] at A5 D5 st5
  have R7 := CHr.trans R3 (CHr.ext E5 R3.1)
  have f8 : Fld Z h5 b5 cs0 "value" "[B" .null := D5 (Or.inl (w 44 rfl)) (ty := (.array .byte)) (by decide)
  have f9 : Fld Z h5 b5 cs0 "coder" "B" vI0 := D5 (Or.inl (w 46 rfl)) (ty := .byte) (by decide)
  have f10 : Fld Z h5 b5 cs0 "count" "I" vI0 := D5 (Or.inl (w 70 rfl)) (ty := .int) (by decide)
  have f11 : Fld Z h5 b5 cs0 "maybeLatin1" "Z" vI0 := D5 (Or.inl (w 235 rfl)) (ty := .boolean) (by decide)
  have o15 := Old.ext O0 E1
  have zz14 : n0 ≤ h1.size := by rw [← o15.1]; exact o15.2.1
  have g16 := Nat.le_trans zz14 (Nat.le_of_eq g5.symm)
  have o17 := Old.ext o15 E5
  obtain ⟨_, T18, Lc18, X18, hQ18, st18⟩ := own_fin (X5.specialBack hx (y := mN3) rfl hown (mvT hZ (w 32 rfl)) (mvT hZ (w 33 rfl)) (mvT hZ (w 34 rfl)) (by decide) (backOf (W := 3) (rm5_1 l Z a0 hw [] b5 x1 h5 n0 o17 f12 hc13 A5 f8 g16 f9 f10 f11 A5.lt) hZ (w 34 rfl) (w 31 rfl) (by decide) (by decide)) (g := (mkF m 8 #[lR r0] [(.ref b5), (.ref b5), (.ref b1), (.ref b1)])) rfl (by rw [hml]; rfl) (Steps.refl _) (a := b5) (argsL := []) (rest := [(.ref b5), (.ref b1), (.ref b1)]) (lenOf pd___V rfl) rfl (own_W rfl) (hb hby d4_8) (fun _ _ => ⟨rfl, e5, (by decide : 2 + 1 ≤ _), (by decide : 5 + 16 ≤ _)⟩))
  obtain ⟨b18_0, k18_0, rfl, N18q, K18, f19, f20, f21, f22, f23, f24, f25⟩ := hQ18
  have N18 := Fr.app N0 N18q
  have R26 := CHr.trans R7 (CHr.keep K18 (sfS (Safe.exa hZ.alike A5 (by decide) (by decide)) sf0) R7.1)
  have sf27 : Safe Z consts_1 s.vm h5 b18_0 := Safe.new f23
  have hS28 := (State.WarmedH.refl s).since 0
  have hstr : ∀ a ∈ Bundle.stringAtoms, a.before a0 Z = true := fun a q => hw a (own_str a q)
  obtain ⟨a29, T29, h29, kk29, b29, k29, X29, e29, E29, hS29, hk29, hZ29, ho29, EE29, C29, F29, V29, l29, m29, CR29, -, ne29, st29⟩ := ldcCH (s := s) (vm0 := s.vm) X18 hx hZ hown (w 47 rfl) hstr rfl hS28 (Nat.zero_le _) hEL (by simp [consts_1]) R26.1 (vs := [vI58]) (z := (1 : Int32)) ⟨by decide, by decide⟩ (by decide) rfl (g := (mkF m 11 #[lR r0] [(.ref b5), (.ref b1), (.ref b1)])) rfl (hb hby d4_11) (n := 4) (by decide) (by decide) (by decide) (by decide)
  have R30 := CHr.trans R26 CR29
  have f31 := (((A1.ext E5).keep K18).ext E29)
  have nl32 := ne29 _ (Safe.exa hZ29.alike f31 (by decide) (by decide))
  have f33 := ((A5.keep K18).ext E29)
  have nl34 := ne29 _ (Safe.exa hZ29.alike f33 (by decide) (by decide))
  have sf35 := (CHr.safe CR29 f24.lt (Safe.keep K18 (sfS (Safe.exa hZ.alike A5 (by decide) (by decide)) sf0) R7.1 sf27))
  have nl36 := ne29 _ sf35
  have f37 := (f21.ext E29)
  have f38 := (f19.ext E29)
  have f39 := (f24.ext E29)
  have f40 := (f20.ext E29)
  have zz41 : n0 ≤ h5.size := by rw [← o17.1]; exact o17.2.1
  have g42 := Nat.le_trans zz41 f23
  have n43 := Nat.ne_of_lt (Nat.lt_of_lt_of_le A5.lt f23)
  have f44 := (f22.ext E29)
  have o45 := Old.keep o17 K18 (allS g16 all0)
  have o46 := Old.ext o45 E29
  obtain ⟨_, T47, Lc47, X47, hQ47, st47⟩ := own_cV X29 hx hZ29 ho29 e29 (rm7_1 l Z a0 hw [] b5 a29 b29 (1 : Int32) k29 ([vI58]) x1 (0 : Int32) (0 : Int32) b18_0 (16 : Int32) k18_0 ([vI0, vI0, vI0, vI0, vI0, vI0, vI0, vI0, vI0, vI0, vI0, vI0, vI0, vI0, vI0, vI0]) (0 : Int32) (0 : Int32) h29 n0 o46 EE29 F29 V29 f12 hc13 C29 f37 f33 f38 f39 f40 (by decide) (by decide) (by decide) (by decide) (by decide) (by decide) (by decide) (by decide) g42 n43 g16 f44) f33 (w 48 rfl) (w 49 rfl) (w 51 rfl) (w 50 rfl) (w 52 rfl) (w 31 rfl) (by decide) (W := 2) (by decide) (by decide) (by decide) (by decide) (g := (mkF m 13 #[lR r0] [(.ref a29), (.ref b5), (.ref b1), (.ref b1)])) rfl (by rw [hml]; rfl) (argsL := [(.ref a29)]) (rest := [(.ref b1), (.ref b1)]) (lenOf pd__Ljava_lang_String__Ljava_lang_StringBuilder_ rfl) rfl (own_W rfl) (hb hby d4_13)
  obtain ⟨rfl, N47q, K47, f48, f49, f50, f51, f52⟩ := hQ47
  have N47 := Fr.app N18 N47q
  have R53 := CHr.trans R30 (CHr.keep K47 (sfS sf35 (sfS (Safe.exa hZ29.alike f33 (by decide) (by decide)) sf0)) R30.1)
  have f54 : Arv Z T47.heap b18_0 k18_0 .byte (16 : Int32) [vI58, vI0, vI0, vI0, vI0, vI0, vI0, vI0, vI0, vI0, vI0, vI0, vI0, vI0, vI0, vI0] vI0 := own_cpx (by decide : (((0 : Int32) <<< ((0 : Int32) &&& 31))).toNatClampNeg = 0) (by decide : (((0 : Int32) <<< ((0 : Int32) &&& 31))).toNatClampNeg + ((1 : Int32)).toNatClampNeg = 1) f48
  have f56 := (((((f55.ext E1).ext E5).keep K18).ext E29).keep K47)
  have zs59 := E1.1
  have n60 := Nat.ne_of_lt (Nat.lt_of_lt_of_le (Nat.lt_of_lt_of_le l58 zs59) (Nat.le_of_eq g5.symm))
  have zs61 := Nat.le_trans zs59 E5.1
  have n62 := Nat.ne_of_lt (Nat.lt_of_lt_of_le (Nat.lt_of_lt_of_le l58 zs61) f23)
  have f63 := (((((f57.ext E1).ext E5).keep K18 (ninS n60 nin0)).ext E29).keep K47 (ninS n62 (ninS n60 nin0)))
  have n66 := Nat.ne_of_lt (Nat.lt_of_lt_of_le (Nat.lt_of_lt_of_le l65 zs59) (Nat.le_of_eq g5.symm))
  have n67 := Nat.ne_of_lt (Nat.lt_of_lt_of_le (Nat.lt_of_lt_of_le l65 zs61) f23)
  have f68 := (((((f64.ext E1).ext E5).keep K18 (ninS n66 nin0)).ext E29).keep K47 (ninS n67 (ninS n66 nin0)))
  have f70 := (((((f69.ext E1).ext E5).keep K18 (ninS n60 nin0)).ext E29).keep K47 (ninS n62 (ninS n60 nin0)))
  have f71 := (f33.keep K47)
  have o72 := Old.keep o46 K47 (allS g42 (allS g16 all0))
  obtain ⟨_, T73, Lc73, X73, hQ73, st73⟩ := own_cV X47 hx hZ29 ho29 rfl (rm7_1 l Z a0 hw [] b5 r0 r2 (3 : Int32) c3 ([(.int x4), (.int x5), (.int x6)]) x1 (0 : Int32) (1 : Int32) b18_0 (16 : Int32) k18_0 ([vI58, vI0, vI0, vI0, vI0, vI0, vI0, vI0, vI0, vI0, vI0, vI0, vI0, vI0, vI0, vI0]) (0 : Int32) (0 : Int32) T47.heap n0 o72 f56 f63 f68 f12 hc13 f70 f49 f71 f50 f54 f51 (by decide) (by decide) (by decide) (own_lenK (n := 3) rfl (by decide) : [(.int x4), (.int x5), (.int x6)].length = ((3 : Int32)).toNatClampNeg) (by decide) (by decide) (by decide) (by decide) g42 n43 g16 f52) f71 (w 48 rfl) (w 49 rfl) (w 51 rfl) (w 50 rfl) (w 52 rfl) (w 31 rfl) (by decide) (W := 2) (by decide) (by decide) (by decide) (by decide) (g := (mkF m 17 #[lR r0] [(.ref r0), (.ref b5), (.ref b1), (.ref b1)])) rfl (by rw [hml]; rfl) (argsL := [(.ref r0)]) (rest := [(.ref b1), (.ref b1)]) (lenOf pd__Ljava_lang_String__Ljava_lang_StringBuilder_ rfl) rfl (own_W rfl) (hb hby d4_17)
  obtain ⟨rfl, N73q, K73, f74, f75, f76, f77, f78⟩ := hQ73
  have N73 := Fr.app N47 N73q
  have sf79 := (Safe.keep K47 (sfS sf35 (sfS (Safe.exa hZ29.alike f33 (by decide) (by decide)) sf0)) R30.1 sf35)
  have R80 := CHr.trans R53 (CHr.keep K73 (sfS sf79 (sfS (Safe.exa hZ29.alike f71 (by decide) (by decide)) sf0)) R53.1)
  have f81 : Arv Z T73.heap b18_0 k18_0 .byte (16 : Int32) [vI58, (.int x4), (.int x5), (.int x6), vI0, vI0, vI0, vI0, vI0, vI0, vI0, vI0, vI0, vI0, vI0, vI0] vI0 := own_cpx (by decide : (((1 : Int32) <<< ((0 : Int32) &&& 31))).toNatClampNeg = 1) (by decide : (((1 : Int32) <<< ((0 : Int32) &&& 31))).toNatClampNeg + ((3 : Int32)).toNatClampNeg = 4) f74
  have f82 := (f71.keep K73)
  have zs83 := E29.1
  have zs84 := Nat.le_trans zs83 K47.1
  have zs85 := Nat.le_trans zs84 K73.1
  have o86 := Old.keep o72 K73 (allS g42 (allS g16 all0))
  obtain ⟨_, T87, Lc87, X87, hQ87, st87⟩ := own_cV X73 hx hZ29 ho29 rfl (rm15_1 l Z a0 hw [] b5 b18_0 (4 : Int32) x1 (0 : Int32) (16 : Int32) k18_0 ([vI58, (.int x4), (.int x5), (.int x6), vI0, vI0, vI0, vI0, vI0, vI0, vI0, vI0, vI0, vI0, vI0, vI0]) T73.heap n0 o86 f82 f76 f75 f12 hc13 f77 (by decide) f81 (Nat.lt_of_lt_of_le f24.lt zs85) (by decide) (by decide) (by decide) (by decide) (by decide) (by decide)) f82 (w 96 rfl) (w 97 rfl) (w 99 rfl) (w 98 rfl) (w 100 rfl) (w 31 rfl) (by decide) (W := 2) (by decide) (by decide) (by decide) (by decide) (g := (mkF m 20 #[lR r0] [(.ref b5), (.ref b1), (.ref b1)])) rfl (by rw [hml]; rfl) (argsL := []) (rest := [(.ref b1), (.ref b1)]) (lenOf pd___Ljava_lang_String_ rfl) rfl (own_W rfl) (hb hby d4_20)
  obtain ⟨b87_0, b87_1, k87_0, rfl, N87q, K87, f88, f89, f90, f91, f92, f93, f94, f95⟩ := hQ87
  have N87 := Fr.app N73 N87q
  have R96 := CHr.trans R80 (CHr.keep K87 sf0 R80.1)
  have sf97 : Safe Z consts_1 T29.vm T73.heap b87_0 := Safe.new f88
  have sf98 : Safe Z consts_1 T29.vm T73.heap b87_1 := Safe.new f92
  have f99 : Arv Z T87.heap b87_1 k87_0 .byte (4 : Int32) [vI58, (.int x4), (.int x5), (.int x6)] vI0 := own_trunc (ws := [vI58, (.int x4), (.int x5), (.int x6)]) (rest := [vI0, vI0, vI0, vI0, vI0, vI0, vI0, vI0, vI0, vI0, vI0, vI0]) (own_lenK (n := 4) rfl (by decide)) f93
  have f100 := (((f31.keep K47).keep K73).keep K87)
  have n101 := Nat.ne_of_lt (Nat.lt_of_lt_of_le A1.lt (Nat.le_of_eq g5.symm))
  have zs102 := E5.1
  have n103 := Nat.ne_of_lt (Nat.lt_of_lt_of_le (Nat.lt_of_lt_of_le A1.lt zs102) f23)
  have f104 := ((((((f4.ext E5).keep K18 (ninS n101 nin0)).ext E29).keep K47 (ninS n103 (ninS n101 nin0))).keep K73 (ninS n103 (ninS n101 nin0))).keep K87 nin0)
  have zz105 : n0 ≤ h0.size := by rw [← O0.1]; exact O0.2.1
  have g106 := Nat.le_trans zz105 (Nat.le_of_eq g1.symm)
  have o107 := Old.keep o86 K87 all0
  obtain ⟨_, T108, Lc108, X108, hQ108, st108⟩ := own_fin (X87.specialBack hx (y := mN24) rfl ho29 (mvT hZ29 (w 141 rfl)) (mvT hZ29 (w 142 rfl)) (mvT hZ29 (w 143 rfl)) (by decide) (backOf (W := 1) (rm26_1 l Z a0 hw [] b1 b87_0 T87.heap n0 o107 f100 f104 g106) hZ29 (w 143 rfl) (w 25 rfl) (by decide) (by decide)) (g := (mkF m 23 #[lR r0] [(.ref b87_0), (.ref b1), (.ref b1)])) rfl (by rw [hml]; rfl) (Steps.refl _) (a := b1) (argsL := [(.ref b87_0)]) (rest := [(.ref b1)]) (lenOf pd__Ljava_lang_String__V rfl) rfl (own_W rfl) (hb hby d4_23) (fun _ _ => ⟨rfl, rfl, (by decide : 7 + 0 ≤ _), (by decide : 49 + 0 ≤ _)⟩))
  obtain ⟨rfl, N108q, K108, f109⟩ := hQ108
  have N108 := Fr.app N87 N108q
  have R110 := CHr.trans R96 (CHr.keep K108 (sfS (Safe.exa hZ29.alike f100 (by decide) (by decide)) sf0) R96.1)
  have f111 := (f100.keep K108)
  have zs112 := Nat.le_trans zs61 K18.1
  have zs113 := Nat.le_trans zs112 E29.1
  have zs114 := Nat.le_trans zs113 K47.1
  have zs115 := Nat.le_trans zs114 K73.1
  have f116 := (f89.keep K108)
  have zs117 := Nat.le_trans zs102 K18.1
  have zs118 := Nat.le_trans zs117 E29.1
  have zs119 := Nat.le_trans zs118 K47.1
  have zs120 := Nat.le_trans zs119 K73.1
  have n121 := Nat.ne_of_lt (Nat.lt_of_lt_of_le (Nat.lt_of_lt_of_le A1.lt zs120) f88)
  have f122 := (f90.keep K108 (ninS (Ne.symm n121) nin0))
  have f123 := (f91.keep K108 (ninS (Ne.symm n121) nin0))
  have n124 := Nat.ne_of_lt (Nat.lt_of_lt_of_le (Nat.lt_of_lt_of_le A1.lt zs120) f92)
  have f125 := (f99.keep K108 (ninS (Ne.symm n124) nin0))
  have f126 := (f94.keep K108)
  have kp127 : Keep h0 h1 [] := (Keep.refl h0 []).ext E1
  have kp128 : Keep h0 h5 [] := kp127.ext E5
  have kp129 : Keep h0 T18.heap [] := kp128.trans K18 (allS (Or.inr (Nat.le_trans zs59 (Nat.le_of_eq g5.symm))) all0)
  have kp130 : Keep h0 h29 [] := kp129.ext E29
  have kp131 : Keep h0 T47.heap [] := kp130.trans K47 (allS (Or.inr (Nat.le_trans zs61 f23)) (allS (Or.inr (Nat.le_trans zs59 (Nat.le_of_eq g5.symm))) all0))
  have kp132 : Keep h0 T73.heap [] := kp131.trans K73 (allS (Or.inr (Nat.le_trans zs61 f23)) (allS (Or.inr (Nat.le_trans zs59 (Nat.le_of_eq g5.symm))) all0))
  have kp133 : Keep h0 T87.heap [] := kp132.trans K87 all0
  have kp134 : Keep h0 T108.heap [] := kp133.trans K108 (allS (Or.inr (Nat.le_of_eq g1.symm)) all0)
  have zs135 := K47.1
  have zs136 := Nat.le_trans zs135 K73.1
  have zs137 := Nat.le_trans zs136 K87.1
  have zs138 := Nat.le_trans zs137 K108.1
  refine ⟨some (.ref b1), _, _, _, _, _, _, _, nofun, X108, by decide, by decide, hS29, ((Nat.le_trans hk29 zs138)), hZ29, rfl, R110, ?_, fun fs hr => ?_⟩
  · exact ⟨b1, b87_0, b87_1, k87_0, rfl, N108, kp134, (Nat.le_of_eq g1.symm), f111, f109, (Nat.le_trans zs115 f88), f116, f122, f123, (Nat.le_trans zs115 f92), f125, f126, n121, n124, f95⟩
  · show SG p e below s₁ (mkF m 0 #[lR r0] []) _
    refine st1 _ ?_
    refine qd X1 hx hby d4_3 ?_
    refine st5 _ ?_
    refine qd X5 hx hby d4_7 ?_
    refine st18.trans ?_
    refine st29 _ ?_
    refine st47 _ ?_
    refine qaN X47 hx hby d4_16 ?_
    refine st73 _ ?_
    refine st87 _ ?_
    show SG p e below T87 (mkF m 23 #[lR r0] [(.ref b87_0), (.ref b1), (.ref b1)]) _
    refine st108.trans ?_
    exact retOut X108 hx (i := .areturn) hret rfl (Or.inr (Or.inr (Or.inr (Or.inr ⟨rfl, rfl, rfl⟩)))) (hb hby d4_26) hr
def Q0_10 (Z : State) (x0 x1 : Int32) (x2 x3 : Int32) (x4 x5 : Int32) (x6 x7 : Int32) (u8 : Value) (h0 : Heap) (n0 : Nat) (v : Option Value) (h : Heap) (L : List Loc) : Prop := v = some vI1 ∧ Fr n0 L
theorem rm0_10 (l : Launch) (Z : State) (a0 : Array Value) (hw : own_HW a0 Z) (ws : List Jvm.Cond) (x0 x1 : Int32) (x2 x3 : Int32) (x4 x5 : Int32) (x6 x7 : Int32) (u8 : Value) (h0 : Heap) (n0 : Nat) (O0 : Old Z n0 h0) (hc1 : (x0 &&& (3 : Int32)) = (3 : Int32)) (hq2 : ((x1 &&& (65535 : Int32)).toUInt32.toUInt16.toUInt32.toInt32) = x4) (hq3 : ((x2 &&& (65535 : Int32)).toUInt32.toUInt16.toUInt32.toInt32) = x5) (hq4 : ((x3 &&& (65535 : Int32)).toUInt32.toUInt16.toUInt32.toInt32) = x6) (f30 : Sta Z Z.heap "java/lang/String" "COMPACT_STRINGS" "Z" (.int x7)) (hc37 : ¬ (x7 = (0 : Int32))) (hc40 : ¬ ((255 : Int32) < (nar .char x4))) (hc41 : ¬ ((255 : Int32) < (nar .char x5))) (hc42 : ¬ ((255 : Int32) < (nar .char x6))) (f75 : Sta Z Z.heap cs7 "SIOOBE_FORMATTER" cs8 u8) (hc76 : u8.isRef = true) (hc79 : (nar .char (nar .char ((((nar .char x4).toInt8.toInt32) &&& (255 : Int32)).toUInt32.toUInt16.toUInt32.toInt32))) = x4) (hc81 : (nar .char (nar .char ((((nar .char x5).toInt8.toInt32) &&& (255 : Int32)).toUInt32.toUInt16.toUInt32.toInt32))) = x5) (hc83 : (nar .char (nar .char ((((nar .char x6).toInt8.toInt32) &&& (255 : Int32)).toUInt32.toUInt16.toUInt32.toInt32))) = x6) :
    own_MH l x code maxLocals ret ws room_1 Z h0 #[(.int x0), (.int x1), (.int x2), (.int x3)] (Q0_10 Z x0 x1 x2 x3 x4 x5 x6 x7 u8 h0 n0) := by
  have hEL : EW Z a0 consts_1 := own_EW hw
  refine own_openH hEL (plainFor_of_name pn_com_example_manojo_manojo_ParameterNamedPinLaw) (L0 := #[lI x0, lI x1, lI x2, lI x3, lU, lU, lU, lU, lU, lU, lU, lU]) (fun _ => by first | (simp [entryFrame, mkF, argsToLocals, Value.category, maxLocals]; done) | rfl) ?_
  intro p e s m below meth c s₁ hx hby hml hret hnn hZ hown X0 e0 R0
  have N0 := Fr.nil n0; have w := @ww Z a0 hw
  obtain ⟨T5, h5, k5, X5, e5, E5, A5, B5, st5⟩ := newPE X0 hx hZ (w 1 rfl) e0 (g := (mkF m 28 #[lI x0, lI x1, lI x2, lI x3, lV vI3, lI x4, lI x5, lI x6, lU, lU, lU, lU] [vI3])) rfl (hb hby at_28) rfl (by decide) (cap := 3) (by decide) (by decide) (by decide) (by decide) (ad := "[C") rfl
  obtain ⟨b5, g5⟩ : ∃ z, z = h0.size := ⟨_, rfl⟩
  have sf6 : Safe Z consts_1 s.vm h0 b5 := Safe.new (Nat.le_of_eq g5.symm)
  rw [← g5] at A5 B5 st5
  have R7 := CHr.trans R0 (CHr.ext E5 R0.1)
  have V5 : Arv Z h5 b5 k5 .char (3 : Int32) [vI0, vI0, vI0] vI0 := (Arv.new A5 (by decide)).pad (pad_rep [] vI0 3)
  obtain ⟨clq8, Arq8, qq8, Sq8, Nq8, Hq8, Gq8⟩ := id V5
  have zz9 : n0 ≤ h0.size := by rw [← O0.1]; exact O0.2.1
  have g10 := Nat.le_trans zz9 (Nat.le_of_eq g5.symm)
  obtain ⟨T11, h11, X11, e11, W11, st11⟩ := stC X5 hx hZ e5 Arq8 (j := (0 : Int32)) (inb_of Sq8 ⟨(by decide : ¬ ((0 : Int32) < (0 : Int32))), (by decide : (0 : Int32) < (3 : Int32))⟩) (g := (mkF m 42 #[lI x0, lI x1, lI x2, lI x3, lV vI3, lI x4, lI x5, lI x6, lR b5, lU, lU, lU] [(.int x4), vI0, (.ref b5)])) rfl rfl (hb hby at_42)
  have sf12 : Safe Z consts_1 s.vm h5 b5 := (Safe.exa hZ.alike B5 (by decide) (by decide))
  have R13 := CHr.trans R7 (CHr.wr W11 sf12 R7.1)
  have V11 : Arv Z h11 b5 k5 .char (3 : Int32) [(.int (nar .char x4)), vI0, vI0] vI0 := Arv.set Arq8 qq8 Sq8 Nq8 Hq8 Gq8 (fits_nar_char _) W11 0 rfl (Nat.le_of_ble_eq_true rfl)
  have N11 := Fr.snoc X11 N0 g10
  obtain ⟨clq14, Arq14, qq14, Sq14, Nq14, Hq14, Gq14⟩ := id V11
  obtain ⟨T15, h15, X15, e15, W15, st15⟩ := stC X11 hx hZ e11 Arq14 (j := (1 : Int32)) (inb_of Sq14 ⟨(by decide : ¬ ((1 : Int32) < (0 : Int32))), (by decide : (1 : Int32) < (3 : Int32))⟩) (g := (mkF m 54 #[lI x0, lI x1, lI x2, lI x3, lV vI3, lI x4, lI x5, lI x6, lR b5, lU, lU, lU] [(.int x5), vI1, (.ref b5)])) rfl rfl (hb hby at_54)
  have f16 := (B5.wr W11)
  have sf17 : Safe Z consts_1 s.vm h11 b5 := (Safe.exa hZ.alike f16 (by decide) (by decide))
  have R18 := CHr.trans R13 (CHr.wr W15 sf17 R13.1)
  have V15 : Arv Z h15 b5 k5 .char (3 : Int32) [(.int (nar .char x4)), (.int (nar .char x5)), vI0] vI0 := Arv.set Arq14 qq14 Sq14 Nq14 Hq14 Gq14 (fits_nar_char _) W15 1 rfl (Nat.le_of_ble_eq_true rfl)
  have N15 := Fr.snoc X15 N11 g10
  obtain ⟨clq19, Arq19, qq19, Sq19, Nq19, Hq19, Gq19⟩ := id V15
  obtain ⟨T20, h20, X20, e20, W20, st20⟩ := stC X15 hx hZ e15 Arq19 (j := (2 : Int32)) (inb_of Sq19 ⟨(by decide : ¬ ((2 : Int32) < (0 : Int32))), (by decide : (2 : Int32) < (3 : Int32))⟩) (g := (mkF m 66 #[lI x0, lI x1, lI x2, lI x3, lV vI3, lI x4, lI x5, lI x6, lR b5, lU, lU, lU] [(.int x6), vI2, (.ref b5)])) rfl rfl (hb hby at_66)
  have f21 := (f16.wr W15)
  have sf22 : Safe Z consts_1 s.vm h15 b5 := (Safe.exa hZ.alike f21 (by decide) (by decide))
  have R23 := CHr.trans R18 (CHr.wr W20 sf22 R18.1)
  have V20 : Arv Z h20 b5 k5 .char (3 : Int32) [(.int (nar .char x4)), (.int (nar .char x5)), (.int (nar .char x6))] vI0 := Arv.set Arq19 qq19 Sq19 Nq19 Hq19 Gq19 (fits_nar_char _) W20 2 rfl (Nat.le_of_ble_eq_true rfl)
  have N20 := Fr.snoc X20 N15 g10
  obtain ⟨T24, h24, X24, e24, E24, A24, D24, -, st24⟩ := newO X20 hx hZ hown (w 2 rfl) (w 3 rfl) (w 4 rfl) e20 (g := (mkF m 67 #[lI x0, lI x1, lI x2, lI x3, lV vI3, lI x4, lI x5, lI x6, lR b5, lU, lU, lU] [])) rfl (hb hby at_67) (by decide) (by decide)
  obtain ⟨b24, g24⟩ : ∃ z, z = h20.size := ⟨_, rfl⟩
  have sf25 : Safe Z consts_1 s.vm h20 b24 := Safe.new (Nat.le_of_eq g24.symm)
  rw [← g24] at A24 D24 st24
  have R26 := CHr.trans R23 (CHr.ext E24 R23.1)
  have f27 : Fld Z h24 b24 "java/lang/String" "value" "[B" .null := D24 (Or.inr (w 17 rfl)) (ty := (.array .byte)) (by decide)
  have f28 : Fld Z h24 b24 "java/lang/String" "coder" "B" vI0 := D24 (Or.inr (w 18 rfl)) (ty := .byte) (by decide)
  have f29 := (V20.ext E24)
  have o31 := Old.ext O0 E5
  have o32 := Old.wr o31 W11 g10
  have o33 := Old.wr o32 W15 g10
  have o34 := Old.wr o33 W20 g10
  have o35 := Old.ext o34 E24
  have f36 := f30.ext o35.2
  have zz38 : n0 ≤ h20.size := by rw [← o34.1]; exact o34.2.1
  have g39 := Nat.le_trans zz38 (Nat.le_of_eq g24.symm)
  obtain ⟨_, T43, Lc43, X43, hQ43, st43⟩ := own_fin (X24.specialBack hx (y := mN1) rfl hown (mvT hZ (w 5 rfl)) (mvT hZ (w 6 rfl)) (mvT hZ (w 7 rfl)) (by decide) (own_newStr hZ hw (w 3 rfl) (cs := [(nar .char x4), (nar .char x5), (nar .char x6)]) (n := 3) g39 A24 f27 f28 f29 f36 hc37 rfl rfl (by decide) (by decide) (own_acS hc40 (own_acS hc41 (own_acS hc42 own_ac0))) (own_bsS rfl (own_bsS rfl (own_bsS rfl own_bs0))) (by decide) (by decide : 1 + 65 ≤ _)) (g := (mkF m 73 #[lI x0, lI x1, lI x2, lI x3, lV vI3, lI x4, lI x5, lI x6, lR b5, lU, lU, lU] [(.ref b5), (.ref b24), (.ref b24)])) rfl (by rw [hml]; rfl) (Steps.refl _) (a := b24) (argsL := [(.ref b5)]) (rest := [(.ref b24)]) (lenOf pd___C_V rfl) rfl (own_W rfl) (hb hby at_73) (fun _ _ => ⟨rfl, e24, (by decide : 2 + 1 ≤ _), (by decide : 7 + 3 ≤ _)⟩))
  obtain ⟨b43_0, k43_0, rfl, N43q, K43, f44, f45, f46, f47, f48, f49⟩ := hQ43
  have N43 := Fr.app N20 N43q
  have sf50 := (Safe.ext E24 R23.1 sf25)
  have R51 := CHr.trans R26 (CHr.keep K43 (sfS sf50 sf0) R26.1)
  have sf52 : Safe Z consts_1 s.vm h24 b43_0 := Safe.new f46
  have f53 := (A24.keep K43)
  have zs54 := K43.1
  have o55 := Old.keep o35 K43 (allS g39 all0)
  have hS56 := (State.WarmedH.refl s).since 0
  obtain ⟨_, _, ⟨T57, L57, k57, n57⟩, -, X57, hs57, hg57, ⟨Lc57, hQ57, l57, y57, z57, cr57⟩, st57⟩ := callSS X43 hx (y := mN25) hown (mvT hZ (w 23 rfl)) (mvT hZ (w 24 rfl)) (mvT hZ (w 25 rfl)) (mvT hZ (w 26 rfl)) (by decide) (backOfSH (s := s) (vm0 := s.vm) (W := 0) (rm4_7 l Z a0 hw [] b24 x7 b43_0 k43_0 ((nar .char x4).toInt8.toInt32) ((nar .char x5).toInt8.toInt32) ((nar .char x6).toInt8.toInt32) T43.heap n0 o55 f30 hc37 f53 f45 (Nat.lt_of_lt_of_le A24.lt zs54) f47 f47.lt f44) hZ (w 26 rfl) (w 25 rfl) (by decide) (by decide) hEL R51.1) (g := (mkF m 80 #[lI x0, lI x1, lI x2, lI x3, lV vI3, lI x4, lI x5, lI x6, lR b5, lR b24, lU, lU] [(.ref b24)])) rfl (by rw [hml]; rfl) (argsL := [(.ref b24)]) (rest := []) (lenOf pd__Ljava_lang_String__Lcom_example_manojo_manojo_QueryTree_Parameter_ rfl) rfl (own_W rfl) (hb hby at_80) (fun _ _ => ⟨rfl, rfl, (by decide : 3 + 7 ≤ _), (by decide : 10 + 49 ≤ _)⟩)
  dsimp only [Pt.U, Pt.locs, Pt.cells, Pt.slots] at X57 l57 y57 z57 st57 hQ57 hs57 hg57 cr57
  subst l57 y57 z57
  obtain ⟨X57, hS57, hZ57, ho57⟩ := rebS (s := s) (vm0 := s.vm) hS56 ((Nat.zero_le _)) X57 hs57 hg57 hZ hown
  obtain ⟨b57_0, b57_1, b57_2, k57_0, rfl, N57q, K57, f58, f59, f60, f61, f62, f63, f64, f65, f66, f67, f68, f69, f70⟩ := hQ57
  have N57 := Fr.app N43 N57q
  have R71 := CHr.trans R51 cr57
  have o72 := Old.keep o55 K57 all0
  obtain ⟨_, T73, Lc73, X73, hQ73, st73⟩ := own_cV X57 hx hZ57 ho57 rfl (rm28_1 l Z a0 hw [] b57_0 b57_1 T57.heap n0 o72 f60) f59 (w 152 rfl) (w 153 rfl) (w 155 rfl) (w 154 rfl) (w 156 rfl) (w 25 rfl) (by decide) (W := 0) (by decide) (by decide) (by decide) (by decide) (g := (mkF m 87 #[lI x0, lI x1, lI x2, lI x3, lV vI3, lI x4, lI x5, lI x6, lR b5, lR b24, lR b57_0, lU] [(.ref b57_0)])) rfl (by rw [hml]; rfl) (argsL := []) (rest := []) (lenOf pd___Ljava_lang_String_ rfl) rfl (own_W rfl) (hb hby at_87)
  obtain ⟨rfl, N73q, E73⟩ := hQ73
  have N73 := Fr.app N57 N73q
  obtain ⟨_, T74, Lc74, X74, hQ74, st74⟩ := own_cV X73 hx hZ57 ho57 E73 (rm9_1 l Z a0 hw [] b57_1 b57_2 (4 : Int32) k57_0 ([vI58, (.int ((nar .char x4).toInt8.toInt32)), (.int ((nar .char x5).toInt8.toInt32)), (.int ((nar .char x6).toInt8.toInt32))]) x7 (0 : Int32) T57.heap n0 o72 f64 f66 f62 f30 hc37 f63) f62 (w 157 rfl) (w 59 rfl) (w 61 rfl) (w 60 rfl) (w 62 rfl) (w 4 rfl) (by decide) (W := 0) (by decide) (by decide) (by decide) (by decide) (g := (mkF m 99 #[lI x0, lI x1, lI x2, lI x3, lV vI3, lI x4, lI x5, lI x6, lR b5, lR b24, lR b57_0, lR b57_1] [(.ref b57_1)])) rfl (by rw [hml]; rfl) (argsL := []) (rest := []) (lenOf pd___I rfl) rfl (own_W rfl) (hb hby at_99)
  obtain ⟨rfl, N74q, E74⟩ := hQ74
  have N74 := Fr.app N73 N74q
  obtain ⟨_, T77, Lc77, X77, hQ77, st77⟩ := own_cV X74 hx hZ57 ho57 E74 (rm29_1 l Z a0 hw [] b57_1 (0 : Int32) x7 (0 : Int32) b57_2 (4 : Int32) k57_0 ([vI58, (.int ((nar .char x4).toInt8.toInt32)), (.int ((nar .char x5).toInt8.toInt32)), (.int ((nar .char x6).toInt8.toInt32))]) u8 (58 : Int32) T57.heap n0 o72 f62 f30 hc37 f63 (by decide) f64 f66 f75 hc76 (by decide) (by decide) (own_gd (n := 0) rfl rfl)) f62 (w 158 rfl) (w 159 rfl) (w 161 rfl) (w 160 rfl) (w 162 rfl) (w 4 rfl) (by decide) (W := 0) (by decide) (by decide) (by decide) (by decide) (g := (mkF m 114 #[lI x0, lI x1, lI x2, lI x3, lV vI3, lI x4, lI x5, lI x6, lR b5, lR b24, lR b57_0, lR b57_1] [vI0, (.ref b57_1)])) rfl (by rw [hml]; rfl) (argsL := [vI0]) (rest := []) (lenOf pd__I_C rfl) rfl (own_W rfl) (hb hby at_114)
  obtain ⟨rfl, N77q, E77⟩ := hQ77
  have N77 := Fr.app N74 N77q
  obtain ⟨_, T78, Lc78, X78, hQ78, st78⟩ := own_cV X77 hx hZ57 ho57 E77 (rm29_1 l Z a0 hw [] b57_1 (1 : Int32) x7 (0 : Int32) b57_2 (4 : Int32) k57_0 ([vI58, (.int ((nar .char x4).toInt8.toInt32)), (.int ((nar .char x5).toInt8.toInt32)), (.int ((nar .char x6).toInt8.toInt32))]) u8 ((nar .char x4).toInt8.toInt32) T57.heap n0 o72 f62 f30 hc37 f63 (by decide) f64 f66 f75 hc76 (by decide) (by decide) (own_gd (n := 1) rfl rfl)) f62 (w 158 rfl) (w 159 rfl) (w 161 rfl) (w 160 rfl) (w 162 rfl) (w 4 rfl) (by decide) (W := 0) (by decide) (by decide) (by decide) (by decide) (g := (mkF m 132 #[lI x0, lI x1, lI x2, lI x3, lV vI3, lI x4, lI x5, lI x6, lR b5, lR b24, lR b57_0, lR b57_1] [vI1, (.ref b57_1)])) rfl (by rw [hml]; rfl) (argsL := [vI1]) (rest := []) (lenOf pd__I_C rfl) rfl (own_W rfl) (hb hby at_132)
  obtain ⟨rfl, N78q, E78⟩ := hQ78
  have N78 := Fr.app N77 N78q
  obtain ⟨_, T80, Lc80, X80, hQ80, st80⟩ := own_cV X78 hx hZ57 ho57 E78 (rm29_1 l Z a0 hw [] b57_1 (2 : Int32) x7 (0 : Int32) b57_2 (4 : Int32) k57_0 ([vI58, (.int ((nar .char x4).toInt8.toInt32)), (.int ((nar .char x5).toInt8.toInt32)), (.int ((nar .char x6).toInt8.toInt32))]) u8 ((nar .char x5).toInt8.toInt32) T57.heap n0 o72 f62 f30 hc37 f63 (by decide) f64 f66 f75 hc76 (by decide) (by decide) (own_gd (n := 2) rfl rfl)) f62 (w 158 rfl) (w 159 rfl) (w 161 rfl) (w 160 rfl) (w 162 rfl) (w 4 rfl) (by decide) (W := 0) (by decide) (by decide) (by decide) (by decide) (g := (mkF m 151 #[lI x0, lI x1, lI x2, lI x3, lV vI3, lI x4, lI x5, lI x6, lR b5, lR b24, lR b57_0, lR b57_1] [vI2, (.ref b57_1)])) rfl (by rw [hml]; rfl) (argsL := [vI2]) (rest := []) (lenOf pd__I_C rfl) rfl (own_W rfl) (hb hby at_151)
  obtain ⟨rfl, N80q, E80⟩ := hQ80
  have N80 := Fr.app N78 N80q
  obtain ⟨_, T82, Lc82, X82, hQ82, st82⟩ := own_cV X80 hx hZ57 ho57 E80 (rm29_1 l Z a0 hw [] b57_1 (3 : Int32) x7 (0 : Int32) b57_2 (4 : Int32) k57_0 ([vI58, (.int ((nar .char x4).toInt8.toInt32)), (.int ((nar .char x5).toInt8.toInt32)), (.int ((nar .char x6).toInt8.toInt32))]) u8 ((nar .char x6).toInt8.toInt32) T57.heap n0 o72 f62 f30 hc37 f63 (by decide) f64 f66 f75 hc76 (by decide) (by decide) (own_gd (n := 3) rfl rfl)) f62 (w 158 rfl) (w 159 rfl) (w 161 rfl) (w 160 rfl) (w 162 rfl) (w 4 rfl) (by decide) (W := 0) (by decide) (by decide) (by decide) (by decide) (g := (mkF m 170 #[lI x0, lI x1, lI x2, lI x3, lV vI3, lI x4, lI x5, lI x6, lR b5, lR b24, lR b57_0, lR b57_1] [vI3, (.ref b57_1)])) rfl (by rw [hml]; rfl) (argsL := [vI3]) (rest := []) (lenOf pd__I_C rfl) rfl (own_W rfl) (hb hby at_170)
  obtain ⟨rfl, N82q, E82⟩ := hQ82
  have N82 := Fr.app N80 N82q
  refine ⟨some vI1, _, _, _, _, _, _, _, nofun, X82, by decide, by decide, hS57, (by rw [E82]; exact (Nat.le_refl _)), hZ57, E82, R71, ?_, fun fs hr => ?_⟩
  · rw [E82]; exact ⟨rfl, N82⟩
  · show SG p e below s₁ (mkF m 0 #[lI x0, lI x1, lI x2, lI x3, lU, lU, lU, lU, lU, lU, lU, lU] []) _
    refine qiN X0 hx hby at_0 ?_
    refine qc X0 hx hby at_1 ?_
    refine XS.iand X0.here hx rfl (hb hby at_2) rfl ?_
    show SG p e below s₁ (mkF m 3 #[lI x0, lI x1, lI x2, lI x3, lU, lU, lU, lU, lU, lU, lU, lU] [(.int (x0 &&& (3 : Int32)))]) _
    rw [hc1]
    refine XS.istore X0.here hx rfl (hb hby at_3) rfl (l' := #[lI x0, lI x1, lI x2, lI x3, lV vI3, lU, lU, lU, lU, lU, lU, lU]) rfl ?_
    refine qiN X0 hx hby at_5 ?_
    refine X0.ldcInt hx hown (mvT hZ (w 0 rfl)) (g := (mkF m 6 #[lI x0, lI x1, lI x2, lI x3, lV vI3, lU, lU, lU, lU, lU, lU, lU] [(.int x1)])) rfl (hb hby at_6) _ ?_
    refine XS.iand X0.here hx rfl (hb hby at_8) rfl ?_
    refine XS.i2c X0.here hx rfl (hb hby at_9) rfl ?_
    show SG p e below s₁ (mkF m 10 #[lI x0, lI x1, lI x2, lI x3, lV vI3, lU, lU, lU, lU, lU, lU, lU] [(.int ((x1 &&& (65535 : Int32)).toUInt32.toUInt16.toUInt32.toInt32))]) _
    rw [hq2]
    refine XS.istore X0.here hx rfl (hb hby at_10) rfl (l' := #[lI x0, lI x1, lI x2, lI x3, lV vI3, lI x4, lU, lU, lU, lU, lU, lU]) rfl ?_
    refine qiN X0 hx hby at_12 ?_
    show SG p e below s₁ (mkF m 13 #[lI x0, lI x1, lI x2, lI x3, lV vI3, lI x4, lU, lU, lU, lU, lU, lU] [(.int x2)]) _
    refine X0.ldcInt hx hown (mvT hZ (w 0 rfl)) (g := (mkF m 13 #[lI x0, lI x1, lI x2, lI x3, lV vI3, lI x4, lU, lU, lU, lU, lU, lU] [(.int x2)])) rfl (hb hby at_13) _ ?_
    refine XS.iand X0.here hx rfl (hb hby at_15) rfl ?_
    refine XS.i2c X0.here hx rfl (hb hby at_16) rfl ?_
    show SG p e below s₁ (mkF m 17 #[lI x0, lI x1, lI x2, lI x3, lV vI3, lI x4, lU, lU, lU, lU, lU, lU] [(.int ((x2 &&& (65535 : Int32)).toUInt32.toUInt16.toUInt32.toInt32))]) _
    rw [hq3]
    refine XS.istore X0.here hx rfl (hb hby at_17) rfl (l' := #[lI x0, lI x1, lI x2, lI x3, lV vI3, lI x4, lI x5, lU, lU, lU, lU, lU]) rfl ?_
    refine qiN X0 hx hby at_19 ?_
    refine X0.ldcInt hx hown (mvT hZ (w 0 rfl)) (g := (mkF m 20 #[lI x0, lI x1, lI x2, lI x3, lV vI3, lI x4, lI x5, lU, lU, lU, lU, lU] [(.int x3)])) rfl (hb hby at_20) _ ?_
    refine XS.iand X0.here hx rfl (hb hby at_22) rfl ?_
    refine XS.i2c X0.here hx rfl (hb hby at_23) rfl ?_
    show SG p e below s₁ (mkF m 24 #[lI x0, lI x1, lI x2, lI x3, lV vI3, lI x4, lI x5, lU, lU, lU, lU, lU] [(.int ((x3 &&& (65535 : Int32)).toUInt32.toUInt16.toUInt32.toInt32))]) _
    rw [hq4]
    refine XS.istore X0.here hx rfl (hb hby at_24) rfl (l' := #[lI x0, lI x1, lI x2, lI x3, lV vI3, lI x4, lI x5, lI x6, lU, lU, lU, lU]) rfl ?_
    refine qi X0 hx hby at_26 ?_
    show SG p e below s₁ (mkF m 28 #[lI x0, lI x1, lI x2, lI x3, lV vI3, lI x4, lI x5, lI x6, lU, lU, lU, lU] [vI3]) _
    refine st5 _ ?_
    refine XS.astore X5.here hx rfl (hb hby at_30) rfl rfl (l' := #[lI x0, lI x1, lI x2, lI x3, lV vI3, lI x4, lI x5, lI x6, lR b5, lU, lU, lU]) rfl ?_
    refine qi X5 hx hby at_32 ?_
    refine XS.ifNo X5.here hx rfl (hb hby at_34) rfl ((if0 _ _).trans (tlt (by decide : (0 : Int32) < (3 : Int32))).2.2.2) ?_
    refine qa X5 hx hby at_37 ?_
    refine qc X5 hx hby at_39 ?_
    refine qi X5 hx hby at_40 ?_
    refine st11 _ ?_
    refine qi X11 hx hby at_43 ?_
    refine qc X11 hx hby at_45 ?_
    show SG p e below T11 (mkF m 46 #[lI x0, lI x1, lI x2, lI x3, lV vI3, lI x4, lI x5, lI x6, lR b5, lU, lU, lU] [vI1, vI3]) _
    refine XS.icmpNo X11.here hx rfl (hb hby at_46) rfl (tlt (by decide : (1 : Int32) < (3 : Int32))).2.2.2 ?_
    refine qa X11 hx hby at_49 ?_
    refine qc X11 hx hby at_51 ?_
    refine qi X11 hx hby at_52 ?_
    refine st15 _ ?_
    refine qi X15 hx hby at_55 ?_
    refine qc X15 hx hby at_57 ?_
    refine XS.icmpNo X15.here hx rfl (hb hby at_58) rfl (tlt (by decide : (2 : Int32) < (3 : Int32))).2.2.2 ?_
    refine qa X15 hx hby at_61 ?_
    refine qc X15 hx hby at_63 ?_
    show SG p e below T15 (mkF m 64 #[lI x0, lI x1, lI x2, lI x3, lV vI3, lI x4, lI x5, lI x6, lR b5, lU, lU, lU] [vI2, (.ref b5)]) _
    refine qi X15 hx hby at_64 ?_
    refine st20 _ ?_
    refine st24 _ ?_
    refine qd X24 hx hby at_70 ?_
    refine qa X24 hx hby at_71 ?_
    refine st43.trans ?_
    refine XS.astore X43.here hx rfl (hb hby at_76) rfl rfl (l' := #[lI x0, lI x1, lI x2, lI x3, lV vI3, lI x4, lI x5, lI x6, lR b5, lR b24, lU, lU]) rfl ?_
    refine qa X43 hx hby at_78 ?_
    refine st57.trans ?_
    refine XS.astore X57.here hx rfl (hb hby at_83) rfl rfl (l' := #[lI x0, lI x1, lI x2, lI x3, lV vI3, lI x4, lI x5, lI x6, lR b5, lR b24, lR b57_0, lU]) rfl ?_
    show SG p e below T57 (mkF m 85 #[lI x0, lI x1, lI x2, lI x3, lV vI3, lI x4, lI x5, lI x6, lR b5, lR b24, lR b57_0, lU] []) _
    refine qa X57 hx hby at_85 ?_
    refine st73 _ ?_
    refine XS.astore X73.here hx rfl (hb hby at_90) rfl rfl (l' := #[lI x0, lI x1, lI x2, lI x3, lV vI3, lI x4, lI x5, lI x6, lR b5, lR b24, lR b57_0, lR b57_1]) rfl ?_
    refine qa X73 hx hby at_92 ?_
    refine XS.ifnullNo X73.here hx rfl (hb hby at_94) rfl ?_
    refine qa X73 hx hby at_97 ?_
    refine st74 _ ?_
    refine qi X74 hx hby at_102 ?_
    refine qc X74 hx hby at_104 ?_
    refine XS.iadd X74.here hx rfl (hb hby at_105) rfl ?_
    show SG p e below T74 (mkF m 106 #[lI x0, lI x1, lI x2, lI x3, lV vI3, lI x4, lI x5, lI x6, lR b5, lR b24, lR b57_0, lR b57_1] [vI4, vI4]) _
    refine XS.icmpYes X74.here hx rfl (pc0 := 106) (pc' := 111) rfl (hb hby at_106) rfl (teq (rfl : (4 : Int32) = (4 : Int32))).1 (by decide) (by decide) ?_
    refine qa X74 hx hby at_111 ?_
    refine qc X74 hx hby at_113 ?_
    refine st77 _ ?_
    refine qb X77 hx hby at_117 ?_
    refine XS.icmpYes X77.here hx rfl (pc0 := 119) (pc' := 124) rfl (hb hby at_119) rfl (teq (rfl : (58 : Int32) = (58 : Int32))).1 (by decide) (by decide) ?_
    refine qi X77 hx hby at_124 ?_
    refine XS.ifNo X77.here hx rfl (hb hby at_126) rfl ((if0 _ _).trans (tlt (by decide : (0 : Int32) < (3 : Int32))).2.2.2) ?_
    refine qa X77 hx hby at_129 ?_
    refine qc X77 hx hby at_131 ?_
    show SG p e below T77 (mkF m 132 #[lI x0, lI x1, lI x2, lI x3, lV vI3, lI x4, lI x5, lI x6, lR b5, lR b24, lR b57_0, lR b57_1] [vI1, (.ref b57_1)]) _
    refine st78 _ ?_
    refine qi X78 hx hby at_135 ?_
    refine XS.icmpYes X78.here hx rfl (pc0 := 137) (pc' := 142) rfl (hb hby at_137) rfl (teq hc79).1 (by decide) (by decide) ?_
    refine qi X78 hx hby at_142 ?_
    refine qc X78 hx hby at_144 ?_
    refine XS.icmpNo X78.here hx rfl (hb hby at_145) rfl (tlt (by decide : (1 : Int32) < (3 : Int32))).2.2.2 ?_
    refine qa X78 hx hby at_148 ?_
    refine qc X78 hx hby at_150 ?_
    refine st80 _ ?_
    refine qi X80 hx hby at_154 ?_
    show SG p e below T80 (mkF m 156 #[lI x0, lI x1, lI x2, lI x3, lV vI3, lI x4, lI x5, lI x6, lR b5, lR b24, lR b57_0, lR b57_1] [(.int x5), (.int (nar .char (nar .char ((((nar .char x5).toInt8.toInt32) &&& (255 : Int32)).toUInt32.toUInt16.toUInt32.toInt32))))]) _
    refine XS.icmpYes X80.here hx rfl (pc0 := 156) (pc' := 161) rfl (hb hby at_156) rfl (teq hc81).1 (by decide) (by decide) ?_
    refine qi X80 hx hby at_161 ?_
    refine qc X80 hx hby at_163 ?_
    refine XS.icmpNo X80.here hx rfl (hb hby at_164) rfl (tlt (by decide : (2 : Int32) < (3 : Int32))).2.2.2 ?_
    refine qa X80 hx hby at_167 ?_
    refine qc X80 hx hby at_169 ?_
    refine st82 _ ?_
    refine qi X82 hx hby at_173 ?_
    refine XS.icmpYes X82.here hx rfl (pc0 := 175) (pc' := 180) rfl (hb hby at_175) rfl (teq hc83).1 (by decide) (by decide) ?_
    refine qc X82 hx hby at_180 ?_
    show SG p e below T82 (mkF m 181 #[lI x0, lI x1, lI x2, lI x3, lV vI3, lI x4, lI x5, lI x6, lR b5, lR b24, lR b57_0, lR b57_1] [vI1]) _
    exact retN X82 hx (t := .boolean) hret (by simp) (hb hby at_181) hr
theorem comes_1 {Post : Tables → Env → Array Value → State → Outcome → State → Prop} (hpost : ∀ tb e args s v u, (limb_1_1.after args s (.returned v) u = true ∧ limb_1_2.after args s (.returned v) u = true ∧ True) → ReturnedEndW s (.returned v) u (Jvm.fieldLocs frame_1_writes args s ++ Jvm.arrayLocs frame_1_arrays args s ++ Jvm.staticLocs frame_1_statics s) 32 2304 → Post tb e args s (.returned v) u) :
    ArmFor flags0 classFile x code maxLocals ret World_1 tables_1 room_1 Calls_1 rest_1 Pre_1 Post := by
  intro l hfl _ _ p e ha hc hk s m args below hf hA hF happ hP
  obtain ⟨hcalls, hrest, hpre⟩ := hP
  obtain ⟨-, -, -, hnamed, -, -, -, hat⟩ := (Spec.applies_iff hf).mp happ
  obtain ⟨hg, hn⟩ := and_e (Cond.before_iff.mp (show (Jvm.Cond.and given_1 narrow_1).before args s = true from hpre))
  obtain ⟨g0, hg⟩ := and_e hg
  obtain ⟨ga0, hg⟩ := and_e hg
  obtain ⟨ga1, hg⟩ := and_e hg
  obtain ⟨ga2, hg⟩ := and_e hg
  obtain ⟨w0, w1, w2, w3, rfl⟩ : ∃ w0 w1 w2 w3 : Value, args = #[w0, w1, w2, w3] := by
    have hs : args.size = 4 := by simpa [Cond.value, given_1] using g0
    obtain ⟨L⟩ := args
    match L, hs with
    | [w0, w1, w2, w3], _ => exact ⟨w0, w1, w2, w3, rfl⟩
  have hw := fun d (hd : d ∈ tables_1) => atoms_spec (ws := Jvm.Cond.code x code maxLocals ret :: tables_1) hat d (List.mem_cons_of_mem _ hd)
  have hfit : Fit s := fun {y c} hc i hi => by
    obtain ⟨ha, rfl⟩ := Array.getElem?_eq_some_iff.mp hc
    have q := List.all_eq_true.mp ((Array.all_eq_true_iff_forall_mem.mp hF) _ (Array.getElem_mem ha)) i (List.mem_range.mpr hi)
    simpa [Array.getElem?_eq_getElem hi] using q
  obtain ⟨hsets, hown0⟩ := atoms_of _ (rest_1_c_eq ▸ (show rest_1_c.before _ s = true from hrest))
  have hr0 := Cond.before_iff.mp hown0
  obtain ⟨i0, ei0⟩ := is_v ga0
  obtain rfl : w0 = (.int i0) := Option.some.inj ei0
  obtain ⟨i1, ei1⟩ := is_v ga1
  obtain rfl : w1 = (.int i1) := Option.some.inj ei1
  obtain ⟨i2, ei2⟩ := is_v ga2
  obtain rfl : w2 = (.int i2) := Option.some.inj ei2
  obtain ⟨i3, ei3⟩ := is_v hg
  obtain rfl : w3 = (.int i3) := Option.some.inj ei3
  have hs := fun (n : Nat) (d : Jvm.Cond) (q : jdkStatics_1[n]? = some d) => Cond.before_iff.mp (hsets d (List.mem_of_getElem? q))
  obtain ⟨iCS, eCS⟩ := is_v (hs 1 _ rfl)
  have SCS := Sta.start eCS (Or.inl (hsets _ (List.mem_of_getElem? (i := 0) rfl)))
  have nCS : ¬ (iCS = (0 : Int32)) := gotF (Cond.eq_ints eCS (Term.int_eval (0))) (not_v (hs 2 _ rfl))
  obtain ⟨vFM, eFM, hFM⟩ := isR_v (hs 8 _ rfl)
  have SFM := Sta.start eFM (Or.inl (hsets _ (List.mem_of_getElem? (i := 7) rfl)))
  have hcw : Jvm.Lit.compactW.before _ s = true := (hsets _ (List.mem_of_getElem? (i := 2) rfl))
  have Su16a := Sta.start (eqv_i (y := 1) rfl (hs 12 _ rfl)) (Or.inl (hsets _ (List.mem_of_getElem? (i := 11) rfl)))
  have Su16h := Sta.start (eqv_i (y := 0) rfl (hs 15 _ rfl)) (Or.inl (hsets _ (List.mem_of_getElem? (i := 14) rfl)))
  have Su16l := Sta.start (eqv_i (y := 8) rfl (hs 18 _ rfl)) (Or.inl (hsets _ (List.mem_of_getElem? (i := 17) rfl)))
  suffices hM : MetFree l x (head1 (Jvm.Cond.code x code maxLocals ret :: tables_1) room_1) (fun a U => a = #[(.int i0), (.int i1), (.int i2), (.int i3)] ∧ s.Warmed39 U.vm ∧ U.heap = s.heap ∧ CHv s consts_1 U.vm s.heap) (fun _ _ _ _ _ => True) (fun _ U o U' => ∃ v L, o = .returned v ∧ (v = some vI1 ∧ Fr s.heap.size L) ∧ CHr s consts_1 U.vm U.heap U'.vm U'.heap ∧ ReturnedEndW U o U' L room_1.cells room_1.slots) by
    obtain ⟨n, o, h1, h2, h3, _, L, rfl, ⟨rfl, N⟩, -, hq⟩ := hM p e ha hc hk s m _ below hf ((Spec.applies_iff_loose hf).mp happ).1 ⟨rfl, State.Warmed39.refl s, rfl, CHv.start (own_EW hw) (fun p hp => hcalls.1 p hp) hcw (ww hw 16 rfl) (ww hw 3 rfl)⟩ trivial
    refine ⟨n, _, h1, h2, h3, hpost _ _ _ _ _ _ ⟨Cond.after_iff.mpr rfl, Cond.after_iff.mpr (eq_i res_at (Term.int_eval (1)) rfl), trivial⟩ ⟨hq.1, hq.2.1, hq.2.2.1, (hq.2.2.2.sift fun y hy => Or.inr (N y hy)).mono (by decide) (by decide)⟩⟩
  obtain ⟨kA, hA, eA⟩ := own_chr65 i1
  obtain ⟨kB, hB, eB⟩ := own_chr65 i2
  obtain ⟨kC, hC, eC⟩ := own_chr65 i3
  have h3 := own_and3 i0
  rcases h3 with ck | ck | ck | ck
  · skip
    exact rm0_1 l s _ hw tables_1 i0 i1 i2 i3 ((Int32.ofNat kA)) ((Int32.ofNat kB)) ((Int32.ofNat kC)) iCS vFM _ _ (Old.start s) ck eA eB eC SCS nCS SFM hFM
  · skip
    by_cases pA : (255 : Int32) < (nar .char (Int32.ofNat kA))
    · exact rm0_2 l s _ hw tables_1 i0 i1 i2 i3 ((Int32.ofNat kA)) ((Int32.ofNat kB)) ((Int32.ofNat kC)) iCS vFM _ _ (Old.start s) ck eA eB eC SCS nCS pA Su16a Su16h Su16l (by rw [own_U hA]; rw [own_N hA] at pA; exact pA) SFM hFM (by rw [own_U hA, own_N hA]; exact own_N hA)
    exact rm0_3 l s _ hw tables_1 i0 i1 i2 i3 ((Int32.ofNat kA)) ((Int32.ofNat kB)) ((Int32.ofNat kC)) iCS vFM _ _ (Old.start s) ck eA eB eC SCS nCS pA SFM hFM (own_L256 kA (own_big hA pA))
  · skip
    by_cases pA : (255 : Int32) < (nar .char (Int32.ofNat kA))
    · exact rm0_4 l s _ hw tables_1 i0 i1 i2 i3 ((Int32.ofNat kA)) ((Int32.ofNat kB)) ((Int32.ofNat kC)) iCS vFM _ _ (Old.start s) ck eA eB eC SCS nCS pA Su16a Su16h Su16l (by rw [own_U hA]; rw [own_N hA] at pA; exact pA) SFM hFM (by rw [own_U hA, own_N hA]; exact own_N hA) (by rw [own_U hB, own_N hB]; exact own_N hB)
    by_cases pB : (255 : Int32) < (nar .char (Int32.ofNat kB))
    · exact rm0_5 l s _ hw tables_1 i0 i1 i2 i3 ((Int32.ofNat kA)) ((Int32.ofNat kB)) ((Int32.ofNat kC)) iCS vFM _ _ (Old.start s) ck eA eB eC SCS nCS pA pB Su16a Su16h Su16l (by rw [own_U hB]; rw [own_N hB] at pB; exact pB) SFM hFM (by rw [own_U hA, own_N hA]; exact own_N hA) (by rw [own_U hB, own_N hB]; exact own_N hB)
    exact rm0_6 l s _ hw tables_1 i0 i1 i2 i3 ((Int32.ofNat kA)) ((Int32.ofNat kB)) ((Int32.ofNat kC)) iCS vFM _ _ (Old.start s) ck eA eB eC SCS nCS pA pB SFM hFM (own_L256 kA (own_big hA pA)) (own_L256 kB (own_big hB pB))
  · skip
    by_cases pA : (255 : Int32) < (nar .char (Int32.ofNat kA))
    · exact rm0_7 l s _ hw tables_1 i0 i1 i2 i3 ((Int32.ofNat kA)) ((Int32.ofNat kB)) ((Int32.ofNat kC)) iCS vFM _ _ (Old.start s) ck eA eB eC SCS nCS pA Su16a Su16h Su16l (by rw [own_U hA]; rw [own_N hA] at pA; exact pA) SFM hFM (by rw [own_U hA, own_N hA]; exact own_N hA) (by rw [own_U hB, own_N hB]; exact own_N hB) (by rw [own_U hC, own_N hC]; exact own_N hC)
    by_cases pB : (255 : Int32) < (nar .char (Int32.ofNat kB))
    · exact rm0_8 l s _ hw tables_1 i0 i1 i2 i3 ((Int32.ofNat kA)) ((Int32.ofNat kB)) ((Int32.ofNat kC)) iCS vFM _ _ (Old.start s) ck eA eB eC SCS nCS pA pB Su16a Su16h Su16l (by rw [own_U hB]; rw [own_N hB] at pB; exact pB) SFM hFM (by rw [own_U hA, own_N hA]; exact own_N hA) (by rw [own_U hB, own_N hB]; exact own_N hB) (by rw [own_U hC, own_N hC]; exact own_N hC)
    by_cases pC : (255 : Int32) < (nar .char (Int32.ofNat kC))
    · exact rm0_9 l s _ hw tables_1 i0 i1 i2 i3 ((Int32.ofNat kA)) ((Int32.ofNat kB)) ((Int32.ofNat kC)) iCS vFM _ _ (Old.start s) ck eA eB eC SCS nCS pA pB pC Su16a Su16h Su16l (by rw [own_U hC]; rw [own_N hC] at pC; exact pC) SFM hFM (by rw [own_U hA, own_N hA]; exact own_N hA) (by rw [own_U hB, own_N hB]; exact own_N hB) (by rw [own_U hC, own_N hC]; exact own_N hC)
    exact rm0_10 l s _ hw tables_1 i0 i1 i2 i3 ((Int32.ofNat kA)) ((Int32.ofNat kB)) ((Int32.ofNat kC)) iCS vFM _ _ (Old.start s) ck eA eB eC SCS nCS pA pB pC SFM hFM (own_L256 kA (own_big hA pA)) (own_L256 kB (own_big hB pB)) (own_L256 kC (own_big hC pC))
theorem main_1_1 : Claimed_1_1 := comes_1 fun _ _ _ _ _ _ h hF => ⟨h.1, hF⟩
theorem main_1_2 : Claimed_1_2 := comes_1 fun _ _ _ _ _ _ h hF => ⟨h.2.1, hF⟩
end Jvm.Pilot.@@N@@
namespace Jvm.Pilot.@@N@@
open Jvm Jvm.ClassFile Sem Op Lib Jvm.Free Jvm.Stand Jvm.Pilot.@@N@@.Jvm.D
set_option maxRecDepth 65536
/-! MADE BY PROGRAM (witnessworld.py) out of the Statement's table words and the real class files: 29 classes; the members and pool entries that the words name. The judged class is class 1, her method 1. -/
namespace start1
open Jvm.ClassFile
def u (s : String) : CpInfo := .utf8 (stringToUtf16 s)
/-- a pool by its gaps: so many unusable entries, then the entry; so many at the end -/
def gap : Nat → List CpInfo → List CpInfo
  | 0, r => r
  | n + 1, r => .unusable :: gap n r
def poolList (es : List (Nat × CpInfo)) (last : Nat) : List CpInfo := es.foldr (fun e r => gap e.1 (e.2 :: r)) (gap last [])
def pool (es : List (Nat × CpInfo)) (last : Nat) : Array CpInfo := ⟨poolList es last⟩
def fileOf (pool : Array CpInfo) (this : Nat) (attrs : Array Attribute := #[]) (ms : Array MethodInfo := #[]) (fl : Nat := 33) (sup : Nat := 0) (ifs : Array Nat := #[]) (fds : Array FieldInfo := #[]) : ClassFile where
  minorVersion := 0
  majorVersion := 65
  constantPool := pool
  accessFlags := fl
  thisClass := this
  superClass := sup
  interfaces := ifs
  fields := fds
  methods := ms
  attributes := attrs
def plain (name : String) (sup : Option ClassId) : Class where
  name := name
  kind := .ordinary
  loader := none
  accessFlags := 33
  super := sup
  interfaces := #[]
  cf := none
  fields := #[]
  methods := #[]
  instanceTypes := #[]
  staticTypes := #[]
  resolved := #[]
  callSites := []
  init := .initialized
  statics := none
  mirror := none

def pool0 : Array CpInfo := pool [(5, u "<init>"), (0, u "()V"), (1, .class_ 10), (1, u "java/lang/Object")] 113

def k0c0 : Code := ⟨0, 1, object_method_1_code, #[], #[]⟩
def k0m0 : Method := ⟨"<init>", "()V", ⟨[], none⟩, 1, some k0c0⟩
/-- java/lang/Object -/
def k0 : Class := { plain "java/lang/Object" none with
  cf := some (fileOf pool0 8 #[] #[⟨1, 5, 6, #[]⟩] 33 0 #[] #[])
  methods := #[k0m0]
  resolved := Array.replicate 124 none }

def pool1 : Array CpInfo := pool [(2, .class_ 4), (1, u "java/lang/Object"), (0, u "<init>"), (0, u "()V"), (0, .integer 65535), (0, .class_ 9), (0, u "java/lang/String"), (0, .methodref 8 11), (0, .nameAndType 5 12), (0, u "([C)V"), (0, .methodref 14 15), (0, .class_ 16), (0, .nameAndType 17 18), (0, u "com/example/manojo/manojo/QueryTree$Parameter"), (0, u "named"), (0, u "(Ljava/lang/String;)Lcom/example/manojo/manojo/QueryTree$Parameter;"), (0, .methodref 14 20), (0, .nameAndType 21 22), (0, u "name"), (0, u "()Ljava/lang/String;"), (0, .methodref 8 24), (0, .nameAndType 25 26), (0, u "length"), (0, u "()I"), (0, .methodref 8 28), (0, .nameAndType 29 30), (0, u "charAt"), (0, u "(I)C"), (0, .class_ 32), (0, u "com/example/manojo/manojo/ParameterNamedPinLaw"), (2, u "law"), (0, u "(IIII)Z")] 9

def k1m0 : Method := ⟨"<init>", "()V", ⟨[], none⟩, 2, none⟩
def k1c1 : Code := ⟨3, 12, code, #[], #[]⟩
def k1m1 : Method := ⟨"law", "(IIII)Z", ⟨[.int, .int, .int, .int], some .boolean⟩, 9, some k1c1⟩
/-- com/example/manojo/manojo/ParameterNamedPinLaw -/
def k1 : Class := { plain "com/example/manojo/manojo/ParameterNamedPinLaw" (some 0) with
  accessFlags := 49
  cf := some (fileOf pool1 31 #[] #[⟨2, 5, 6, #[]⟩, ⟨9, 35, 36, #[]⟩] 49 2 #[] #[])
  methods := #[k1m0, k1m1]
  resolved := Array.replicate 46 none }

def pool2 : Array CpInfo := pool [(1, .class_ 2), (0, u "java/io/Serializable"), (0, .class_ 4), (0, u "java/lang/Object")] 2

/-- java/io/Serializable -/
def k2 : Class := { plain "java/io/Serializable" (some 0) with
  accessFlags := 1537
  cf := some (fileOf pool2 1 #[] #[] 1537 3 #[] #[])
  resolved := Array.replicate 7 none }

def pool3 : Array CpInfo := pool [(1, .class_ 2), (0, u "java/lang/Comparable"), (0, .class_ 4), (0, u "java/lang/Object")] 7

/-- java/lang/Comparable -/
def k3 : Class := { plain "java/lang/Comparable" (some 0) with
  accessFlags := 1537
  cf := some (fileOf pool3 1 #[] #[] 1537 3 #[] #[])
  resolved := Array.replicate 12 none }

def pool4 : Array CpInfo := pool [(2, .class_ 4), (1, u "java/lang/CharSequence"), (42, .class_ 48), (0, u "java/lang/CharSequence$1CodePointIterator"), (10, .class_ 60), (0, u "java/lang/CharSequence$1CharIterator"), (5, .class_ 67), (0, u "java/lang/Object")] 63

/-- java/lang/CharSequence -/
def k4 : Class := { plain "java/lang/CharSequence" (some 0) with
  accessFlags := 1537
  cf := some (fileOf pool4 2 #[.nestMembers #[47, 59]] #[] 1537 66 #[] #[])
  resolved := Array.replicate 131 none }

def pool5 : Array CpInfo := pool [(1, .class_ 2), (0, u "java/lang/constant/Constable"), (0, .class_ 4), (0, u "java/lang/Object")] 6

/-- java/lang/constant/Constable -/
def k5 : Class := { plain "java/lang/constant/Constable" (some 0) with
  accessFlags := 1537
  cf := some (fileOf pool5 1 #[] #[] 1537 3 #[] #[])
  resolved := Array.replicate 11 none }

def pool6 : Array CpInfo := pool [(1, .class_ 2), (0, u "java/lang/constant/ConstantDesc"), (0, .class_ 4), (0, u "java/lang/Object")] 32

/-- java/lang/constant/ConstantDesc -/
def k6 : Class := { plain "java/lang/constant/ConstantDesc" (some 0) with
  accessFlags := 1537
  cf := some (fileOf pool6 1 #[] #[] 1537 3 #[] #[])
  resolved := Array.replicate 37 none }

def pool7 : Array CpInfo := pool [(1, .methodref 2 3), (0, .class_ 4), (0, .nameAndType 5 6), (0, u "java/lang/Object"), (0, u "<init>"), (0, u "()V"), (0, .string 8), (0, u ""), (0, .fieldref 10 11), (0, .class_ 12), (0, .nameAndType 13 14), (0, u "java/lang/String"), (0, u "value"), (0, u "[B"), (0, .fieldref 10 16), (0, .nameAndType 17 18), (0, u "coder"), (0, u "B"), (2, u "hash"), (0, u "I"), (2, u "hashIsZero"), (0, u "Z"), (0, .methodref 10 28), (0, .nameAndType 5 29), (0, u "([CIILjava/lang/Void;)V"), (6, u "checkBoundsOffCount"), (0, u "(III)I"), (0, .fieldref 10 39), (0, .nameAndType 40 26), (0, u "COMPACT_STRINGS"), (1, .class_ 44), (1, u "java/lang/StringUTF16"), (0, u "compress"), (1, .methodref 42 48), (0, .nameAndType 49 50), (0, u "coderFromArrayLen"), (0, u "([BI)B"), (3, .methodref 55 56), (0, .class_ 57), (0, .nameAndType 58 59), (0, u "java/util/Arrays"), (0, u "copyOfRange"), (0, u "([BII)[B"), (47, .class_ 109), (1, u "java/lang/StringLatin1"), (32, u "()Z"), (34, .methodref 42 178), (0, .nameAndType 45 179), (0, u "([CII)[B"), (13, .class_ 195), (1, u "java/lang/System"), (16, .methodref 193 213), (0, .nameAndType 214 215), (0, u "arraycopy"), (0, u "(Ljava/lang/Object;ILjava/lang/Object;II)V"), (118, u "()I"), (0, .methodref 10 336), (0, .nameAndType 17 337), (0, u "()B"), (2, u "()[B"), (22, u "([BI)C"), (27, u "(II)V"), (35, u "(I)C"), (61, .methodref 10 490), (0, .nameAndType 5 491), (0, u "(Ljava/lang/AbstractStringBuilder;Ljava/lang/Void;)V"), (0, .methodref 10 493), (0, .nameAndType 494 142), (0, u "isLatin1"), (0, .methodref 107 496), (0, .nameAndType 497 363), (0, u "charAt"), (0, .methodref 42 496), (2, u "checkIndex"), (4, .nameAndType 507 334), (0, u "length"), (24, u "getBytes"), (16, .methodref 550 506), (0, .class_ 551), (0, u "java/lang/AbstractStringBuilder"), (0, .methodref 550 553), (0, .nameAndType 554 340), (0, u "getValue"), (20, .class_ 576), (0, u "java/lang/CharSequence"), (22, u "CASE_INSENSITIVE_ORDER"), (0, u "Ljava/util/Comparator;"), (220, u "([BIB)V"), (188, u "([C)V"), (36, .methodref 550 493), (0, .fieldref 550 1049), (0, .nameAndType 1050 26), (0, u "maybeLatin1"), (2, .fieldref 1054 1055), (0, .class_ 1056), (0, .nameAndType 1057 1058), (0, u "jdk/internal/util/Preconditions"), (0, u "SIOOBE_FORMATTER"), (0, u "Ljava/util/function/BiFunction;"), (0, .methodref 1054 1060), (0, .nameAndType 501 1061), (0, u "(IILjava/util/function/BiFunction;)I"), (2, u "(IIILjava/util/function/BiFunction;)I"), (0, .methodref 1054 1066), (0, .nameAndType 1067 1064), (0, u "checkFromIndexSize"), (33, u "serialPersistentFields"), (0, u "[Ljava/io/ObjectStreamField;"), (0, .class_ 1104), (0, u "java/lang/String$CaseInsensitiveComparator"), (1, .class_ 1107), (0, u "java/io/Serializable"), (0, .class_ 1109), (0, u "java/lang/Comparable"), (0, .class_ 1111), (0, u "java/lang/constant/Constable"), (0, .class_ 1113), (0, u "java/lang/constant/ConstantDesc"), (2, u "serialVersionUID"), (0, u "J"), (3, u "REPL"), (0, u "C"), (2, u "LATIN1"), (1, u "UTF16"), (105, u "(Ljava/lang/StringBuilder;)V")] 217

def k7m0 : Method := ⟨"<init>", "()V", ⟨[], none⟩, 1, none⟩
def k7c1 : Code := ⟨5, 2, jdk_42_method_3_code, #[], #[]⟩
def k7m1 : Method := ⟨"<init>", "([C)V", ⟨[(.array .char)], none⟩, 1, some k7c1⟩
def k7c2 : Code := ⟨3, 2, jdk_42_method_53_code, #[], #[]⟩
def k7m2 : Method := ⟨"<init>", "(Ljava/lang/StringBuilder;)V", ⟨[(.object "java/lang/StringBuilder")], none⟩, 1, some k7c2⟩
def k7c3 : Code := ⟨2, 1, jdk_42_method_54_code, #[], #[]⟩
def k7m3 : Method := ⟨"length", "()I", ⟨[], some .int⟩, 1, some k7c3⟩
def k7c4 : Code := ⟨2, 2, jdk_42_method_56_code, #[], #[]⟩
def k7m4 : Method := ⟨"charAt", "(I)C", ⟨[.int], some .char⟩, 1, some k7c4⟩
def k7c5 : Code := ⟨5, 4, jdk_42_method_147_code, #[], #[]⟩
def k7m5 : Method := ⟨"getBytes", "([BIB)V", ⟨[(.array .byte), .int, .byte], none⟩, 0, some k7c5⟩
def k7c6 : Code := ⟨4, 6, jdk_42_method_149_code, #[], #[]⟩
def k7m6 : Method := ⟨"<init>", "([CIILjava/lang/Void;)V", ⟨[(.array .char), .int, .int, (.object "java/lang/Void")], none⟩, 2, some k7c6⟩
def k7c7 : Code := ⟨5, 5, jdk_42_method_150_code, #[], #[]⟩
def k7m7 : Method := ⟨"<init>", "(Ljava/lang/AbstractStringBuilder;Ljava/lang/Void;)V", ⟨[(.object "java/lang/AbstractStringBuilder"), (.object "java/lang/Void")], none⟩, 0, some k7c7⟩
def k7c8 : Code := ⟨1, 1, jdk_42_method_152_code, #[], #[]⟩
def k7m8 : Method := ⟨"coder", "()B", ⟨[], some .byte⟩, 0, some k7c8⟩
def k7c9 : Code := ⟨1, 1, jdk_42_method_154_code, #[], #[]⟩
def k7m9 : Method := ⟨"isLatin1", "()Z", ⟨[], some .boolean⟩, 0, some k7c9⟩
def k7c10 : Code := ⟨3, 2, jdk_42_method_155_code, #[], #[]⟩
def k7m10 : Method := ⟨"checkIndex", "(II)V", ⟨[.int, .int], none⟩, 8, some k7c10⟩
def k7c11 : Code := ⟨4, 3, jdk_42_method_157_code, #[], #[]⟩
def k7m11 : Method := ⟨"checkBoundsOffCount", "(III)I", ⟨[.int, .int, .int], some .int⟩, 8, some k7c11⟩
/-- java/lang/String -/
def k7 : Class := { plain "java/lang/String" (some 0) with
  accessFlags := 49
  interfaces := #[2, 3, 4, 5, 6]
  cf := some (fileOf pool7 10 #[.nestMembers #[1103]] #[⟨1, 5, 6, #[]⟩, ⟨1, 5, 1010, #[]⟩, ⟨1, 5, 1233, #[]⟩, ⟨1, 507, 334, #[]⟩, ⟨1, 497, 427, #[]⟩, ⟨0, 532, 821, #[]⟩, ⟨2, 5, 29, #[]⟩, ⟨0, 5, 491, #[]⟩, ⟨0, 17, 337, #[]⟩, ⟨0, 494, 142, #[]⟩, ⟨8, 501, 391, #[]⟩, ⟨8, 36, 37, #[]⟩] 49 2 #[1106, 1108, 575, 1110, 1112] #[⟨18, 13, 14, #[]⟩, ⟨18, 17, 18, #[]⟩, ⟨2, 21, 22, #[]⟩, ⟨2, 25, 26, #[]⟩, ⟨26, 1116, 1117, #[]⟩, ⟨24, 40, 26, #[]⟩, ⟨26, 1101, 1102, #[]⟩, ⟨26, 1121, 1122, #[]⟩, ⟨25, 599, 600, #[]⟩, ⟨24, 1125, 18, #[]⟩, ⟨24, 1127, 18, #[]⟩])
  fields := #[⟨"value", (.array .byte), 18, 0, 0⟩, ⟨"coder", .byte, 18, 1, 0⟩, ⟨"hash", .int, 2, 2, 0⟩, ⟨"hashIsZero", .boolean, 2, 3, 0⟩, ⟨"serialVersionUID", .long, 26, 0, 0⟩, ⟨"COMPACT_STRINGS", .boolean, 24, 1, 0⟩, ⟨"serialPersistentFields", (.array (.object "java/io/ObjectStreamField")), 26, 2, 0⟩, ⟨"REPL", .char, 26, 3, 0⟩, ⟨"CASE_INSENSITIVE_ORDER", (.object "java/util/Comparator"), 25, 4, 0⟩, ⟨"LATIN1", .byte, 24, 5, 0⟩, ⟨"UTF16", .byte, 24, 6, 0⟩]
  methods := #[k7m0, k7m1, k7m2, k7m3, k7m4, k7m5, k7m6, k7m7, k7m8, k7m9, k7m10, k7m11]
  instanceTypes := #[(.array .byte), .byte, .int, .boolean]
  staticTypes := #[.long, .boolean, (.array (.object "java/io/ObjectStreamField")), .char, (.object "java/util/Comparator"), .byte, .byte]
  resolved := Array.replicate 1451 none
  statics := some 0 }

def pool8 : Array CpInfo := pool [(1, .methodref 2 3), (0, .class_ 4), (0, .nameAndType 5 6), (0, u "java/lang/Object"), (0, u "<init>"), (0, u "()V"), (0, .class_ 8), (0, u "java/lang/Record")] 13

def k8c0 : Code := ⟨1, 1, jdk_30_method_1_code, #[], #[]⟩
def k8m0 : Method := ⟨"<init>", "()V", ⟨[], none⟩, 4, some k8c0⟩
/-- java/lang/Record -/
def k8 : Class := { plain "java/lang/Record" (some 0) with
  accessFlags := 1057
  cf := some (fileOf pool8 7 #[] #[⟨4, 5, 6, #[]⟩] 1057 2 #[] #[])
  methods := #[k8m0]
  resolved := Array.replicate 22 none }

def pool9 : Array CpInfo := pool [(1, .class_ 2), (0, u "com/example/manojo/manojo/QueryTree$Operand"), (0, .class_ 4), (0, u "java/lang/Object"), (3, .class_ 9), (0, u "com/example/manojo/manojo/QueryTree")] 9

/-- com/example/manojo/manojo/QueryTree$Operand -/
def k9 : Class := { plain "com/example/manojo/manojo/QueryTree$Operand" (some 0) with
  accessFlags := 1536
  cf := some (fileOf pool9 1 #[.nestHost 8] #[] 1536 3 #[] #[])
  resolved := Array.replicate 19 none }

def pool10 : Array CpInfo := pool [(1, .class_ 2), (0, u "com/example/manojo/manojo/QueryTree$Value"), (0, .class_ 4), (0, u "java/lang/Object"), (0, .class_ 6), (0, u "com/example/manojo/manojo/QueryTree$Operand"), (3, .class_ 11), (0, u "com/example/manojo/manojo/QueryTree")] 10

/-- com/example/manojo/manojo/QueryTree$Value -/
def k10 : Class := { plain "com/example/manojo/manojo/QueryTree$Value" (some 0) with
  accessFlags := 1536
  interfaces := #[9]
  cf := some (fileOf pool10 1 #[.nestHost 10] #[] 1536 3 #[5] #[])
  resolved := Array.replicate 22 none }

def pool11 : Array CpInfo := pool [(1, .methodref 2 3), (0, .class_ 4), (0, .nameAndType 5 6), (0, u "java/lang/Record"), (0, u "<init>"), (0, u "()V"), (0, .fieldref 8 9), (0, .class_ 10), (0, .nameAndType 11 12), (0, u "com/example/manojo/manojo/QueryTree$Parameter"), (0, u "name"), (0, u "Ljava/lang/String;"), (0, .class_ 14), (0, u "java/lang/StringBuilder"), (0, .methodref 13 3), (0, .string 17), (0, u ":"), (0, .methodref 13 19), (0, .nameAndType 20 21), (0, u "append"), (0, u "(Ljava/lang/String;)Ljava/lang/StringBuilder;"), (0, .methodref 13 23), (0, .nameAndType 24 25), (0, u "toString"), (0, u "()Ljava/lang/String;"), (0, .methodref 8 27), (0, .nameAndType 5 28), (0, u "(Ljava/lang/String;)V"), (16, .class_ 46), (0, u "com/example/manojo/manojo/QueryTree$Value"), (3, u "named"), (0, u "(Ljava/lang/String;)Lcom/example/manojo/manojo/QueryTree$Parameter;"), (7, .class_ 60), (0, u "com/example/manojo/manojo/QueryTree")] 19

def k11c0 : Code := ⟨2, 2, prog_22_method_1_code, #[], #[]⟩
def k11m0 : Method := ⟨"<init>", "(Ljava/lang/String;)V", ⟨[(.object "java/lang/String")], none⟩, 0, some k11c0⟩
def k11c1 : Code := ⟨4, 1, prog_22_method_2_code, #[], #[]⟩
def k11m1 : Method := ⟨"named", "(Ljava/lang/String;)Lcom/example/manojo/manojo/QueryTree$Parameter;", ⟨[(.object "java/lang/String")], some (.object "com/example/manojo/manojo/QueryTree$Parameter")⟩, 8, some k11c1⟩
def k11c2 : Code := ⟨1, 1, prog_22_method_7_code, #[], #[]⟩
def k11m2 : Method := ⟨"name", "()Ljava/lang/String;", ⟨[], some (.object "java/lang/String")⟩, 1, some k11c2⟩
/-- com/example/manojo/manojo/QueryTree$Parameter -/
def k11 : Class := { plain "com/example/manojo/manojo/QueryTree$Parameter" (some 8) with
  accessFlags := 48
  interfaces := #[10]
  cf := some (fileOf pool11 8 #[.nestHost 59] #[⟨0, 5, 28, #[]⟩, ⟨8, 50, 51, #[]⟩, ⟨1, 11, 25, #[]⟩] 48 2 #[45] #[⟨18, 11, 12, #[]⟩])
  fields := #[⟨"name", (.object "java/lang/String"), 18, 0, 0⟩]
  methods := #[k11m0, k11m1, k11m2]
  instanceTypes := #[(.object "java/lang/String")]
  resolved := Array.replicate 80 none }

def pool12 : Array CpInfo := pool [(1, .class_ 2), (0, u "java/lang/Appendable"), (0, .class_ 4), (0, u "java/lang/Object")] 9

/-- java/lang/Appendable -/
def k12 : Class := { plain "java/lang/Appendable" (some 0) with
  accessFlags := 1537
  cf := some (fileOf pool12 1 #[] #[] 1537 3 #[] #[])
  resolved := Array.replicate 14 none }

def pool13 : Array CpInfo := pool [(1, .class_ 2), (0, u "java/lang/String"), (0, .methodref 4 5), (0, .class_ 6), (0, .nameAndType 7 8), (0, u "java/lang/Object"), (0, u "<init>"), (0, u "()V"), (1, .class_ 12), (1, u "java/lang/AbstractStringBuilder"), (0, u "EMPTYVALUE"), (0, u "[B"), (0, .fieldref 10 16), (0, .nameAndType 17 14), (0, u "value"), (0, .fieldref 1 19), (0, .nameAndType 20 21), (0, u "COMPACT_STRINGS"), (0, u "Z"), (0, .fieldref 10 23), (0, .nameAndType 24 25), (0, u "coder"), (0, u "B"), (0, .methodref 27 28), (0, .class_ 29), (0, .nameAndType 30 31), (0, u "java/lang/StringUTF16"), (0, u "newBytesFor"), (0, u "(I)[B"), (0, .methodref 1 33), (0, .nameAndType 34 35), (0, u "length"), (0, u "()I"), (4, .methodref 1 41), (0, .nameAndType 24 42), (0, u "()B"), (2, u "append"), (0, u "(Ljava/lang/String;)Ljava/lang/AbstractStringBuilder;"), (1, .class_ 49), (0, u "java/lang/CharSequence"), (19, u "(Ljava/lang/String;)V"), (5, u "maybeLatin1"), (3, .fieldref 10 80), (0, .nameAndType 81 82), (0, u "count"), (0, u "I"), (0, .methodref 10 84), (0, .nameAndType 85 86), (0, u "isLatin1"), (0, u "()Z"), (1, .class_ 90), (1, u "java/lang/StringLatin1"), (9, .methodref 10 101), (0, .nameAndType 102 103), (0, u "ensureCapacityInternal"), (0, u "(I)V"), (21, .methodref 88 126), (0, .nameAndType 127 128), (0, u "inflate"), (0, u "([BI[BII)V"), (66, .methodref 10 196), (0, .nameAndType 127 8), (11, .methodref 10 209), (0, .nameAndType 210 211), (0, u "putStringAt"), (0, u "(ILjava/lang/String;)V"), (5, u "inflateIfNeededFor"), (2, .nameAndType 221 222), (0, u "getBytes"), (0, u "([BIB)V"), (174, .methodref 10 398), (0, .nameAndType 217 69), (0, .methodref 1 220), (3, u "()[B"), (40, .class_ 445), (0, u "java/lang/Appendable"), (106, u "getValue")] 56

def k13m0 : Method := ⟨"<init>", "()V", ⟨[], none⟩, 0, none⟩
def k13c1 : Code := ⟨2, 2, jdk_68_method_2_code, #[], #[]⟩
def k13m1 : Method := ⟨"<init>", "(I)V", ⟨[.int], none⟩, 0, some k13c1⟩
def k13c2 : Code := ⟨1, 1, jdk_68_method_6_code, #[], #[]⟩
def k13m2 : Method := ⟨"length", "()I", ⟨[], some .int⟩, 1, some k13c2⟩
def k13c3 : Code := ⟨4, 3, jdk_68_method_9_code, #[], #[]⟩
def k13m3 : Method := ⟨"ensureCapacityInternal", "(I)V", ⟨[.int], none⟩, 2, some k13c3⟩
def k13c4 : Code := ⟨5, 2, jdk_68_method_11_code, #[], #[]⟩
def k13m4 : Method := ⟨"inflate", "()V", ⟨[], none⟩, 2, some k13c4⟩
def k13c5 : Code := ⟨3, 3, jdk_68_method_22_code, #[], #[]⟩
def k13m5 : Method := ⟨"append", "(Ljava/lang/String;)Ljava/lang/AbstractStringBuilder;", ⟨[(.object "java/lang/String")], some (.object "java/lang/AbstractStringBuilder")⟩, 1, some k13c5⟩
def k13c6 : Code := ⟨1, 1, jdk_68_method_64_code, #[], #[]⟩
def k13m6 : Method := ⟨"getValue", "()[B", ⟨[], some (.array .byte)⟩, 16, some k13c6⟩
def k13c7 : Code := ⟨1, 1, jdk_68_method_68_code, #[], #[]⟩
def k13m7 : Method := ⟨"isLatin1", "()Z", ⟨[], some .boolean⟩, 16, some k13c7⟩
def k13c8 : Code := ⟨2, 2, jdk_68_method_71_code, #[], #[]⟩
def k13m8 : Method := ⟨"inflateIfNeededFor", "(Ljava/lang/String;)V", ⟨[(.object "java/lang/String")], none⟩, 2, some k13c8⟩
def k13c9 : Code := ⟨4, 3, jdk_68_method_73_code, #[], #[]⟩
def k13m9 : Method := ⟨"putStringAt", "(ILjava/lang/String;)V", ⟨[.int, (.object "java/lang/String")], none⟩, 2, some k13c9⟩
/-- java/lang/AbstractStringBuilder -/
def k13 : Class := { plain "java/lang/AbstractStringBuilder" (some 0) with
  accessFlags := 1056
  interfaces := #[12, 4]
  cf := some (fileOf pool13 10 #[] #[⟨0, 7, 8, #[]⟩, ⟨0, 7, 103, #[]⟩, ⟨1, 34, 35, #[]⟩, ⟨2, 102, 103, #[]⟩, ⟨2, 127, 8, #[]⟩, ⟨1, 45, 46, #[]⟩, ⟨16, 552, 403, #[]⟩, ⟨16, 85, 86, #[]⟩, ⟨2, 217, 69, #[]⟩, ⟨2, 210, 211, #[]⟩] 1056 4 #[444, 48] #[⟨0, 17, 14, #[]⟩, ⟨0, 24, 25, #[]⟩, ⟨0, 75, 21, #[]⟩, ⟨0, 81, 82, #[]⟩, ⟨26, 13, 14, #[]⟩])
  fields := #[⟨"value", (.array .byte), 0, 0, 0⟩, ⟨"coder", .byte, 0, 1, 0⟩, ⟨"maybeLatin1", .boolean, 0, 2, 0⟩, ⟨"count", .int, 0, 3, 0⟩, ⟨"EMPTYVALUE", (.array .byte), 26, 0, 0⟩]
  methods := #[k13m0, k13m1, k13m2, k13m3, k13m4, k13m5, k13m6, k13m7, k13m8, k13m9]
  instanceTypes := #[(.array .byte), .byte, .boolean, .int]
  staticTypes := #[(.array .byte)]
  resolved := Array.replicate 609 none }

def pool14 : Array CpInfo := pool [(1, .methodref 2 3), (0, .class_ 4), (0, .nameAndType 5 6), (0, u "java/lang/AbstractStringBuilder"), (0, u "<init>"), (0, u "(I)V"), (11, .class_ 20), (1, u "java/lang/String"), (3, .class_ 26), (1, u "java/lang/StringBuilder"), (0, u "append"), (0, u "(Ljava/lang/String;)Ljava/lang/StringBuilder;"), (0, .methodref 2 30), (0, .nameAndType 27 31), (0, u "(Ljava/lang/String;)Ljava/lang/AbstractStringBuilder;"), (105, .methodref 18 138), (0, .nameAndType 5 139), (0, u "(Ljava/lang/StringBuilder;)V"), (5, u "()V"), (10, u "()I"), (186, .methodref 2 344), (0, .nameAndType 345 156), (0, u "length"), (3, .class_ 350), (0, u "java/lang/Appendable"), (0, .class_ 352), (0, u "java/io/Serializable"), (0, .class_ 354), (0, u "java/lang/Comparable"), (0, .class_ 356), (0, u "java/lang/CharSequence"), (0, u "serialVersionUID"), (0, u "J"), (40, u "toString"), (0, u "()Ljava/lang/String;")] 21

def k14c0 : Code := ⟨2, 1, jdk_67_method_1_code, #[], #[]⟩
def k14m0 : Method := ⟨"<init>", "()V", ⟨[], none⟩, 1, some k14c0⟩
def k14c1 : Code := ⟨2, 2, jdk_67_method_7_code, #[], #[]⟩
def k14m1 : Method := ⟨"append", "(Ljava/lang/String;)Ljava/lang/StringBuilder;", ⟨[(.object "java/lang/String")], some (.object "java/lang/StringBuilder")⟩, 1, some k14c1⟩
def k14c2 : Code := ⟨3, 1, jdk_67_method_42_code, #[], #[]⟩
def k14m2 : Method := ⟨"toString", "()Ljava/lang/String;", ⟨[], some (.object "java/lang/String")⟩, 1, some k14c2⟩
def k14c3 : Code := ⟨1, 1, jdk_67_method_93_code, #[], #[]⟩
def k14m3 : Method := ⟨"length", "()I", ⟨[], some .int⟩, 4161, some k14c3⟩
/-- java/lang/StringBuilder -/
def k14 : Class := { plain "java/lang/StringBuilder" (some 13) with
  accessFlags := 49
  interfaces := #[12, 2, 3, 4]
  cf := some (fileOf pool14 24 #[] #[⟨1, 5, 145, #[]⟩, ⟨1, 27, 28, #[]⟩, ⟨1, 399, 400, #[]⟩, ⟨4161, 345, 156, #[]⟩] 49 2 #[349, 351, 353, 355] #[⟨24, 357, 358, #[]⟩])
  fields := #[⟨"serialVersionUID", .long, 24, 0, 0⟩]
  methods := #[k14m0, k14m1, k14m2, k14m3]
  instanceTypes := #[(.array .byte), .byte, .boolean, .int]
  staticTypes := #[.long]
  resolved := Array.replicate 422 none }

def pool15 : Array CpInfo := pool [(2, .class_ 4), (1, u "java/lang/Object"), (0, u "<init>"), (0, u "()V"), (1, .class_ 10), (1, u "java/lang/System"), (0, u "allowSecurityManager"), (0, u "I"), (16, u "cons"), (0, u "Ljava/io/Console;"), (77, .class_ 110), (1, u "java/lang/System$CallersHolder"), (43, u "initialErrStream"), (0, u "Ljava/io/PrintStream;"), (19, u "security"), (0, u "Ljava/lang/SecurityManager;"), (31, .class_ 209), (0, u "java/lang/System$1"), (7, u "props"), (0, u "Ljava/util/Properties;"), (2, u "lineSeparator"), (0, u "Ljava/lang/String;"), (96, .class_ 321), (1, u "java/lang/System$LoggerFinder"), (5, .class_ 328), (0, u "java/lang/System$Logger"), (67, u "err"), (2, u "out"), (91, u "notSupportedJnuEncoding"), (15, u "in"), (17, u "initialIn"), (0, u "Ljava/io/InputStream;"), (35, u "bootLayer"), (0, u "Ljava/lang/ModuleLayer;"), (99, .class_ 664), (0, u "java/lang/System$2"), (9, u "NEVER"), (2, u "MAYBE"), (49, u "arraycopy"), (0, u "(Ljava/lang/Object;ILjava/lang/Object;II)V"), (72, .class_ 802), (0, u "java/lang/System$Logger$Level")] 31

def k15m0 : Method := ⟨"<init>", "()V", ⟨[], none⟩, 2, none⟩
def k15m1 : Method := ⟨"arraycopy", "(Ljava/lang/Object;ILjava/lang/Object;II)V", ⟨[(.object "java/lang/Object"), .int, (.object "java/lang/Object"), .int, .int], none⟩, 265, none⟩
/-- java/lang/System -/
def k15 : Class := { plain "java/lang/System" (some 0) with
  accessFlags := 49
  cf := some (fileOf pool15 8 #[.nestMembers #[319, 327, 801, 108, 663, 208]] #[⟨2, 5, 6, #[]⟩, ⟨265, 727, 728, #[]⟩] 49 2 #[] #[⟨25, 507, 526, #[]⟩, ⟨25, 399, 155, #[]⟩, ⟨25, 396, 155, #[]⟩, ⟨10, 525, 526, #[]⟩, ⟨26, 674, 12, #[]⟩, ⟨26, 677, 12, #[]⟩, ⟨10, 11, 12, #[]⟩, ⟨74, 175, 176, #[]⟩, ⟨10, 491, 222, #[]⟩, ⟨74, 29, 30, #[]⟩, ⟨74, 154, 155, #[]⟩, ⟨10, 217, 218, #[]⟩, ⟨10, 221, 222, #[]⟩, ⟨8, 562, 563, #[]⟩])
  fields := #[⟨"in", (.object "java/io/InputStream"), 25, 0, 0⟩, ⟨"out", (.object "java/io/PrintStream"), 25, 1, 0⟩, ⟨"err", (.object "java/io/PrintStream"), 25, 2, 0⟩, ⟨"initialIn", (.object "java/io/InputStream"), 10, 3, 0⟩, ⟨"NEVER", .int, 26, 4, 0⟩, ⟨"MAYBE", .int, 26, 5, 0⟩, ⟨"allowSecurityManager", .int, 10, 6, 0⟩, ⟨"security", (.object "java/lang/SecurityManager"), 74, 7, 0⟩, ⟨"notSupportedJnuEncoding", (.object "java/lang/String"), 10, 8, 0⟩, ⟨"cons", (.object "java/io/Console"), 74, 9, 0⟩, ⟨"initialErrStream", (.object "java/io/PrintStream"), 74, 10, 0⟩, ⟨"props", (.object "java/util/Properties"), 10, 11, 0⟩, ⟨"lineSeparator", (.object "java/lang/String"), 10, 12, 0⟩, ⟨"bootLayer", (.object "java/lang/ModuleLayer"), 8, 13, 0⟩]
  methods := #[k15m0, k15m1]
  staticTypes := #[(.object "java/io/InputStream"), (.object "java/io/PrintStream"), (.object "java/io/PrintStream"), (.object "java/io/InputStream"), .int, .int, .int, (.object "java/lang/SecurityManager"), (.object "java/lang/String"), (.object "java/io/Console"), (.object "java/io/PrintStream"), (.object "java/util/Properties"), (.object "java/lang/String"), (.object "java/lang/ModuleLayer")]
  resolved := Array.replicate 834 none }

def pool16 : Array CpInfo := pool [(2, .class_ 4), (1, u "java/lang/Object"), (0, u "<init>"), (0, u "()V"), (7, .class_ 16), (1, u "java/util/Arrays"), (57, .class_ 76), (1, u "java/util/Arrays$NaturalOrder"), (36, .class_ 115), (1, u "java/util/Arrays$LegacyMergeSort"), (1, u "Z"), (21, u "copyOfRange"), (10, .methodref 151 152), (0, .class_ 153), (0, .nameAndType 154 155), (0, u "java/lang/System"), (0, u "arraycopy"), (0, u "(Ljava/lang/Object;ILjava/lang/Object;II)V"), (148, .methodref 305 306), (0, .class_ 307), (0, .nameAndType 308 309), (0, u "java/lang/Math"), (0, u "min"), (0, u "(II)I"), (29, .methodref 14 340), (0, .nameAndType 341 342), (0, u "copyOfRangeByte"), (0, u "([BII)[B"), (0, .methodref 14 344), (0, .nameAndType 345 346), (0, u "checkLength"), (0, u "(II)V"), (28, .class_ 376), (0, u "java/util/Arrays$ArrayList"), (68, u "$assertionsDisabled"), (269, u "MIN_ARRAY_SORT_GRAN"), (0, u "I"), (2, u "INSERTIONSORT_THRESHOLD"), (255, .class_ 976), (0, u "java/util/Arrays$ArrayItr")] 52

def k16m0 : Method := ⟨"<init>", "()V", ⟨[], none⟩, 2, none⟩
def k16c1 : Code := ⟨4, 2, jdk_65_method_131_code, #[], #[]⟩
def k16m1 : Method := ⟨"checkLength", "(II)V", ⟨[.int, .int], none⟩, 10, some k16c1⟩
def k16c2 : Code := ⟨3, 3, jdk_65_method_132_code, #[], #[]⟩
def k16m2 : Method := ⟨"copyOfRange", "([BII)[B", ⟨[(.array .byte), .int, .int], some (.array .byte)⟩, 9, some k16c2⟩
def k16c3 : Code := ⟨6, 5, jdk_65_method_133_code, #[], #[]⟩
def k16m3 : Method := ⟨"copyOfRangeByte", "([BII)[B", ⟨[(.array .byte), .int, .int], some (.array .byte)⟩, 10, some k16c3⟩
/-- java/util/Arrays -/
def k16 : Class := { plain "java/util/Arrays" (some 0) with
  accessFlags := 49
  cf := some (fileOf pool16 14 #[.nestMembers #[975, 375, 113, 74]] #[⟨2, 5, 6, #[]⟩, ⟨10, 345, 346, #[]⟩, ⟨9, 139, 342, #[]⟩, ⟨10, 341, 342, #[]⟩] 49 2 #[] #[⟨26, 715, 716, #[]⟩, ⟨26, 719, 716, #[]⟩, ⟨4120, 445, 117, #[]⟩])
  fields := #[⟨"MIN_ARRAY_SORT_GRAN", .int, 26, 0, 0⟩, ⟨"INSERTIONSORT_THRESHOLD", .int, 26, 1, 0⟩, ⟨"$assertionsDisabled", .boolean, 4120, 2, 0⟩]
  methods := #[k16m0, k16m1, k16m2, k16m3]
  staticTypes := #[.int, .int, .boolean]
  resolved := Array.replicate 1029 none }

def pool17 : Array CpInfo := pool [(1, .class_ 2), (0, u "java/lang/Math"), (1, .class_ 6), (1, u "java/lang/Object"), (0, u "<init>"), (0, u "()V"), (89, .class_ 100), (1, u "java/lang/Math$RandomNumberGeneratorHolder"), (71, u "negativeZeroFloatBits"), (0, u "J"), (2, u "negativeZeroDoubleBits"), (24, u "min"), (43, u "$assertionsDisabled"), (0, u "Z"), (88, u "(II)I"), (2, u "twoToTheDoubleScaleDown"), (0, u "D"), (4, u "twoToTheDoubleScaleUp"), (9, u "E"), (3, u "PI"), (2, u "TAU"), (2, u "DEGREES_TO_RADIANS"), (0, u "RADIANS_TO_DEGREES")] 94

def k17m0 : Method := ⟨"<init>", "()V", ⟨[], none⟩, 2, none⟩
def k17c1 : Code := ⟨2, 2, jdk_29_method_69_code, #[], #[]⟩
def k17m1 : Method := ⟨"min", "(II)I", ⟨[.int, .int], some .int⟩, 9, some k17c1⟩
/-- java/lang/Math -/
def k17 : Class := { plain "java/lang/Math" (some 0) with
  accessFlags := 49
  cf := some (fileOf pool17 1 #[.nestMembers #[98]] #[⟨2, 7, 8, #[]⟩, ⟨9, 201, 335, #[]⟩] 49 4 #[] #[⟨25, 354, 339, #[]⟩, ⟨25, 358, 339, #[]⟩, ⟨25, 361, 339, #[]⟩, ⟨26, 364, 339, #[]⟩, ⟨26, 365, 339, #[]⟩, ⟨26, 172, 173, #[]⟩, ⟨26, 176, 173, #[]⟩, ⟨8, 344, 339, #[]⟩, ⟨8, 338, 339, #[]⟩, ⟨4120, 245, 246, #[]⟩])
  fields := #[⟨"E", .double, 25, 0, 0⟩, ⟨"PI", .double, 25, 1, 0⟩, ⟨"TAU", .double, 25, 2, 0⟩, ⟨"DEGREES_TO_RADIANS", .double, 26, 3, 0⟩, ⟨"RADIANS_TO_DEGREES", .double, 26, 4, 0⟩, ⟨"negativeZeroFloatBits", .long, 26, 5, 0⟩, ⟨"negativeZeroDoubleBits", .long, 26, 6, 0⟩, ⟨"twoToTheDoubleScaleUp", .double, 8, 7, 0⟩, ⟨"twoToTheDoubleScaleDown", .double, 8, 8, 0⟩, ⟨"$assertionsDisabled", .boolean, 4120, 9, 0⟩]
  methods := #[k17m0, k17m1]
  staticTypes := #[.double, .double, .double, .double, .double, .long, .long, .double, .double, .boolean]
  resolved := Array.replicate 460 none }

def pool18 : Array CpInfo := pool [(1, .class_ 2), (0, u "java/lang/String"), (1, .class_ 6), (1, u "java/lang/Object"), (0, u "<init>"), (0, u "()V"), (0, .methodref 1 10), (0, .nameAndType 11 12), (0, u "checkIndex"), (0, u "(II)V"), (1, .class_ 16), (1, u "java/lang/StringLatin1"), (0, u "inflate"), (2, .class_ 22), (1, u "java/lang/StringUTF16"), (3, .nameAndType 17 27), (0, u "([BI[BII)V"), (25, u "([BI)C"), (67, u "$assertionsDisabled"), (0, u "Z"), (98, .class_ 223), (1, u "java/lang/StringLatin1$LinesSpliterator"), (16, .methodref 20 26), (11, u "charAt"), (137, .class_ 391), (0, u "java/lang/StringLatin1$CharsSpliterator")] 3

def k18m0 : Method := ⟨"<init>", "()V", ⟨[], none⟩, 0, none⟩
def k18c1 : Code := ⟨2, 2, jdk_43_method_2_code, #[], #[]⟩
def k18m1 : Method := ⟨"charAt", "([BI)C", ⟨[(.array .byte), .int], some .char⟩, 9, some k18c1⟩
def k18c2 : Code := ⟨5, 5, jdk_43_method_50_code, #[], #[]⟩
def k18m2 : Method := ⟨"inflate", "([BI[BII)V", ⟨[(.array .byte), .int, (.array .byte), .int, .int], none⟩, 9, some k18c2⟩
/-- java/lang/StringLatin1 -/
def k18 : Class := { plain "java/lang/StringLatin1" (some 0) with
  accessFlags := 48
  cf := some (fileOf pool18 14 #[.nestMembers #[390, 221]] #[⟨0, 7, 8, #[]⟩, ⟨9, 252, 53, #[]⟩, ⟨9, 17, 27, #[]⟩] 48 4 #[] #[⟨4120, 121, 122, #[]⟩])
  fields := #[⟨"$assertionsDisabled", .boolean, 4120, 0, 0⟩]
  methods := #[k18m0, k18m1, k18m2]
  staticTypes := #[.boolean]
  resolved := Array.replicate 395 none }

def pool19 : Array CpInfo := pool [(2, .class_ 4), (1, u "java/lang/Object"), (0, u "<init>"), (0, u "()V"), (17, .class_ 26), (1, u "jdk/internal/util/Preconditions"), (6, u "checkIndex"), (15, u "checkFromIndexSize"), (5, .class_ 56), (0, u "jdk/internal/util/Preconditions$4"), (57, .class_ 115), (0, u "jdk/internal/util/Preconditions$1"), (7, u "SIOOBE_FORMATTER"), (0, u "Ljava/util/function/BiFunction;"), (0, .class_ 126), (0, u "jdk/internal/util/Preconditions$2"), (3, u "AIOOBE_FORMATTER"), (0, .class_ 132), (0, u "jdk/internal/util/Preconditions$3"), (3, u "IOOBE_FORMATTER"), (41, u "(IILjava/util/function/BiFunction;)I"), (4, u "(IIILjava/util/function/BiFunction;)I")] 10

def k19m0 : Method := ⟨"<init>", "()V", ⟨[], none⟩, 1, none⟩
def k19c1 : Code := ⟨3, 3, jdk_41_method_11_code, #[], #[]⟩
def k19m1 : Method := ⟨"checkIndex", "(IILjava/util/function/BiFunction;)I", ⟨[.int, .int, (.object "java/util/function/BiFunction")], some .int⟩, 9, some k19c1⟩
def k19c2 : Code := ⟨4, 4, jdk_41_method_13_code, #[], #[]⟩
def k19m2 : Method := ⟨"checkFromIndexSize", "(IIILjava/util/function/BiFunction;)I", ⟨[.int, .int, .int, (.object "java/util/function/BiFunction")], some .int⟩, 9, some k19c2⟩
/-- jdk/internal/util/Preconditions -/
def k19 : Class := { plain "jdk/internal/util/Preconditions" (some 0) with
  cf := some (fileOf pool19 24 #[.nestMembers #[55, 131, 125, 114]] #[⟨1, 5, 6, #[]⟩, ⟨9, 33, 178, #[]⟩, ⟨9, 49, 183, #[]⟩] 33 2 #[] #[⟨25, 123, 124, #[]⟩, ⟨25, 130, 124, #[]⟩, ⟨25, 136, 124, #[]⟩])
  fields := #[⟨"SIOOBE_FORMATTER", (.object "java/util/function/BiFunction"), 25, 0, 0⟩, ⟨"AIOOBE_FORMATTER", (.object "java/util/function/BiFunction"), 25, 1, 0⟩, ⟨"IOOBE_FORMATTER", (.object "java/util/function/BiFunction"), 25, 2, 0⟩]
  methods := #[k19m0, k19m1, k19m2]
  staticTypes := #[(.object "java/util/function/BiFunction"), (.object "java/util/function/BiFunction"), (.object "java/util/function/BiFunction")]
  resolved := Array.replicate 194 none
  statics := some 1 }

def pool20 : Array CpInfo := pool [(3, .class_ 4), (0, u "java/lang/String"), (1, .class_ 8), (1, u "java/lang/Object"), (0, u "<init>"), (0, u "()V"), (0, .methodref 12 13), (0, .class_ 14), (0, .nameAndType 15 16), (0, u "java/lang/StringUTF16"), (0, u "newBytesLength"), (0, u "(I)I"), (3, .integer 1073741823), (23, .fieldref 12 45), (0, .nameAndType 46 47), (0, u "$assertionsDisabled"), (0, u "Z"), (0, .methodref 12 49), (0, .nameAndType 50 51), (0, u "length"), (0, u "([B)I"), (7, .fieldref 12 60), (0, .nameAndType 61 62), (0, u "HI_BYTE_SHIFT"), (0, u "I"), (0, .fieldref 12 64), (0, .nameAndType 65 62), (0, u "LO_BYTE_SHIFT"), (1, .methodref 12 68), (0, .nameAndType 69 70), (0, u "checkIndex"), (0, u "(I[B)V"), (0, .methodref 12 72), (0, .nameAndType 73 74), (0, u "getChar"), (0, u "([BI)C"), (24, u "(II[B)V"), (7, .methodref 12 108), (0, .nameAndType 109 110), (0, u "newBytesFor"), (0, u "(I)[B"), (0, .methodref 12 112), (0, .nameAndType 113 114), (0, u "putChar"), (0, u "([BII)V"), (0, .methodref 12 116), (0, .nameAndType 117 118), (0, u "compress"), (0, u "([CI[BII)I"), (0, .methodref 12 120), (0, .nameAndType 121 122), (0, u "toBytes"), (0, u "([CII)[B"), (17, u "inflate"), (0, u "([BI[BII)V"), (31, .methodref 12 174), (0, .nameAndType 175 99), (0, u "checkBoundsOffCount"), (85, u "coderFromArrayLen"), (0, u "([BI)B"), (18, u "(III)I"), (87, .class_ 371), (1, u "java/lang/StringUTF16$LinesSpliterator"), (20, u "charAt"), (21, .methodref 3 415), (0, .nameAndType 69 416), (0, u "(II)V"), (2, .methodref 3 420), (0, .nameAndType 175 281), (9, u "MAX_LENGTH"), (196, .class_ 628), (0, u "java/lang/StringUTF16$CodePointsSpliterator"), (0, .class_ 630), (0, u "java/lang/StringUTF16$CharsSpliterator")] 4

def k20m0 : Method := ⟨"<init>", "()V", ⟨[], none⟩, 0, none⟩
def k20c1 : Code := ⟨1, 1, jdk_52_method_2_code, #[], #[]⟩
def k20m1 : Method := ⟨"newBytesFor", "(I)[B", ⟨[.int], some (.array .byte)⟩, 9, some k20c1⟩
def k20c2 : Code := ⟨4, 1, jdk_52_method_3_code, #[], #[]⟩
def k20m2 : Method := ⟨"newBytesLength", "(I)I", ⟨[.int], some .int⟩, 9, some k20c2⟩
def k20c3 : Code := ⟨4, 3, jdk_52_method_4_code, #[], #[]⟩
def k20m3 : Method := ⟨"putChar", "([BII)V", ⟨[(.array .byte), .int, .int], none⟩, 8, some k20c3⟩
def k20c4 : Code := ⟨3, 2, jdk_52_method_5_code, #[], #[]⟩
def k20m4 : Method := ⟨"getChar", "([BI)C", ⟨[(.array .byte), .int], some .char⟩, 8, some k20c4⟩
def k20c5 : Code := ⟨2, 1, jdk_52_method_6_code, #[], #[]⟩
def k20m5 : Method := ⟨"length", "([B)I", ⟨[(.array .byte)], some .int⟩, 9, some k20c5⟩
def k20c6 : Code := ⟨4, 5, jdk_52_method_14_code, #[], #[]⟩
def k20m6 : Method := ⟨"toBytes", "([CII)[B", ⟨[(.array .char), .int, .int], some (.array .byte)⟩, 9, some k20c6⟩
def k20c7 : Code := ⟨2, 2, jdk_52_method_15_code, #[], #[]⟩
def k20m7 : Method := ⟨"coderFromArrayLen", "([BI)B", ⟨[(.array .byte), .int], some .byte⟩, 8, some k20c7⟩
def k20c8 : Code := ⟨5, 6, jdk_52_method_16_code, #[], #[]⟩
def k20m8 : Method := ⟨"compress", "([CII)[B", ⟨[(.array .char), .int, .int], some (.array .byte)⟩, 9, some k20c8⟩
def k20c9 : Code := ⟨3, 7, jdk_52_method_21_code, #[], #[]⟩
def k20m9 : Method := ⟨"compress", "([CI[BII)I", ⟨[(.array .char), .int, (.array .byte), .int, .int], some .int⟩, 9, some k20c9⟩
def k20c10 : Code := ⟨2, 2, jdk_52_method_83_code, #[], #[]⟩
def k20m10 : Method := ⟨"charAt", "([BI)C", ⟨[(.array .byte), .int], some .char⟩, 9, some k20c10⟩
def k20c11 : Code := ⟨4, 6, jdk_52_method_86_code, #[], #[]⟩
def k20m11 : Method := ⟨"inflate", "([BI[BII)V", ⟨[(.array .byte), .int, (.array .byte), .int, .int], none⟩, 9, some k20c11⟩
def k20c12 : Code := ⟨2, 2, jdk_52_method_91_code, #[], #[]⟩
def k20m12 : Method := ⟨"checkIndex", "(I[B)V", ⟨[.int, (.array .byte)], none⟩, 9, some k20c12⟩
def k20c13 : Code := ⟨3, 3, jdk_52_method_94_code, #[], #[]⟩
def k20m13 : Method := ⟨"checkBoundsOffCount", "(II[B)V", ⟨[.int, .int, (.array .byte)], none⟩, 9, some k20c13⟩
/-- java/lang/StringUTF16 -/
def k20 : Class := { plain "java/lang/StringUTF16" (some 0) with
  accessFlags := 48
  cf := some (fileOf pool20 12 #[.nestMembers #[627, 629, 369]] #[⟨0, 9, 10, #[]⟩, ⟨9, 109, 110, #[]⟩, ⟨9, 15, 16, #[]⟩, ⟨8, 113, 114, #[]⟩, ⟨8, 73, 74, #[]⟩, ⟨9, 50, 51, #[]⟩, ⟨9, 121, 122, #[]⟩, ⟨8, 261, 262, #[]⟩, ⟨9, 117, 122, #[]⟩, ⟨9, 117, 118, #[]⟩, ⟨9, 392, 74, #[]⟩, ⟨9, 140, 141, #[]⟩, ⟨9, 69, 70, #[]⟩, ⟨9, 175, 99, #[]⟩] 48 6 #[] #[⟨26, 61, 62, #[]⟩, ⟨26, 65, 62, #[]⟩, ⟨24, 430, 62, #[]⟩, ⟨4120, 46, 47, #[]⟩])
  fields := #[⟨"HI_BYTE_SHIFT", .int, 26, 0, 0⟩, ⟨"LO_BYTE_SHIFT", .int, 26, 1, 0⟩, ⟨"MAX_LENGTH", .int, 24, 2, 0⟩, ⟨"$assertionsDisabled", .boolean, 4120, 3, 0⟩]
  methods := #[k20m0, k20m1, k20m2, k20m3, k20m4, k20m5, k20m6, k20m7, k20m8, k20m9, k20m10, k20m11, k20m12, k20m13]
  staticTypes := #[.int, .int, .int, .boolean]
  resolved := Array.replicate 635 none
  statics := some 2 }

def pool21 : Array CpInfo := pool [(9, u "<init>"), (6, .class_ 18), (1, u "java/lang/Object"), (0, u "()V"), (1, .class_ 23), (1, u "jdk/internal/util/ArraysSupport"), (0, u "LOG2_ARRAY_LONG_INDEX_SCALE"), (0, u "I"), (2, u "U"), (0, u "Ljdk/internal/misc/Unsafe;"), (8, u "BIG_ENDIAN"), (0, u "Z"), (8, u "LOG2_BYTE_BIT_SIZE"), (4, u "LOG2_ARRAY_INT_INDEX_SCALE"), (54, u "JLA"), (0, u "Ljdk/internal/access/JavaLangAccess;"), (11, u "LOG2_ARRAY_BOOLEAN_INDEX_SCALE"), (9, u "LOG2_ARRAY_BYTE_INDEX_SCALE"), (5, u "LOG2_ARRAY_CHAR_INDEX_SCALE"), (5, u "LOG2_ARRAY_SHORT_INDEX_SCALE"), (18, u "LOG2_ARRAY_FLOAT_INDEX_SCALE"), (24, u "LOG2_ARRAY_DOUBLE_INDEX_SCALE"), (89, u "T_BOOLEAN"), (2, u "T_CHAR"), (1, u "T_FLOAT"), (1, u "T_DOUBLE"), (1, u "T_BYTE"), (1, u "T_SHORT"), (1, u "T_INT"), (1, u "T_LONG"), (1, u "SOFT_MAX_ARRAY_LENGTH")] 83

def k21m0 : Method := ⟨"<init>", "()V", ⟨[], none⟩, 2, none⟩
/-- jdk/internal/util/ArraysSupport -/
def k21 : Class := { plain "jdk/internal/util/ArraysSupport" (some 0) with
  cf := some (fileOf pool21 21 #[] #[⟨2, 9, 19, #[]⟩] 33 16 #[] #[⟨24, 28, 29, #[]⟩, ⟨26, 38, 39, #[]⟩, ⟨25, 121, 25, #[]⟩, ⟨25, 131, 25, #[]⟩, ⟨25, 137, 25, #[]⟩, ⟨25, 143, 25, #[]⟩, ⟨25, 53, 25, #[]⟩, ⟨25, 24, 25, #[]⟩, ⟨25, 162, 25, #[]⟩, ⟨25, 187, 25, #[]⟩, ⟨26, 48, 25, #[]⟩, ⟨25, 277, 25, #[]⟩, ⟨25, 280, 25, #[]⟩, ⟨25, 282, 25, #[]⟩, ⟨25, 284, 25, #[]⟩, ⟨25, 286, 25, #[]⟩, ⟨25, 288, 25, #[]⟩, ⟨25, 290, 25, #[]⟩, ⟨25, 292, 25, #[]⟩, ⟨26, 108, 109, #[]⟩, ⟨25, 294, 25, #[]⟩])
  fields := #[⟨"U", (.object "jdk/internal/misc/Unsafe"), 24, 0, 0⟩, ⟨"BIG_ENDIAN", .boolean, 26, 1, 0⟩, ⟨"LOG2_ARRAY_BOOLEAN_INDEX_SCALE", .int, 25, 2, 0⟩, ⟨"LOG2_ARRAY_BYTE_INDEX_SCALE", .int, 25, 3, 0⟩, ⟨"LOG2_ARRAY_CHAR_INDEX_SCALE", .int, 25, 4, 0⟩, ⟨"LOG2_ARRAY_SHORT_INDEX_SCALE", .int, 25, 5, 0⟩, ⟨"LOG2_ARRAY_INT_INDEX_SCALE", .int, 25, 6, 0⟩, ⟨"LOG2_ARRAY_LONG_INDEX_SCALE", .int, 25, 7, 0⟩, ⟨"LOG2_ARRAY_FLOAT_INDEX_SCALE", .int, 25, 8, 0⟩, ⟨"LOG2_ARRAY_DOUBLE_INDEX_SCALE", .int, 25, 9, 0⟩, ⟨"LOG2_BYTE_BIT_SIZE", .int, 26, 10, 0⟩, ⟨"T_BOOLEAN", .int, 25, 11, 0⟩, ⟨"T_CHAR", .int, 25, 12, 0⟩, ⟨"T_FLOAT", .int, 25, 13, 0⟩, ⟨"T_DOUBLE", .int, 25, 14, 0⟩, ⟨"T_BYTE", .int, 25, 15, 0⟩, ⟨"T_SHORT", .int, 25, 16, 0⟩, ⟨"T_INT", .int, 25, 17, 0⟩, ⟨"T_LONG", .int, 25, 18, 0⟩, ⟨"JLA", (.object "jdk/internal/access/JavaLangAccess"), 26, 19, 0⟩, ⟨"SOFT_MAX_ARRAY_LENGTH", .int, 25, 20, 0⟩]
  methods := #[k21m0]
  staticTypes := #[(.object "jdk/internal/misc/Unsafe"), .boolean, .int, .int, .int, .int, .int, .int, .int, .int, .int, .int, .int, .int, .int, .int, .int, .int, .int, (.object "jdk/internal/access/JavaLangAccess"), .int]
  resolved := Array.replicate 378 none }

def pool22 : Array CpInfo := pool [(1, u "java/lang/Cloneable"), (0, .class_ 1), (0, u "java/lang/Object"), (0, .class_ 3)] 3

/-- java/lang/Cloneable -/
def k22 : Class := { plain "java/lang/Cloneable" (some 0) with
  accessFlags := 1537
  cf := some (fileOf pool22 2 #[] #[] 1537 4 #[] #[])
  resolved := Array.replicate 8 none }

/-- the primitive byte -/
def k23 : Class := { plain "byte" none with kind := .primitive 'B', accessFlags := 0x411 }
/-- [B -/
def k24 : Class := { plain "[B" (some 0) with kind := .array 23 .byte, interfaces := #[22, 2], accessFlags := 1041 }

/-- the primitive char -/
def k25 : Class := { plain "char" none with kind := .primitive 'C', accessFlags := 0x411 }
/-- [C -/
def k26 : Class := { plain "[C" (some 0) with kind := .array 25 .char, interfaces := #[22, 2], accessFlags := 1041 }

/-- the primitive int -/
def k27 : Class := { plain "int" none with kind := .primitive 'I', accessFlags := 0x411 }
/-- [I -/
def k28 : Class := { plain "[I" (some 0) with kind := .array 27 .int, interfaces := #[22, 2], accessFlags := 1041 }

def heap : Heap := #[{ cls := 7, slots := #[.long 0, .int 1, .null, .int 0, .null, .int 0, .int 0], vm := .statics 7 },
  { cls := 19, slots := #[.null, .null, .null], vm := .statics 19 },
  { cls := 20, slots := #[.int 0, .int 8, .int 0, .int 1], vm := .statics 20 }]
def classes : Array Class := #[k0, k1, k2, k3, k4, k5, k6, k7, k8, k9, k10, k11, k12, k13, k14, k15, k16, k17, k18, k19, k20, k21, k22, k23, k24, k25, k26, k27, k28]
def interned : List (Array UInt16 × Addr) := []
def slotsUsed : Nat := 14
def theMethod : MethodId := ⟨1, 1⟩
def args0 : Array Value := #[.int 2, .int 65, .int 300, .int 5]
def aboutOver (below : List Frame) : State where
  vm := { classes := classes, interned := interned.toArray }
  heap := heap
  slotsUsed := slotsUsed
  threads := #[{ frames := .invoking theMethod args0 :: below }]
def below0 : List Frame := [.native { method := ⟨0, 0⟩, args := #[] }]
def about1 : State := aboutOver below0
def p0 : Program := .bare "" "" ""
def e0 : Env := launch0.env 0 0 0
theorem w_frames : about1.frames = Frame.invoking theMethod args0 :: below0 := rfl
theorem w_args : argsFit about1.vm theMethod args0 = true := by decide +kernel
theorem w_heap : heapFits about1 = true := by decide +kernel
theorem w_runnable : about1.curStatus? = some .runnable := by decide +kernel
theorem w_alone : about1.alone = true := by decide +kernel
theorem w_named : about1.methodNamed? x = some theMethod := by decide +kernel
theorem w_hears : about1.hears theMethod below0 = true := by decide +kernel
theorem w_ripe : about1.ripe theMethod args0 below0 = true := by decide +kernel
theorem w_running : about1.status = .running := rfl
theorem w_room : about1.hasRoom e0.platform room_1 = true :=
  launch0.hasRoom_least _ room_1 (by decide +kernel) (by decide +kernel) (by decide +kernel) (by decide +kernel) (by decide +kernel) (by decide +kernel)
theorem allAtoms_all (ts : List Jvm.Cond) (a : Array Jvm.Value) (st : Jvm.State) : (allAtoms ts).before a st = ts.all (fun c => c.before a st) := by
  induction ts with
  | nil => rfl
  | cons c t ih =>
    show (Jvm.Cond.and c (allAtoms t)).before a st = _
    rw [Jvm.Cond.before_and, ih, List.all_cons]
def words1 : List Jvm.Cond := Jvm.Cond.code x code maxLocals ret :: tables_1
/-- a 'code' word, met by the world's own term for the bytes: nothing is compared byte by byte -/
theorem code_word {y : MethodName} {bytes : ByteArray} {mx : Nat} {rt : Option FieldType} {a : Array Value} {s : State} {m : MethodId} {meth : Method} {c : Code} (h1 : s.methodNamed? y = some m) (h2 : s.vm.method? m = some meth) (h3 : meth.code = some c) (h4 : c.code = bytes)
    (h5 : (c.maxLocals == mx && c.exceptionTable.isEmpty && decide (c.maxStack ≤ mostOperands) && decide (meth.sig.returnType = rt) && !meth.locks && decide (parseMethodDescriptor y.desc = some meth.sig)) = true) : (Jvm.Cond.code y bytes mx rt).before a s = true := by
  simp only [Bool.and_eq_true, beq_iff_eq, Bool.not_eq_true', decide_eq_true_eq] at h5
  obtain ⟨⟨⟨⟨⟨g1, g2⟩, g3⟩, g4⟩, g5⟩, g6⟩ := h5
  simp [Cond.before, Cond.holds, Cond.value, h1, h2, h3, h4, g1, g2, g3, g4, g5, g6]
def isCode : Jvm.Cond → Bool
  | .code _ _ _ _ => true
  | _ => false
theorem all_split {L : List Jvm.Cond} {P : Jvm.Cond → Bool} (h1 : L.all (fun c => isCode c || P c) = true) (h2 : ∀ c ∈ L.filter isCode, P c = true) : L.all P = true := by
  refine List.all_eq_true.mpr fun c hc => ?_
  have h := List.all_eq_true.mp h1 c hc
  rcases Bool.eq_false_or_eq_true (isCode c) with hi | hi
  · exact h2 c (List.mem_filter.mpr ⟨hc, hi⟩)
  · simpa [hi] using h
theorem w_c0 : (Jvm.Cond.code x code maxLocals ret).before args0 about1 = true := code_word (m := ⟨1, 1⟩) (meth := k1m1) (c := k1c1) (by decide +kernel) rfl rfl rfl (by decide +kernel)
theorem w_c1 : (Jvm.Cond.code (⟨"java/lang/String", "<init>", "([C)V"⟩ : Jvm.MethodName) jdk_42_method_3_code (2 : Nat) (Option.none : Option Jvm.ClassFile.FieldType)).before args0 about1 = true := code_word (m := ⟨7, 1⟩) (meth := k7m1) (c := k7c1) (by decide +kernel) rfl rfl rfl (by decide +kernel)
theorem w_c2 : (Jvm.Cond.code (⟨"java/lang/String", "<init>", "([CIILjava/lang/Void;)V"⟩ : Jvm.MethodName) jdk_42_method_149_code (6 : Nat) (Option.none : Option Jvm.ClassFile.FieldType)).before args0 about1 = true := code_word (m := ⟨7, 6⟩) (meth := k7m6) (c := k7c6) (by decide +kernel) rfl rfl rfl (by decide +kernel)
theorem w_c3 : (Jvm.Cond.code (⟨"java/lang/Object", "<init>", "()V"⟩ : Jvm.MethodName) object_method_1_code (1 : Nat) (Option.none : Option Jvm.ClassFile.FieldType)).before args0 about1 = true := code_word (m := ⟨0, 0⟩) (meth := k0m0) (c := k0c0) (by decide +kernel) rfl rfl rfl (by decide +kernel)
theorem w_c4 : (Jvm.Cond.code (⟨"com/example/manojo/manojo/QueryTree$Parameter", "named", "(Ljava/lang/String;)Lcom/example/manojo/manojo/QueryTree$Parameter;"⟩ : Jvm.MethodName) prog_22_method_2_code (1 : Nat) (Option.some (Jvm.ClassFile.FieldType.object "com/example/manojo/manojo/QueryTree$Parameter"))).before args0 about1 = true := code_word (m := ⟨11, 1⟩) (meth := k11m1) (c := k11c1) (by decide +kernel) rfl rfl rfl (by decide +kernel)
theorem w_c5 : (Jvm.Cond.code (⟨"java/lang/StringBuilder", "<init>", "()V"⟩ : Jvm.MethodName) jdk_67_method_1_code (1 : Nat) (Option.none : Option Jvm.ClassFile.FieldType)).before args0 about1 = true := code_word (m := ⟨14, 0⟩) (meth := k14m0) (c := k14c0) (by decide +kernel) rfl rfl rfl (by decide +kernel)
theorem w_c6 : (Jvm.Cond.code (⟨"java/lang/AbstractStringBuilder", "<init>", "(I)V"⟩ : Jvm.MethodName) jdk_68_method_2_code (2 : Nat) (Option.none : Option Jvm.ClassFile.FieldType)).before args0 about1 = true := code_word (m := ⟨13, 1⟩) (meth := k13m1) (c := k13c1) (by decide +kernel) rfl rfl rfl (by decide +kernel)
theorem w_c7 : (Jvm.Cond.code (⟨"java/lang/StringBuilder", "append", "(Ljava/lang/String;)Ljava/lang/StringBuilder;"⟩ : Jvm.MethodName) jdk_67_method_7_code (2 : Nat) (Option.some (Jvm.ClassFile.FieldType.object "java/lang/StringBuilder"))).before args0 about1 = true := code_word (m := ⟨14, 1⟩) (meth := k14m1) (c := k14c1) (by decide +kernel) rfl rfl rfl (by decide +kernel)
theorem w_c8 : (Jvm.Cond.code (⟨"java/lang/AbstractStringBuilder", "append", "(Ljava/lang/String;)Ljava/lang/AbstractStringBuilder;"⟩ : Jvm.MethodName) jdk_68_method_22_code (3 : Nat) (Option.some (Jvm.ClassFile.FieldType.object "java/lang/AbstractStringBuilder"))).before args0 about1 = true := code_word (m := ⟨13, 5⟩) (meth := k13m5) (c := k13c5) (by decide +kernel) rfl rfl rfl (by decide +kernel)
theorem w_c9 : (Jvm.Cond.code (⟨"java/lang/String", "length", "()I"⟩ : Jvm.MethodName) jdk_42_method_54_code (1 : Nat) (Option.some Jvm.ClassFile.FieldType.int)).before args0 about1 = true := code_word (m := ⟨7, 3⟩) (meth := k7m3) (c := k7c3) (by decide +kernel) rfl rfl rfl (by decide +kernel)
theorem w_c10 : (Jvm.Cond.code (⟨"java/lang/String", "coder", "()B"⟩ : Jvm.MethodName) jdk_42_method_152_code (1 : Nat) (Option.some Jvm.ClassFile.FieldType.byte)).before args0 about1 = true := code_word (m := ⟨7, 8⟩) (meth := k7m8) (c := k7c8) (by decide +kernel) rfl rfl rfl (by decide +kernel)
theorem w_c11 : (Jvm.Cond.code (⟨"java/lang/AbstractStringBuilder", "ensureCapacityInternal", "(I)V"⟩ : Jvm.MethodName) jdk_68_method_9_code (3 : Nat) (Option.none : Option Jvm.ClassFile.FieldType)).before args0 about1 = true := code_word (m := ⟨13, 3⟩) (meth := k13m3) (c := k13c3) (by decide +kernel) rfl rfl rfl (by decide +kernel)
theorem w_c12 : (Jvm.Cond.code (⟨"java/lang/AbstractStringBuilder", "putStringAt", "(ILjava/lang/String;)V"⟩ : Jvm.MethodName) jdk_68_method_73_code (3 : Nat) (Option.none : Option Jvm.ClassFile.FieldType)).before args0 about1 = true := code_word (m := ⟨13, 9⟩) (meth := k13m9) (c := k13c9) (by decide +kernel) rfl rfl rfl (by decide +kernel)
theorem w_c13 : (Jvm.Cond.code (⟨"java/lang/AbstractStringBuilder", "inflateIfNeededFor", "(Ljava/lang/String;)V"⟩ : Jvm.MethodName) jdk_68_method_71_code (2 : Nat) (Option.none : Option Jvm.ClassFile.FieldType)).before args0 about1 = true := code_word (m := ⟨13, 8⟩) (meth := k13m8) (c := k13c8) (by decide +kernel) rfl rfl rfl (by decide +kernel)
theorem w_c14 : (Jvm.Cond.code (⟨"java/lang/String", "getBytes", "([BIB)V"⟩ : Jvm.MethodName) jdk_42_method_147_code (4 : Nat) (Option.none : Option Jvm.ClassFile.FieldType)).before args0 about1 = true := code_word (m := ⟨7, 5⟩) (meth := k7m5) (c := k7c5) (by decide +kernel) rfl rfl rfl (by decide +kernel)
theorem w_c15 : (Jvm.Cond.code (⟨"java/lang/StringBuilder", "toString", "()Ljava/lang/String;"⟩ : Jvm.MethodName) jdk_67_method_42_code (1 : Nat) (Option.some (Jvm.ClassFile.FieldType.object "java/lang/String"))).before args0 about1 = true := code_word (m := ⟨14, 2⟩) (meth := k14m2) (c := k14c2) (by decide +kernel) rfl rfl rfl (by decide +kernel)
theorem w_c16 : (Jvm.Cond.code (⟨"java/lang/String", "<init>", "(Ljava/lang/StringBuilder;)V"⟩ : Jvm.MethodName) jdk_42_method_53_code (2 : Nat) (Option.none : Option Jvm.ClassFile.FieldType)).before args0 about1 = true := code_word (m := ⟨7, 2⟩) (meth := k7m2) (c := k7c2) (by decide +kernel) rfl rfl rfl (by decide +kernel)
theorem w_c17 : (Jvm.Cond.code (⟨"java/lang/String", "<init>", "(Ljava/lang/AbstractStringBuilder;Ljava/lang/Void;)V"⟩ : Jvm.MethodName) jdk_42_method_150_code (5 : Nat) (Option.none : Option Jvm.ClassFile.FieldType)).before args0 about1 = true := code_word (m := ⟨7, 7⟩) (meth := k7m7) (c := k7c7) (by decide +kernel) rfl rfl rfl (by decide +kernel)
theorem w_c18 : (Jvm.Cond.code (⟨"java/lang/AbstractStringBuilder", "getValue", "()[B"⟩ : Jvm.MethodName) jdk_68_method_64_code (1 : Nat) (Option.some (Jvm.ClassFile.FieldType.array Jvm.ClassFile.FieldType.byte))).before args0 about1 = true := code_word (m := ⟨13, 6⟩) (meth := k13m6) (c := k13c6) (by decide +kernel) rfl rfl rfl (by decide +kernel)
theorem w_c19 : (Jvm.Cond.code (⟨"java/lang/StringBuilder", "length", "()I"⟩ : Jvm.MethodName) jdk_67_method_93_code (1 : Nat) (Option.some Jvm.ClassFile.FieldType.int)).before args0 about1 = true := code_word (m := ⟨14, 3⟩) (meth := k14m3) (c := k14c3) (by decide +kernel) rfl rfl rfl (by decide +kernel)
theorem w_c20 : (Jvm.Cond.code (⟨"java/lang/AbstractStringBuilder", "length", "()I"⟩ : Jvm.MethodName) jdk_68_method_6_code (1 : Nat) (Option.some Jvm.ClassFile.FieldType.int)).before args0 about1 = true := code_word (m := ⟨13, 2⟩) (meth := k13m2) (c := k13c2) (by decide +kernel) rfl rfl rfl (by decide +kernel)
theorem w_c21 : (Jvm.Cond.code (⟨"java/lang/AbstractStringBuilder", "isLatin1", "()Z"⟩ : Jvm.MethodName) jdk_68_method_68_code (1 : Nat) (Option.some Jvm.ClassFile.FieldType.boolean)).before args0 about1 = true := code_word (m := ⟨13, 7⟩) (meth := k13m7) (c := k13c7) (by decide +kernel) rfl rfl rfl (by decide +kernel)
theorem w_c22 : (Jvm.Cond.code (⟨"java/util/Arrays", "copyOfRange", "([BII)[B"⟩ : Jvm.MethodName) jdk_65_method_132_code (3 : Nat) (Option.some (Jvm.ClassFile.FieldType.array Jvm.ClassFile.FieldType.byte))).before args0 about1 = true := code_word (m := ⟨16, 2⟩) (meth := k16m2) (c := k16c2) (by decide +kernel) rfl rfl rfl (by decide +kernel)
theorem w_c23 : (Jvm.Cond.code (⟨"java/util/Arrays", "copyOfRangeByte", "([BII)[B"⟩ : Jvm.MethodName) jdk_65_method_133_code (5 : Nat) (Option.some (Jvm.ClassFile.FieldType.array Jvm.ClassFile.FieldType.byte))).before args0 about1 = true := code_word (m := ⟨16, 3⟩) (meth := k16m3) (c := k16c3) (by decide +kernel) rfl rfl rfl (by decide +kernel)
theorem w_c24 : (Jvm.Cond.code (⟨"java/util/Arrays", "checkLength", "(II)V"⟩ : Jvm.MethodName) jdk_65_method_131_code (2 : Nat) (Option.none : Option Jvm.ClassFile.FieldType)).before args0 about1 = true := code_word (m := ⟨16, 1⟩) (meth := k16m1) (c := k16c1) (by decide +kernel) rfl rfl rfl (by decide +kernel)
theorem w_c25 : (Jvm.Cond.code (⟨"java/lang/Math", "min", "(II)I"⟩ : Jvm.MethodName) jdk_29_method_69_code (2 : Nat) (Option.some Jvm.ClassFile.FieldType.int)).before args0 about1 = true := code_word (m := ⟨17, 1⟩) (meth := k17m1) (c := k17c1) (by decide +kernel) rfl rfl rfl (by decide +kernel)
theorem w_c26 : (Jvm.Cond.code (⟨"com/example/manojo/manojo/QueryTree$Parameter", "<init>", "(Ljava/lang/String;)V"⟩ : Jvm.MethodName) prog_22_method_1_code (2 : Nat) (Option.none : Option Jvm.ClassFile.FieldType)).before args0 about1 = true := code_word (m := ⟨11, 0⟩) (meth := k11m0) (c := k11c0) (by decide +kernel) rfl rfl rfl (by decide +kernel)
theorem w_c27 : (Jvm.Cond.code (⟨"java/lang/Record", "<init>", "()V"⟩ : Jvm.MethodName) jdk_30_method_1_code (1 : Nat) (Option.none : Option Jvm.ClassFile.FieldType)).before args0 about1 = true := code_word (m := ⟨8, 0⟩) (meth := k8m0) (c := k8c0) (by decide +kernel) rfl rfl rfl (by decide +kernel)
theorem w_c28 : (Jvm.Cond.code (⟨"com/example/manojo/manojo/QueryTree$Parameter", "name", "()Ljava/lang/String;"⟩ : Jvm.MethodName) prog_22_method_7_code (1 : Nat) (Option.some (Jvm.ClassFile.FieldType.object "java/lang/String"))).before args0 about1 = true := code_word (m := ⟨11, 2⟩) (meth := k11m2) (c := k11c2) (by decide +kernel) rfl rfl rfl (by decide +kernel)
theorem w_c29 : (Jvm.Cond.code (⟨"java/lang/String", "charAt", "(I)C"⟩ : Jvm.MethodName) jdk_42_method_56_code (2 : Nat) (Option.some Jvm.ClassFile.FieldType.char)).before args0 about1 = true := code_word (m := ⟨7, 4⟩) (meth := k7m4) (c := k7c4) (by decide +kernel) rfl rfl rfl (by decide +kernel)
theorem w_c30 : (Jvm.Cond.code (⟨"java/lang/String", "isLatin1", "()Z"⟩ : Jvm.MethodName) jdk_42_method_154_code (1 : Nat) (Option.some Jvm.ClassFile.FieldType.boolean)).before args0 about1 = true := code_word (m := ⟨7, 9⟩) (meth := k7m9) (c := k7c9) (by decide +kernel) rfl rfl rfl (by decide +kernel)
theorem w_c31 : (Jvm.Cond.code (⟨"java/lang/StringLatin1", "charAt", "([BI)C"⟩ : Jvm.MethodName) jdk_43_method_2_code (2 : Nat) (Option.some Jvm.ClassFile.FieldType.char)).before args0 about1 = true := code_word (m := ⟨18, 1⟩) (meth := k18m1) (c := k18c1) (by decide +kernel) rfl rfl rfl (by decide +kernel)
theorem w_c32 : (Jvm.Cond.code (⟨"java/lang/String", "checkIndex", "(II)V"⟩ : Jvm.MethodName) jdk_42_method_155_code (2 : Nat) (Option.none : Option Jvm.ClassFile.FieldType)).before args0 about1 = true := code_word (m := ⟨7, 10⟩) (meth := k7m10) (c := k7c10) (by decide +kernel) rfl rfl rfl (by decide +kernel)
theorem w_c33 : (Jvm.Cond.code (⟨"jdk/internal/util/Preconditions", "checkIndex", "(IILjava/util/function/BiFunction;)I"⟩ : Jvm.MethodName) jdk_41_method_11_code (3 : Nat) (Option.some Jvm.ClassFile.FieldType.int)).before args0 about1 = true := code_word (m := ⟨19, 1⟩) (meth := k19m1) (c := k19c1) (by decide +kernel) rfl rfl rfl (by decide +kernel)
theorem w_c34 : (Jvm.Cond.code (⟨"java/lang/StringUTF16", "compress", "([CII)[B"⟩ : Jvm.MethodName) jdk_52_method_16_code (6 : Nat) (Option.some (Jvm.ClassFile.FieldType.array Jvm.ClassFile.FieldType.byte))).before args0 about1 = true := code_word (m := ⟨20, 8⟩) (meth := k20m8) (c := k20c8) (by decide +kernel) rfl rfl rfl (by decide +kernel)
theorem w_c35 : (Jvm.Cond.code (⟨"java/lang/StringUTF16", "compress", "([CI[BII)I"⟩ : Jvm.MethodName) jdk_52_method_21_code (7 : Nat) (Option.some Jvm.ClassFile.FieldType.int)).before args0 about1 = true := code_word (m := ⟨20, 9⟩) (meth := k20m9) (c := k20c9) (by decide +kernel) rfl rfl rfl (by decide +kernel)
theorem w_c36 : (Jvm.Cond.code (⟨"java/lang/StringUTF16", "coderFromArrayLen", "([BI)B"⟩ : Jvm.MethodName) jdk_52_method_15_code (2 : Nat) (Option.some Jvm.ClassFile.FieldType.byte)).before args0 about1 = true := code_word (m := ⟨20, 7⟩) (meth := k20m7) (c := k20c7) (by decide +kernel) rfl rfl rfl (by decide +kernel)
theorem w_c37 : (Jvm.Cond.code (⟨"java/lang/StringUTF16", "toBytes", "([CII)[B"⟩ : Jvm.MethodName) jdk_52_method_14_code (5 : Nat) (Option.some (Jvm.ClassFile.FieldType.array Jvm.ClassFile.FieldType.byte))).before args0 about1 = true := code_word (m := ⟨20, 6⟩) (meth := k20m6) (c := k20c6) (by decide +kernel) rfl rfl rfl (by decide +kernel)
theorem w_c38 : (Jvm.Cond.code (⟨"java/lang/StringUTF16", "newBytesFor", "(I)[B"⟩ : Jvm.MethodName) jdk_52_method_2_code (1 : Nat) (Option.some (Jvm.ClassFile.FieldType.array Jvm.ClassFile.FieldType.byte))).before args0 about1 = true := code_word (m := ⟨20, 1⟩) (meth := k20m1) (c := k20c1) (by decide +kernel) rfl rfl rfl (by decide +kernel)
theorem w_c39 : (Jvm.Cond.code (⟨"java/lang/StringUTF16", "newBytesLength", "(I)I"⟩ : Jvm.MethodName) jdk_52_method_3_code (1 : Nat) (Option.some Jvm.ClassFile.FieldType.int)).before args0 about1 = true := code_word (m := ⟨20, 2⟩) (meth := k20m2) (c := k20c2) (by decide +kernel) rfl rfl rfl (by decide +kernel)
theorem w_c40 : (Jvm.Cond.code (⟨"java/lang/StringUTF16", "putChar", "([BII)V"⟩ : Jvm.MethodName) jdk_52_method_4_code (3 : Nat) (Option.none : Option Jvm.ClassFile.FieldType)).before args0 about1 = true := code_word (m := ⟨20, 3⟩) (meth := k20m3) (c := k20c3) (by decide +kernel) rfl rfl rfl (by decide +kernel)
theorem w_c41 : (Jvm.Cond.code (⟨"java/lang/StringUTF16", "getChar", "([BI)C"⟩ : Jvm.MethodName) jdk_52_method_5_code (2 : Nat) (Option.some Jvm.ClassFile.FieldType.char)).before args0 about1 = true := code_word (m := ⟨20, 4⟩) (meth := k20m4) (c := k20c4) (by decide +kernel) rfl rfl rfl (by decide +kernel)
theorem w_c42 : (Jvm.Cond.code (⟨"java/lang/AbstractStringBuilder", "inflate", "()V"⟩ : Jvm.MethodName) jdk_68_method_11_code (2 : Nat) (Option.none : Option Jvm.ClassFile.FieldType)).before args0 about1 = true := code_word (m := ⟨13, 4⟩) (meth := k13m4) (c := k13c4) (by decide +kernel) rfl rfl rfl (by decide +kernel)
theorem w_c43 : (Jvm.Cond.code (⟨"java/lang/StringLatin1", "inflate", "([BI[BII)V"⟩ : Jvm.MethodName) jdk_43_method_50_code (5 : Nat) (Option.none : Option Jvm.ClassFile.FieldType)).before args0 about1 = true := code_word (m := ⟨18, 2⟩) (meth := k18m2) (c := k18c2) (by decide +kernel) rfl rfl rfl (by decide +kernel)
theorem w_c44 : (Jvm.Cond.code (⟨"java/lang/StringUTF16", "inflate", "([BI[BII)V"⟩ : Jvm.MethodName) jdk_52_method_86_code (6 : Nat) (Option.none : Option Jvm.ClassFile.FieldType)).before args0 about1 = true := code_word (m := ⟨20, 11⟩) (meth := k20m11) (c := k20c11) (by decide +kernel) rfl rfl rfl (by decide +kernel)
theorem w_c45 : (Jvm.Cond.code (⟨"java/lang/StringUTF16", "checkBoundsOffCount", "(II[B)V"⟩ : Jvm.MethodName) jdk_52_method_94_code (3 : Nat) (Option.none : Option Jvm.ClassFile.FieldType)).before args0 about1 = true := code_word (m := ⟨20, 13⟩) (meth := k20m13) (c := k20c13) (by decide +kernel) rfl rfl rfl (by decide +kernel)
theorem w_c46 : (Jvm.Cond.code (⟨"java/lang/StringUTF16", "length", "([B)I"⟩ : Jvm.MethodName) jdk_52_method_6_code (1 : Nat) (Option.some Jvm.ClassFile.FieldType.int)).before args0 about1 = true := code_word (m := ⟨20, 5⟩) (meth := k20m5) (c := k20c5) (by decide +kernel) rfl rfl rfl (by decide +kernel)
theorem w_c47 : (Jvm.Cond.code (⟨"java/lang/String", "checkBoundsOffCount", "(III)I"⟩ : Jvm.MethodName) jdk_42_method_157_code (3 : Nat) (Option.some Jvm.ClassFile.FieldType.int)).before args0 about1 = true := code_word (m := ⟨7, 11⟩) (meth := k7m11) (c := k7c11) (by decide +kernel) rfl rfl rfl (by decide +kernel)
theorem w_c48 : (Jvm.Cond.code (⟨"jdk/internal/util/Preconditions", "checkFromIndexSize", "(IIILjava/util/function/BiFunction;)I"⟩ : Jvm.MethodName) jdk_41_method_13_code (4 : Nat) (Option.some Jvm.ClassFile.FieldType.int)).before args0 about1 = true := code_word (m := ⟨19, 2⟩) (meth := k19m2) (c := k19c2) (by decide +kernel) rfl rfl rfl (by decide +kernel)
theorem w_c49 : (Jvm.Cond.code (⟨"java/lang/StringUTF16", "charAt", "([BI)C"⟩ : Jvm.MethodName) jdk_52_method_83_code (2 : Nat) (Option.some Jvm.ClassFile.FieldType.char)).before args0 about1 = true := code_word (m := ⟨20, 10⟩) (meth := k20m10) (c := k20c10) (by decide +kernel) rfl rfl rfl (by decide +kernel)
theorem w_c50 : (Jvm.Cond.code (⟨"java/lang/StringUTF16", "checkIndex", "(I[B)V"⟩ : Jvm.MethodName) jdk_52_method_91_code (2 : Nat) (Option.none : Option Jvm.ClassFile.FieldType)).before args0 about1 = true := code_word (m := ⟨20, 12⟩) (meth := k20m12) (c := k20c12) (by decide +kernel) rfl rfl rfl (by decide +kernel)
def codes1 : List Jvm.Cond := [Jvm.Cond.code x code maxLocals ret, Jvm.Cond.code (⟨"java/lang/String", "<init>", "([C)V"⟩ : Jvm.MethodName) jdk_42_method_3_code (2 : Nat) (Option.none : Option Jvm.ClassFile.FieldType), Jvm.Cond.code (⟨"java/lang/String", "<init>", "([CIILjava/lang/Void;)V"⟩ : Jvm.MethodName) jdk_42_method_149_code (6 : Nat) (Option.none : Option Jvm.ClassFile.FieldType), Jvm.Cond.code (⟨"java/lang/Object", "<init>", "()V"⟩ : Jvm.MethodName) object_method_1_code (1 : Nat) (Option.none : Option Jvm.ClassFile.FieldType), Jvm.Cond.code (⟨"com/example/manojo/manojo/QueryTree$Parameter", "named", "(Ljava/lang/String;)Lcom/example/manojo/manojo/QueryTree$Parameter;"⟩ : Jvm.MethodName) prog_22_method_2_code (1 : Nat) (Option.some (Jvm.ClassFile.FieldType.object "com/example/manojo/manojo/QueryTree$Parameter")), Jvm.Cond.code (⟨"java/lang/StringBuilder", "<init>", "()V"⟩ : Jvm.MethodName) jdk_67_method_1_code (1 : Nat) (Option.none : Option Jvm.ClassFile.FieldType), Jvm.Cond.code (⟨"java/lang/AbstractStringBuilder", "<init>", "(I)V"⟩ : Jvm.MethodName) jdk_68_method_2_code (2 : Nat) (Option.none : Option Jvm.ClassFile.FieldType), Jvm.Cond.code (⟨"java/lang/StringBuilder", "append", "(Ljava/lang/String;)Ljava/lang/StringBuilder;"⟩ : Jvm.MethodName) jdk_67_method_7_code (2 : Nat) (Option.some (Jvm.ClassFile.FieldType.object "java/lang/StringBuilder")), Jvm.Cond.code (⟨"java/lang/AbstractStringBuilder", "append", "(Ljava/lang/String;)Ljava/lang/AbstractStringBuilder;"⟩ : Jvm.MethodName) jdk_68_method_22_code (3 : Nat) (Option.some (Jvm.ClassFile.FieldType.object "java/lang/AbstractStringBuilder")), Jvm.Cond.code (⟨"java/lang/String", "length", "()I"⟩ : Jvm.MethodName) jdk_42_method_54_code (1 : Nat) (Option.some Jvm.ClassFile.FieldType.int), Jvm.Cond.code (⟨"java/lang/String", "coder", "()B"⟩ : Jvm.MethodName) jdk_42_method_152_code (1 : Nat) (Option.some Jvm.ClassFile.FieldType.byte), Jvm.Cond.code (⟨"java/lang/AbstractStringBuilder", "ensureCapacityInternal", "(I)V"⟩ : Jvm.MethodName) jdk_68_method_9_code (3 : Nat) (Option.none : Option Jvm.ClassFile.FieldType), Jvm.Cond.code (⟨"java/lang/AbstractStringBuilder", "putStringAt", "(ILjava/lang/String;)V"⟩ : Jvm.MethodName) jdk_68_method_73_code (3 : Nat) (Option.none : Option Jvm.ClassFile.FieldType), Jvm.Cond.code (⟨"java/lang/AbstractStringBuilder", "inflateIfNeededFor", "(Ljava/lang/String;)V"⟩ : Jvm.MethodName) jdk_68_method_71_code (2 : Nat) (Option.none : Option Jvm.ClassFile.FieldType), Jvm.Cond.code (⟨"java/lang/String", "getBytes", "([BIB)V"⟩ : Jvm.MethodName) jdk_42_method_147_code (4 : Nat) (Option.none : Option Jvm.ClassFile.FieldType), Jvm.Cond.code (⟨"java/lang/StringBuilder", "toString", "()Ljava/lang/String;"⟩ : Jvm.MethodName) jdk_67_method_42_code (1 : Nat) (Option.some (Jvm.ClassFile.FieldType.object "java/lang/String")), Jvm.Cond.code (⟨"java/lang/String", "<init>", "(Ljava/lang/StringBuilder;)V"⟩ : Jvm.MethodName) jdk_42_method_53_code (2 : Nat) (Option.none : Option Jvm.ClassFile.FieldType), Jvm.Cond.code (⟨"java/lang/String", "<init>", "(Ljava/lang/AbstractStringBuilder;Ljava/lang/Void;)V"⟩ : Jvm.MethodName) jdk_42_method_150_code (5 : Nat) (Option.none : Option Jvm.ClassFile.FieldType), Jvm.Cond.code (⟨"java/lang/AbstractStringBuilder", "getValue", "()[B"⟩ : Jvm.MethodName) jdk_68_method_64_code (1 : Nat) (Option.some (Jvm.ClassFile.FieldType.array Jvm.ClassFile.FieldType.byte)), Jvm.Cond.code (⟨"java/lang/StringBuilder", "length", "()I"⟩ : Jvm.MethodName) jdk_67_method_93_code (1 : Nat) (Option.some Jvm.ClassFile.FieldType.int), Jvm.Cond.code (⟨"java/lang/AbstractStringBuilder", "length", "()I"⟩ : Jvm.MethodName) jdk_68_method_6_code (1 : Nat) (Option.some Jvm.ClassFile.FieldType.int), Jvm.Cond.code (⟨"java/lang/AbstractStringBuilder", "isLatin1", "()Z"⟩ : Jvm.MethodName) jdk_68_method_68_code (1 : Nat) (Option.some Jvm.ClassFile.FieldType.boolean), Jvm.Cond.code (⟨"java/util/Arrays", "copyOfRange", "([BII)[B"⟩ : Jvm.MethodName) jdk_65_method_132_code (3 : Nat) (Option.some (Jvm.ClassFile.FieldType.array Jvm.ClassFile.FieldType.byte)), Jvm.Cond.code (⟨"java/util/Arrays", "copyOfRangeByte", "([BII)[B"⟩ : Jvm.MethodName) jdk_65_method_133_code (5 : Nat) (Option.some (Jvm.ClassFile.FieldType.array Jvm.ClassFile.FieldType.byte)), Jvm.Cond.code (⟨"java/util/Arrays", "checkLength", "(II)V"⟩ : Jvm.MethodName) jdk_65_method_131_code (2 : Nat) (Option.none : Option Jvm.ClassFile.FieldType), Jvm.Cond.code (⟨"java/lang/Math", "min", "(II)I"⟩ : Jvm.MethodName) jdk_29_method_69_code (2 : Nat) (Option.some Jvm.ClassFile.FieldType.int), Jvm.Cond.code (⟨"com/example/manojo/manojo/QueryTree$Parameter", "<init>", "(Ljava/lang/String;)V"⟩ : Jvm.MethodName) prog_22_method_1_code (2 : Nat) (Option.none : Option Jvm.ClassFile.FieldType), Jvm.Cond.code (⟨"java/lang/Record", "<init>", "()V"⟩ : Jvm.MethodName) jdk_30_method_1_code (1 : Nat) (Option.none : Option Jvm.ClassFile.FieldType), Jvm.Cond.code (⟨"com/example/manojo/manojo/QueryTree$Parameter", "name", "()Ljava/lang/String;"⟩ : Jvm.MethodName) prog_22_method_7_code (1 : Nat) (Option.some (Jvm.ClassFile.FieldType.object "java/lang/String")), Jvm.Cond.code (⟨"java/lang/String", "charAt", "(I)C"⟩ : Jvm.MethodName) jdk_42_method_56_code (2 : Nat) (Option.some Jvm.ClassFile.FieldType.char), Jvm.Cond.code (⟨"java/lang/String", "isLatin1", "()Z"⟩ : Jvm.MethodName) jdk_42_method_154_code (1 : Nat) (Option.some Jvm.ClassFile.FieldType.boolean), Jvm.Cond.code (⟨"java/lang/StringLatin1", "charAt", "([BI)C"⟩ : Jvm.MethodName) jdk_43_method_2_code (2 : Nat) (Option.some Jvm.ClassFile.FieldType.char), Jvm.Cond.code (⟨"java/lang/String", "checkIndex", "(II)V"⟩ : Jvm.MethodName) jdk_42_method_155_code (2 : Nat) (Option.none : Option Jvm.ClassFile.FieldType), Jvm.Cond.code (⟨"jdk/internal/util/Preconditions", "checkIndex", "(IILjava/util/function/BiFunction;)I"⟩ : Jvm.MethodName) jdk_41_method_11_code (3 : Nat) (Option.some Jvm.ClassFile.FieldType.int), Jvm.Cond.code (⟨"java/lang/StringUTF16", "compress", "([CII)[B"⟩ : Jvm.MethodName) jdk_52_method_16_code (6 : Nat) (Option.some (Jvm.ClassFile.FieldType.array Jvm.ClassFile.FieldType.byte)), Jvm.Cond.code (⟨"java/lang/StringUTF16", "compress", "([CI[BII)I"⟩ : Jvm.MethodName) jdk_52_method_21_code (7 : Nat) (Option.some Jvm.ClassFile.FieldType.int), Jvm.Cond.code (⟨"java/lang/StringUTF16", "coderFromArrayLen", "([BI)B"⟩ : Jvm.MethodName) jdk_52_method_15_code (2 : Nat) (Option.some Jvm.ClassFile.FieldType.byte), Jvm.Cond.code (⟨"java/lang/StringUTF16", "toBytes", "([CII)[B"⟩ : Jvm.MethodName) jdk_52_method_14_code (5 : Nat) (Option.some (Jvm.ClassFile.FieldType.array Jvm.ClassFile.FieldType.byte)), Jvm.Cond.code (⟨"java/lang/StringUTF16", "newBytesFor", "(I)[B"⟩ : Jvm.MethodName) jdk_52_method_2_code (1 : Nat) (Option.some (Jvm.ClassFile.FieldType.array Jvm.ClassFile.FieldType.byte)), Jvm.Cond.code (⟨"java/lang/StringUTF16", "newBytesLength", "(I)I"⟩ : Jvm.MethodName) jdk_52_method_3_code (1 : Nat) (Option.some Jvm.ClassFile.FieldType.int), Jvm.Cond.code (⟨"java/lang/StringUTF16", "putChar", "([BII)V"⟩ : Jvm.MethodName) jdk_52_method_4_code (3 : Nat) (Option.none : Option Jvm.ClassFile.FieldType), Jvm.Cond.code (⟨"java/lang/StringUTF16", "getChar", "([BI)C"⟩ : Jvm.MethodName) jdk_52_method_5_code (2 : Nat) (Option.some Jvm.ClassFile.FieldType.char), Jvm.Cond.code (⟨"java/lang/AbstractStringBuilder", "inflate", "()V"⟩ : Jvm.MethodName) jdk_68_method_11_code (2 : Nat) (Option.none : Option Jvm.ClassFile.FieldType), Jvm.Cond.code (⟨"java/lang/StringLatin1", "inflate", "([BI[BII)V"⟩ : Jvm.MethodName) jdk_43_method_50_code (5 : Nat) (Option.none : Option Jvm.ClassFile.FieldType), Jvm.Cond.code (⟨"java/lang/StringUTF16", "inflate", "([BI[BII)V"⟩ : Jvm.MethodName) jdk_52_method_86_code (6 : Nat) (Option.none : Option Jvm.ClassFile.FieldType), Jvm.Cond.code (⟨"java/lang/StringUTF16", "checkBoundsOffCount", "(II[B)V"⟩ : Jvm.MethodName) jdk_52_method_94_code (3 : Nat) (Option.none : Option Jvm.ClassFile.FieldType), Jvm.Cond.code (⟨"java/lang/StringUTF16", "length", "([B)I"⟩ : Jvm.MethodName) jdk_52_method_6_code (1 : Nat) (Option.some Jvm.ClassFile.FieldType.int), Jvm.Cond.code (⟨"java/lang/String", "checkBoundsOffCount", "(III)I"⟩ : Jvm.MethodName) jdk_42_method_157_code (3 : Nat) (Option.some Jvm.ClassFile.FieldType.int), Jvm.Cond.code (⟨"jdk/internal/util/Preconditions", "checkFromIndexSize", "(IIILjava/util/function/BiFunction;)I"⟩ : Jvm.MethodName) jdk_41_method_13_code (4 : Nat) (Option.some Jvm.ClassFile.FieldType.int), Jvm.Cond.code (⟨"java/lang/StringUTF16", "charAt", "([BI)C"⟩ : Jvm.MethodName) jdk_52_method_83_code (2 : Nat) (Option.some Jvm.ClassFile.FieldType.char), Jvm.Cond.code (⟨"java/lang/StringUTF16", "checkIndex", "(I[B)V"⟩ : Jvm.MethodName) jdk_52_method_91_code (2 : Nat) (Option.none : Option Jvm.ClassFile.FieldType)]
theorem codes_eq : words1.filter isCode = codes1 := rfl
theorem w_codes : ∀ c ∈ words1.filter isCode, c.before args0 about1 = true := by
  rw [codes_eq]
  intro c hc
  simp only [codes1, List.mem_cons, List.not_mem_nil, or_false] at hc
  rcases hc with rfl | rfl | rfl | rfl | rfl | rfl | rfl | rfl | rfl | rfl | rfl | rfl | rfl | rfl | rfl | rfl | rfl | rfl | rfl | rfl | rfl | rfl | rfl | rfl | rfl | rfl | rfl | rfl | rfl | rfl | rfl | rfl | rfl | rfl | rfl | rfl | rfl | rfl | rfl | rfl | rfl | rfl | rfl | rfl | rfl | rfl | rfl | rfl | rfl | rfl | rfl
  · exact w_c0
  · exact w_c1
  · exact w_c2
  · exact w_c3
  · exact w_c4
  · exact w_c5
  · exact w_c6
  · exact w_c7
  · exact w_c8
  · exact w_c9
  · exact w_c10
  · exact w_c11
  · exact w_c12
  · exact w_c13
  · exact w_c14
  · exact w_c15
  · exact w_c16
  · exact w_c17
  · exact w_c18
  · exact w_c19
  · exact w_c20
  · exact w_c21
  · exact w_c22
  · exact w_c23
  · exact w_c24
  · exact w_c25
  · exact w_c26
  · exact w_c27
  · exact w_c28
  · exact w_c29
  · exact w_c30
  · exact w_c31
  · exact w_c32
  · exact w_c33
  · exact w_c34
  · exact w_c35
  · exact w_c36
  · exact w_c37
  · exact w_c38
  · exact w_c39
  · exact w_c40
  · exact w_c41
  · exact w_c42
  · exact w_c43
  · exact w_c44
  · exact w_c45
  · exact w_c46
  · exact w_c47
  · exact w_c48
  · exact w_c49
  · exact w_c50
theorem w_t1 : (words1.take 24).all (fun c => isCode c || c.before args0 about1) = true := by decide +kernel
theorem w_t2 : ((words1.drop 24).take 24).all (fun c => isCode c || c.before args0 about1) = true := by decide +kernel
theorem w_t3 : (((words1.drop 24).drop 24).take 24).all (fun c => isCode c || c.before args0 about1) = true := by decide +kernel
theorem w_t4 : ((((words1.drop 24).drop 24).drop 24).take 24).all (fun c => isCode c || c.before args0 about1) = true := by decide +kernel
theorem w_t5 : (((((words1.drop 24).drop 24).drop 24).drop 24).take 24).all (fun c => isCode c || c.before args0 about1) = true := by decide +kernel
theorem w_t6 : ((((((words1.drop 24).drop 24).drop 24).drop 24).drop 24).take 24).all (fun c => isCode c || c.before args0 about1) = true := by decide +kernel
theorem w_t7 : (((((((words1.drop 24).drop 24).drop 24).drop 24).drop 24).drop 24).take 24).all (fun c => isCode c || c.before args0 about1) = true := by decide +kernel
theorem w_t8 : ((((((((words1.drop 24).drop 24).drop 24).drop 24).drop 24).drop 24).drop 24).take 24).all (fun c => isCode c || c.before args0 about1) = true := by decide +kernel
theorem w_t9 : (((((((((words1.drop 24).drop 24).drop 24).drop 24).drop 24).drop 24).drop 24).drop 24).take 24).all (fun c => isCode c || c.before args0 about1) = true := by decide +kernel
theorem w_t10 : ((((((((((words1.drop 24).drop 24).drop 24).drop 24).drop 24).drop 24).drop 24).drop 24).drop 24).take 24).all (fun c => isCode c || c.before args0 about1) = true := by decide +kernel
theorem w_t11 : ((((((((((words1.drop 24).drop 24).drop 24).drop 24).drop 24).drop 24).drop 24).drop 24).drop 24).drop 24).all (fun c => isCode c || c.before args0 about1) = true := by decide +kernel
theorem w_tables : (allAtoms (Jvm.Cond.code x code maxLocals ret :: tables_1)).before args0 about1 = true := by
  rw [allAtoms_all]
  show words1.all (fun c => c.before args0 about1) = true
  refine all_split ?_ w_codes
  rw [← List.take_append_drop 24 words1, List.all_append, w_t1, ← List.take_append_drop 24 (words1.drop 24), List.all_append, w_t2, ← List.take_append_drop 24 ((words1.drop 24).drop 24), List.all_append, w_t3, ← List.take_append_drop 24 (((words1.drop 24).drop 24).drop 24), List.all_append, w_t4, ← List.take_append_drop 24 ((((words1.drop 24).drop 24).drop 24).drop 24), List.all_append, w_t5, ← List.take_append_drop 24 (((((words1.drop 24).drop 24).drop 24).drop 24).drop 24), List.all_append, w_t6, ← List.take_append_drop 24 ((((((words1.drop 24).drop 24).drop 24).drop 24).drop 24).drop 24), List.all_append, w_t7, ← List.take_append_drop 24 (((((((words1.drop 24).drop 24).drop 24).drop 24).drop 24).drop 24).drop 24), List.all_append, w_t8, ← List.take_append_drop 24 ((((((((words1.drop 24).drop 24).drop 24).drop 24).drop 24).drop 24).drop 24).drop 24), List.all_append, w_t9, ← List.take_append_drop 24 (((((((((words1.drop 24).drop 24).drop 24).drop 24).drop 24).drop 24).drop 24).drop 24).drop 24), List.all_append, w_t10, w_t11]
  rfl
theorem w_rest : rest_1_c.before args0 about1 = true := by decide +kernel
theorem w_case : (Jvm.Cond.and given_1 narrow_1).before args0 about1 = true := by decide +kernel
theorem w_consts : constsHeld consts_1 about1 := Jvm.Lit.constsHeldB_iff.mp (by decide +kernel)
theorem w_applies : (headSpec (Jvm.Cond.code x code maxLocals ret :: tables_1) room_1).applies x e0.platform about1 = true :=
  (Spec.applies_iff w_frames).mpr ⟨w_running, w_runnable, w_alone, w_named, w_hears, w_ripe, w_room, w_tables⟩
theorem atStart : AtStart classFile x code maxLocals ret World_1 tables_1 room_1 Calls_1 rest_1 Pre_1 launch0 p0 e0 about1 theMethod args0 below0 :=
  ⟨lists_1, trivial, launch0.admits_env _ _ _, launch0.least_env, fairChoices_fair.cas, fairChoices_fair.clock, w_frames, w_args, w_heap, w_applies, ⟨w_consts, trivial⟩, w_rest, w_case⟩
end start1
theorem witness_1 : WitnessClaimed_1 := ⟨start1.p0, start1.e0, start1.about1, start1.theMethod, start1.args0, start1.below0, start1.atStart⟩
end Jvm.Pilot.@@N@@
