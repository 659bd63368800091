import JvmDerived
import JvmDerived.Pilot.@@N@@Statement
import JvmDerived.Pilot.@@N@@Code
set_option linter.unusedVariables false
set_option linter.unusedSimpArgs false
/- laws to paste: Road.backV, Road.eqW (cut by pick.py; bodies as the Statement names them) -/
namespace Jvm.Pilot.@@N@@
namespace StrChars
open Jvm Sem ClassFile Op Lib Jvm.Stand Jvm.Free.XT Jvm.Free.ALB Jvm.Free.JM Jvm.Free
open Jvm.Lib.Cold (StaticIs)
/-- a char array whose places are chars -/
def Ch (a : Addr) (A : Cell) (U : State) : Prop := Arr .char a A U ∧ Typed .char A
theorem Ch.mv {a : Addr} {A : Cell} {U U' : State} (h : Ch a A U) (hal : U.vm.Alike U'.vm) (hh : U'.heap = U.heap) : Ch a A U' := ⟨h.1.mv hal hh, h.2⟩
theorem Ch.keep {a : Addr} {A : Cell} {U U' : State} (h : Ch a A U) (hal : U.vm.Alike U'.vm) (hk : U'.heap[a]? = some A) : Ch a A U' := ⟨h.1.keep hal hk, h.2⟩
/-- what place i of a char[]'s cell holds -/
def cv (A : Cell) (i : Nat) : Int32 := match A.slots[i]? with | some (.int x) => x | _ => 0
theorem Ch.get {a : Addr} {A : Cell} {U : State} (h : Ch a A U) {i : Nat} (hi : i < A.slots.size) : A.slots[i]? = some (.int (cv A i)) := by
  have e := Array.getElem?_eq_getElem hi
  have f := h.2 i _ e
  unfold cv; rw [e]
  generalize A.slots[i] = v at f
  cases v <;> simp [fits] at f ⊢
/-- the byte that i2b leaves of a char -/
def lo8 (x : Int32) : Int32 := x.toInt8.toInt32
theorem fits_lo8 (y : Int32) : fits .byte (.int (lo8 y)) = true := by
  have h1 := y.toInt8.le_toInt
  have h2 := y.toInt8.toInt_lt
  simp only [lo8, fits, Bool.and_eq_true, decide_eq_true_eq, Int32.le_iff_toInt_le, Int8.toInt_toInt32, show (-128 : Int32).toInt = -128 from by decide, show (127 : Int32).toInt = 127 from by decide]
  omega
/-- A' is A but that each place j of lo .. hi - 1 holds f j -/
def Laid (A A' : Cell) (lo hi : Nat) (f : Nat → Value) : Prop := A'.cls = A.cls ∧ A'.vm = A.vm ∧ A'.slots.size = A.slots.size ∧ ∀ i, A'.slots[i]? = if lo ≤ i ∧ i < hi then some (f i) else A.slots[i]?
theorem Laid.zero (A : Cell) (lo : Nat) (f : Nat → Value) : Laid A A lo (lo + 0) f := ⟨rfl, rfl, rfl, fun i => by rw [if_neg (by omega)]⟩
theorem Laid.step {A Ak : Cell} {lo k : Nat} {f : Nat → Value} {v : Value} (h : Laid A Ak lo k f) (hlo : lo ≤ k) (hk : k < Ak.slots.size) (hv : v = f k) : Laid A (Ak.setSlot k v) lo (k + 1) f := by
  refine ⟨h.1, h.2.1, by simpa [Cell.setSlot] using h.2.2.1, fun i => ?_⟩
  by_cases e : k = i
  · subst e; rw [Cell.slots_setSlot_self v hk, if_pos (by omega), hv]
  · rw [Cell.slots_setSlot_ne v e, h.2.2.2 i]
    by_cases q : lo ≤ i ∧ i < k
    · rw [if_pos q, if_pos (by omega)]
    · rw [if_neg q, if_neg (by omega)]
def U16 : String := "java/lang/StringUTF16"
namespace Cmp5
def yN : MethodName := ⟨"java/lang/StringUTF16", "compress", "([CI[BII)I"⟩
abbrev yB : ByteArray := jdk_52_method_21_code
theorem d0 : decode yB 0 = .ok (.iconst 0, 1) := by decide +kernel
theorem d1 : decode yB 1 = .ok (.istore 5, 2) := by decide +kernel
theorem d3 : decode yB 3 = .ok (.iload 5, 2) := by decide +kernel
theorem d5 : decode yB 5 = .ok (.iload 4, 2) := by decide +kernel
theorem d7 : decode yB 7 = .ok (.if_icmp (.ge) 37, 3) := by decide +kernel
theorem d10 : decode yB 10 = .ok (.aload_n 0, 1) := by decide +kernel
theorem d11 : decode yB 11 = .ok (.iload_n 1, 1) := by decide +kernel
theorem d12 : decode yB 12 = .ok (.caload, 1) := by decide +kernel
theorem d13 : decode yB 13 = .ok (.istore 6, 2) := by decide +kernel
theorem d15 : decode yB 15 = .ok (.iload 6, 2) := by decide +kernel
theorem d17 : decode yB 17 = .ok (.sipush 255, 3) := by decide +kernel
theorem d20 : decode yB 20 = .ok (.if_icmp (.le) 6, 3) := by decide +kernel
theorem d26 : decode yB 26 = .ok (.aload_n 2, 1) := by decide +kernel
theorem d27 : decode yB 27 = .ok (.iload_n 3, 1) := by decide +kernel
theorem d28 : decode yB 28 = .ok (.iload 6, 2) := by decide +kernel
theorem d30 : decode yB 30 = .ok (.i2b, 1) := by decide +kernel
theorem d31 : decode yB 31 = .ok (.bastore, 1) := by decide +kernel
theorem d32 : decode yB 32 = .ok (.iinc 1 1, 3) := by decide +kernel
theorem d35 : decode yB 35 = .ok (.iinc 3 1, 3) := by decide +kernel
theorem d38 : decode yB 38 = .ok (.iinc 5 1, 3) := by decide +kernel
theorem d41 : decode yB 41 = .ok (.goto (-38), 3) := by decide +kernel
theorem d44 : decode yB 44 = .ok (.iload 4, 2) := by decide +kernel
theorem d46 : decode yB 46 = .ok (.ireturn, 1) := by decide +kernel
def site : List Cond := []
def tab : Cond := tabOf yN yB 7 (some .int) site
def P (b : Addr) (A : Cell) (d : Addr) (B : Cell) (o q len : Nat) (args : Array Value) (s : State) : Prop := args = #[.ref b, .int (Int32.ofNat o), .ref d, .int (Int32.ofNat q), .int (Int32.ofNat len)] ∧ Ch b A s ∧ Arr .byte d B s ∧ b ≠ d ∧ o + len ≤ A.slots.size ∧ q + len ≤ B.slots.size ∧ ∀ i, i < len → ¬ 255 < cv A (o + i)
def E (b : Addr) (A : Cell) (d : Addr) (B : Cell) (o q len : Nat) (r : Option Value) (s u : State) : Prop := r = some (.int (Int32.ofNat len)) ∧ ∃ B', Put d B' s u ∧ Laid B B' q (q + len) (fun j => Value.int (lo8 (cv A (o + (j - q)))))
/-- no char of the range above 255: len; the places written hold each char's low byte -/
theorem law (l : Launch) (b : Addr) (A : Cell) (d : Addr) (B : Cell) (o q len : Nat) : Law l yN 5 5 0 0 yB 7 (some .int) site (P b A d B o q len) (E b A d B o q len) (copyLocs d q len) 0 0 := by
  refine Law.of_walk (plainFor_of_name (by decide +kernel)) (by decide +kernel) (by decide +kernel) (by decide) (fun _ _ h => by rw [h.1]; rfl) (fun _ U U' hal hh h => ⟨h.1, h.2.1.mv hal hh, h.2.2.1.mv hal hh, h.2.2.2⟩) (fun r U U' V V' h1 hal h2 h => ⟨h.1, h.2.elim fun B' q => ⟨B', q.1.mv h1 h2, q.2⟩⟩) ?_
  intro p e s m args below meth c s₁ X0 hexec hbytes hml hret hlk hnm hown hh0 W hP
  obtain ⟨rfl, hA, hB, hne, l1, l2, hp⟩ := hP
  have c1 : Steps p.tables e below (s₁.setTop (entryFrame m #[.ref b, .int (Int32.ofNat o), .ref d, .int (Int32.ofNat q), .int (Int32.ofNat len)] 7)) (s₁.setTop (mkF m 0 #[.val (.ref b), .val (.int (Int32.ofNat o)), .val (.ref d), .val (.int (Int32.ofNat q)), .val (.int (Int32.ofNat len)), .unset, .unset] [])) := entry rfl
  have hA0 := hA.1.mv X0.warmed.alike hh0
  have hB0 := hB.mv X0.warmed.alike hh0
  have a31 := hA.1.2.2.2
  have c2 : Steps p.tables e below (s₁.setTop (entryFrame m #[.ref b, .int (Int32.ofNat o), .ref d, .int (Int32.ofNat q), .int (Int32.ofNat len)] 7)) (s₁.setTop (mkF m 3 #[.val (.ref b), .val (.int (Int32.ofNat o)), .val (.ref d), .val (.int (Int32.ofNat q)), .val (.int (Int32.ofNat len)), .val (.int 0), .unset] [])) := c1.trans (by
    refine iconstV X0.here hexec rfl 0 (hb hbytes d0) (by decide) ?_
    refine XS.istore X0.here hexec rfl (hb hbytes d1) rfl rfl ?_
    exact Steps.refl _)
  have loop : ∀ (r i : Nat), i + r = len → ∀ (z : Slot), (z = .unset ∨ ∃ w, z = .val w ∧ w.category = 1) → ∀ (Tl : State) (Bk : Cell), Stand p l e { frames := 0, locals := 0, cells := 0, slots := 0 } s m #[.ref b, .int (Int32.ofNat o), .ref d, .int (Int32.ofNat q), .int (Int32.ofNat len)] below meth c Tl ([] ++ copyLocs d q i) 0 0 → Put d Bk s₁ Tl → Laid B Bk q (q + i) (fun j => Value.int (lo8 (cv A (o + (j - q))))) →
      Steps p.tables e below (s₁.setTop (entryFrame m #[.ref b, .int (Int32.ofNat o), .ref d, .int (Int32.ofNat q), .int (Int32.ofNat len)] 7)) (Tl.setTop (mkF m 3 #[.val (.ref b), .val (.int (Int32.ofNat (o + i))), .val (.ref d), .val (.int (Int32.ofNat (q + i))), .val (.int (Int32.ofNat len)), .val (.int (Int32.ofNat i)), z] [])) → ∃ (T' : State) (B' : Cell) (z' : Slot), Stand p l e { frames := 0, locals := 0, cells := 0, slots := 0 } s m #[.ref b, .int (Int32.ofNat o), .ref d, .int (Int32.ofNat q), .int (Int32.ofNat len)] below meth c T' ([] ++ copyLocs d q len) 0 0 ∧ Put d B' s₁ T' ∧ Laid B B' q (q + len) (fun j => Value.int (lo8 (cv A (o + (j - q))))) ∧
      Steps p.tables e below (s₁.setTop (entryFrame m #[.ref b, .int (Int32.ofNat o), .ref d, .int (Int32.ofNat q), .int (Int32.ofNat len)] 7)) (T'.setTop (mkF m 3 #[.val (.ref b), .val (.int (Int32.ofNat (o + len))), .val (.ref d), .val (.int (Int32.ofNat (q + len))), .val (.int (Int32.ofNat len)), .val (.int (Int32.ofNat len)), z'] [])) := by
    intro r
    induction r with
    | zero =>
      intro i hi z hz Tl Bk Xl pl fl cl
      have hil : i = len := by omega
      rw [hil] at Xl fl cl
      exact ⟨Tl, Bk, z, Xl, pl, fl, cl⟩
    | succ r ih =>
      intro i hi z hz Tl Bk Xl pl fl cl
      have all := X0.warmed.alike.symm.trans Xl.warmed.alike
      have hAl := hA0.keep all (pl.other hne hA0.1)
      have hBk := hB0.like all pl.1 fl.1 fl.2.1 fl.2.2.1
      have hlt : q + i < Bk.slots.size := by rw [fl.2.2.1]; omega
      have c3 : Steps p.tables e below (s₁.setTop (entryFrame m #[.ref b, .int (Int32.ofNat o), .ref d, .int (Int32.ofNat q), .int (Int32.ofNat len)] 7)) (Tl.setTop (mkF m 12 #[.val (.ref b), .val (.int (Int32.ofNat (o + i))), .val (.ref d), .val (.int (Int32.ofNat (q + i))), .val (.int (Int32.ofNat len)), .val (.int (Int32.ofNat i)), z] [.int (Int32.ofNat (o + i)), .ref b])) := cl.trans (by
        refine XS.iload Xl.here hexec rfl (hb hbytes d3) rfl ?_
        refine XS.iload Xl.here hexec rfl (hb hbytes d5) rfl ?_
        refine XS.icmpNo Xl.here hexec rfl (hb hbytes d7) rfl (ii_ge_f (lt32 (by omega) (by omega))) ?_
        refine XS.aloadN Xl.here hexec rfl (hb hbytes d10) rfl rfl ?_
        refine XS.iloadN Xl.here hexec rfl (hb hbytes d11) rfl ?_
        exact Steps.refl _)
      have c4 : Steps p.tables e below (s₁.setTop (entryFrame m #[.ref b, .int (Int32.ofNat o), .ref d, .int (Int32.ofNat q), .int (Int32.ofNat len)] 7)) (Tl.setTop (mkF m 13 #[.val (.ref b), .val (.int (Int32.ofNat (o + i))), .val (.ref d), .val (.int (Int32.ofNat (q + i))), .val (.int (Int32.ofNat len)), .val (.int (Int32.ofNat i)), z] [.int (cv A (o + i))])) := c3.trans (by
        refine Xl.aget hexec hAl rfl (hA.get (i := o + i) (by omega)) rfl rfl (hb hbytes d12) ?_
        exact Steps.refl _)
      have c5 : Steps p.tables e below (s₁.setTop (entryFrame m #[.ref b, .int (Int32.ofNat o), .ref d, .int (Int32.ofNat q), .int (Int32.ofNat len)] 7)) (Tl.setTop (mkF m 15 #[.val (.ref b), .val (.int (Int32.ofNat (o + i))), .val (.ref d), .val (.int (Int32.ofNat (q + i))), .val (.int (Int32.ofNat len)), .val (.int (Int32.ofNat i)), .val (.int (cv A (o + i)))] [])) := c4.trans (by
        refine XS.istoreS Xl.here hexec rfl (hb hbytes d13) rfl rfl hz ?_
        exact Steps.refl _)
      have c6 : Steps p.tables e below (s₁.setTop (entryFrame m #[.ref b, .int (Int32.ofNat o), .ref d, .int (Int32.ofNat q), .int (Int32.ofNat len)] 7)) (Tl.setTop (mkF m 31 #[.val (.ref b), .val (.int (Int32.ofNat (o + i))), .val (.ref d), .val (.int (Int32.ofNat (q + i))), .val (.int (Int32.ofNat len)), .val (.int (Int32.ofNat i)), .val (.int (cv A (o + i)))] [.int (lo8 (cv A (o + i))), .int (Int32.ofNat (q + i)), .ref d])) := c5.trans (by
        refine XS.iload Xl.here hexec rfl (hb hbytes d15) rfl ?_
        refine sipushV Xl.here hexec rfl 255 (hb hbytes d17) (by decide) ?_
        refine XS.icmpYes Xl.here hexec rfl (pc0 := 20) rfl (hb hbytes d20) rfl (ii_le_t (hp i (by omega))) (by decide) rfl ?_
        refine XS.aloadN Xl.here hexec rfl (hb hbytes d26) rfl rfl ?_
        refine XS.iloadN Xl.here hexec rfl (hb hbytes d27) rfl ?_
        refine XS.iload Xl.here hexec rfl (hb hbytes d28) rfl ?_
        refine i2b Xl.here hexec rfl (hb hbytes d30) rfl ?_
        exact Steps.refl _)
      obtain ⟨T7, X7, p7, st7⟩ := Xl.aput hexec hBk rfl hlt rfl (fits_lo8 (cv A (o + i))) (g := (mkF m 31 #[.val (.ref b), .val (.int (Int32.ofNat (o + i))), .val (.ref d), .val (.int (Int32.ofNat (q + i))), .val (.int (Int32.ofNat len)), .val (.int (Int32.ofNat i)), .val (.int (cv A (o + i)))] [.int (lo8 (cv A (o + i))), .int (Int32.ofNat (q + i)), .ref d])) rfl (rest := []) rfl (hb hbytes d31)
      have c8 : Steps p.tables e below (s₁.setTop (entryFrame m #[.ref b, .int (Int32.ofNat o), .ref d, .int (Int32.ofNat q), .int (Int32.ofNat len)] 7)) (T7.setTop (mkF m 32 #[.val (.ref b), .val (.int (Int32.ofNat (o + i))), .val (.ref d), .val (.int (Int32.ofNat (q + i))), .val (.int (Int32.ofNat len)), .val (.int (Int32.ofNat i)), .val (.int (cv A (o + i)))] [])) := c6.trans (st7 _ (Steps.refl _))
      have c9 : Steps p.tables e below (s₁.setTop (entryFrame m #[.ref b, .int (Int32.ofNat o), .ref d, .int (Int32.ofNat q), .int (Int32.ofNat len)] 7)) (T7.setTop (mkF m 3 #[.val (.ref b), .val (.int (Int32.ofNat (o + i) + 1)), .val (.ref d), .val (.int (Int32.ofNat (q + i) + 1)), .val (.int (Int32.ofNat len)), .val (.int (Int32.ofNat i + 1)), .val (.int (cv A (o + i)))] [])) := c8.trans (by
        refine iincV X7.here hexec rfl 1 (hb hbytes d32) (by decide) rfl rfl ?_
        refine iincV X7.here hexec rfl 1 (hb hbytes d35) (by decide) rfl rfl ?_
        refine iincV X7.here hexec rfl 1 (hb hbytes d38) (by decide) rfl rfl ?_
        refine XS.goto X7.here hexec rfl (pc0 := 41) rfl (hb hbytes d41) (by decide) rfl ?_
        exact Steps.refl _)
      have c10 : Steps p.tables e below (s₁.setTop (entryFrame m #[.ref b, .int (Int32.ofNat o), .ref d, .int (Int32.ofNat q), .int (Int32.ofNat len)] 7)) (T7.setTop (mkF m 3 #[.val (.ref b), .val (.int (Int32.ofNat (o + (i + 1)))), .val (.ref d), .val (.int (Int32.ofNat (q + (i + 1)))), .val (.int (Int32.ofNat len)), .val (.int (Int32.ofNat (i + 1))), .val (.int (cv A (o + i)))] [])) := by
        have := c9
        rw [succ32, succ32, succ32] at this
        exact this
      exact ih (i + 1) (by omega) _ (Or.inr ⟨_, rfl, rfl⟩) T7 _ (by rw [copyLocs_step, ← List.append_assoc]; exact X7) (pl.trans p7) (fl.step (by omega) hlt (by simp)) c10
  obtain ⟨T9, B9, z9, X9, p9, f9, g9⟩ := loop len 0 (by omega) .unset (Or.inl rfl) s₁ B (by simpa [copyLocs] using X0) ⟨hB0.1, fun _ _ => rfl, rfl⟩ (Laid.zero _ _ _) c2
  have c11 : Steps p.tables e below (s₁.setTop (entryFrame m #[.ref b, .int (Int32.ofNat o), .ref d, .int (Int32.ofNat q), .int (Int32.ofNat len)] 7)) (T9.setTop (mkF m 46 #[.val (.ref b), .val (.int (Int32.ofNat (o + len))), .val (.ref d), .val (.int (Int32.ofNat (q + len))), .val (.int (Int32.ofNat len)), .val (.int (Int32.ofNat len)), z9] [.int (Int32.ofNat len)])) := g9.trans (by
    refine XS.iload X9.here hexec rfl (hb hbytes d3) rfl ?_
    refine XS.iload X9.here hexec rfl (hb hbytes d5) rfl ?_
    refine XS.icmpYes X9.here hexec rfl (pc0 := 7) rfl (hb hbytes d7) rfl (ii_ge_t (nlt32 (by omega) (Nat.le_refl _))) (by decide) rfl ?_
    refine XS.iload X9.here hexec rfl (hb hbytes d44) rfl ?_
    exact Steps.refl _)
  exact ⟨T9, some (.int (Int32.ofNat len)), _, _, _, X9, by simp, rfl, rfl, (fun h => by cases h), ⟨rfl, B9, p9.from hh0, f9⟩, fun fs hl => c11.trans (X9.ireturnOut hexec hret rfl (Or.inl rfl) (hb hbytes d46) hl)⟩
end Cmp5
namespace Cmp3
def yN : MethodName := ⟨"java/lang/StringUTF16", "compress", "([CII)[B"⟩
abbrev yB : ByteArray := jdk_52_method_16_code
theorem d0 : decode yB 0 = .ok (.iload_n 2, 1) := by decide +kernel
theorem d1 : decode yB 1 = .ok (.newarray .byte, 2) := by decide +kernel
theorem d3 : decode yB 3 = .ok (.astore_n 3, 1) := by decide +kernel
theorem d4 : decode yB 4 = .ok (.aload_n 0, 1) := by decide +kernel
theorem d5 : decode yB 5 = .ok (.iload_n 1, 1) := by decide +kernel
theorem d6 : decode yB 6 = .ok (.aload_n 3, 1) := by decide +kernel
theorem d7 : decode yB 7 = .ok (.iconst 0, 1) := by decide +kernel
theorem d8 : decode yB 8 = .ok (.iload_n 2, 1) := by decide +kernel
theorem d9 : decode yB 9 = .ok (.invokestatic 115, 3) := by decide +kernel
theorem d12 : decode yB 12 = .ok (.istore 4, 2) := by decide +kernel
theorem d14 : decode yB 14 = .ok (.iload 4, 2) := by decide +kernel
theorem d16 : decode yB 16 = .ok (.iload_n 2, 1) := by decide +kernel
theorem d17 : decode yB 17 = .ok (.if_icmp (.eq) 40, 3) := by decide +kernel
theorem d57 : decode yB 57 = .ok (.aload_n 3, 1) := by decide +kernel
theorem d58 : decode yB 58 = .ok (.areturn, 1) := by decide +kernel
def site : List Cond := [.arrayClass .byte, Cmp5.tab] ++ staticW U16 115 Cmp5.yN
def tab : Cond := tabOf yN yB 6 (some (.array .byte)) site
def P (b : Addr) (A : Cell) (o len : Nat) (args : Array Value) (s : State) : Prop := args = #[.ref b, .int (Int32.ofNat o), .int (Int32.ofNat len)] ∧ Ch b A s ∧ o + len ≤ A.slots.size ∧ len ≤ 536870912 ∧ ∀ i, i < len → ¬ 255 < cv A (o + i)
def E (b : Addr) (A : Cell) (o len : Nat) (r : Option Value) (s u : State) : Prop := NewArr .byte "[B" len (fun j => .int (lo8 (cv A (o + j)))) r s u ∧ u.heap.size = s.heap.size + 1
/-- no char of the range above 255: a new byte[] of their low bytes -/
theorem law (l : Launch) (b : Addr) (A : Cell) (o len : Nat) : Law l yN 3 3 1 18 yB 6 (some (.array .byte)) site (P b A o len) (E b A o len) [] 1 len := by
  refine Law.of_walk (plainFor_of_name (by decide +kernel)) (by decide +kernel) (by decide +kernel) (by decide) (fun _ _ h => by rw [h.1]; rfl) (fun _ U U' hal hh h => ⟨h.1, h.2.1.mv hal hh, h.2.2⟩) (fun r U U' V V' h1 hal h2 h => ⟨NewArr.mv r U U' V V' h1 hal h2 h.1, by rw [h1, h2]; exact h.2⟩) ?_
  intro p e s m args below meth c s₁ X0 hexec hbytes hml hret hlk hnm hown hh0 W hP
  obtain ⟨rfl, hA, l1, l2, hp⟩ := hP
  have a31 := hA.1.2.2.2
  have c1 : Steps p.tables e below (s₁.setTop (entryFrame m #[.ref b, .int (Int32.ofNat o), .int (Int32.ofNat len)] 6)) (s₁.setTop (mkF m 0 #[.val (.ref b), .val (.int (Int32.ofNat o)), .val (.int (Int32.ofNat len)), .unset, .unset, .unset] [])) := entry rfl
  have c2 : Steps p.tables e below (s₁.setTop (entryFrame m #[.ref b, .int (Int32.ofNat o), .int (Int32.ofNat len)] 6)) (s₁.setTop (mkF m 1 #[.val (.ref b), .val (.int (Int32.ofNat o)), .val (.int (Int32.ofNat len)), .unset, .unset, .unset] [.int (Int32.ofNat len)])) := c1.trans (by
    refine XS.iloadN X0.here hexec rfl (hb hbytes d0) rfl ?_
    exact Steps.refl _)
  obtain ⟨T3, B3, X3, ba3, bs3, bv3, bh3, bf3, st3⟩ := X0.anew hexec (atype := .byte) (wk W (.arrayClass .byte)) rfl (by show len * 1 ≤ _; omega) (by omega) (g := (mkF m 1 #[.val (.ref b), .val (.int (Int32.ofNat o)), .val (.int (Int32.ofNat len)), .unset, .unset, .unset] [.int (Int32.ofNat len)])) rfl (hb hbytes d1) (rest := []) rfl (Nat.le_refl _) (by show 0 + len ≤ len; omega)
  rw [hh0] at ba3 st3
  have kp3 : XT.Kept s T3 := (XT.Kept.of_eq hh0).push bh3
  have hA3 := hA.keep X3.warmed.alike (kp3 _ _ hA.1.1)
  have hne : b ≠ s.heap.size := hA.1.ne
  have c4 : Steps p.tables e below (s₁.setTop (entryFrame m #[.ref b, .int (Int32.ofNat o), .int (Int32.ofNat len)] 6)) (T3.setTop (mkF m 3 #[.val (.ref b), .val (.int (Int32.ofNat o)), .val (.int (Int32.ofNat len)), .unset, .unset, .unset] [.ref s.heap.size])) := c2.trans (st3 _ (Steps.refl _))
  have c5 : Steps p.tables e below (s₁.setTop (entryFrame m #[.ref b, .int (Int32.ofNat o), .int (Int32.ofNat len)] 6)) (T3.setTop (mkF m 9 #[.val (.ref b), .val (.int (Int32.ofNat o)), .val (.int (Int32.ofNat len)), .val (.ref s.heap.size), .unset, .unset] [.int (Int32.ofNat len), .int 0, .ref s.heap.size, .int (Int32.ofNat o), .ref b])) := c4.trans (by
    refine XS.astoreN X3.here hexec rfl (hb hbytes d3) rfl rfl rfl ?_
    refine XS.aloadN X3.here hexec rfl (hb hbytes d4) rfl rfl ?_
    refine XS.iloadN X3.here hexec rfl (hb hbytes d5) rfl ?_
    refine XS.aloadN X3.here hexec rfl (hb hbytes d6) rfl rfl ?_
    refine iconstV X3.here hexec rfl 0 (hb hbytes d7) (by decide) ?_
    refine XS.iloadN X3.here hexec rfl (hb hbytes d8) rfl ?_
    exact Steps.refl _)
  obtain ⟨v6, T6, X6, E6, g6⟩ := X3.callS hexec (Cmp5.law l b A s.heap.size B3 o 0 len) hown (wks W (staticW U16 115 Cmp5.yN)) (wk W Cmp5.tab) (W := 0) (Nat.le_of_ble_eq_true rfl) (Nat.le_of_ble_eq_true rfl) (Nat.le_refl _) (by show 0 + len + 0 ≤ len; omega) (g := (mkF m 9 #[.val (.ref b), .val (.int (Int32.ofNat o)), .val (.int (Int32.ofNat len)), .val (.ref s.heap.size), .unset, .unset] [.int (Int32.ofNat len), .int (Int32.ofNat 0), .ref s.heap.size, .int (Int32.ofNat o), .ref b])) rfl (by rw [hml]; rfl) c5 (argsL := [.ref b, .int (Int32.ofNat o), .ref s.heap.size, .int (Int32.ofNat 0), .int (Int32.ofNat len)]) (rest := []) rfl rfl (by show 2 * 0 + 0 ≤ _; decide) (hb hbytes d9) (⟨rfl, hA3, ba3, hne, l1, by rw [bs3]; simp, hp⟩)
  obtain ⟨rfl, B6, p6, f6⟩ := E6
  have c7 : Steps p.tables e below (s₁.setTop (entryFrame m #[.ref b, .int (Int32.ofNat o), .int (Int32.ofNat len)] 6)) (T6.setTop (mkF m 12 #[.val (.ref b), .val (.int (Int32.ofNat o)), .val (.int (Int32.ofNat len)), .val (.ref s.heap.size), .unset, .unset] [.int (Int32.ofNat len)])) := g6
  have c8 : Steps p.tables e below (s₁.setTop (entryFrame m #[.ref b, .int (Int32.ofNat o), .int (Int32.ofNat len)] 6)) (T6.setTop (mkF m 58 #[.val (.ref b), .val (.int (Int32.ofNat o)), .val (.int (Int32.ofNat len)), .val (.ref s.heap.size), .val (.int (Int32.ofNat len)), .unset] [.ref s.heap.size])) := c7.trans (by
    refine XS.istore X6.here hexec rfl (hb hbytes d12) rfl rfl ?_
    refine XS.iload X6.here hexec rfl (hb hbytes d14) rfl ?_
    refine XS.iloadN X6.here hexec rfl (hb hbytes d16) rfl ?_
    refine XS.icmpYes X6.here hexec rfl (pc0 := 17) rfl (hb hbytes d17) rfl (ii_eq_t rfl) (by decide) rfl ?_
    refine XS.aloadN X6.here hexec rfl (hb hbytes d57) rfl rfl ?_
    exact Steps.refl _)
  have X8 := X6.wide (L' := []) (cells' := 1) (slots' := len) (fun x hx hlt => by
    simp only [List.nil_append, copyLocs, List.mem_map, List.mem_range] at hx
    obtain ⟨i, -, rfl⟩ := hx
    exact absurd hlt (Nat.lt_irrefl _)) (Nat.le_refl _) (by omega)
  exact ⟨T6, some (.ref s.heap.size), _, _, _, X8, rfl, rfl, rfl, (fun h => by cases h), ⟨⟨rfl, B6, ba3.like (X3.warmed.alike.symm.trans X6.warmed.alike) p6.1 f6.1 f6.2.1 f6.2.2.1, f6.2.1.trans bv3, by rw [X6.warmed.alike.findClass, f6.1]; exact bf3, by rw [f6.2.2.1, bs3]; simp, fun j hj => by rw [f6.2.2.2 j, if_pos (by omega)]; rfl, kp3.put p6 (Nat.le_refl _)⟩, by rw [p6.2.2, bh3, hh0]; simp⟩, fun fs hl => c8.trans (X8.areturnOut hexec rfl hret rfl (hb hbytes d58) hl)⟩
end Cmp3
namespace CodL
def yN : MethodName := ⟨"java/lang/StringUTF16", "coderFromArrayLen", "([BI)B"⟩
abbrev yB : ByteArray := jdk_52_method_15_code
theorem d0 : decode yB 0 = .ok (.iload_n 1, 1) := by decide +kernel
theorem d1 : decode yB 1 = .ok (.aload_n 0, 1) := by decide +kernel
theorem d2 : decode yB 2 = .ok (.arraylength, 1) := by decide +kernel
theorem d3 : decode yB 3 = .ok (.isub, 1) := by decide +kernel
theorem d4 : decode yB 4 = .ok (.bipush 31, 2) := by decide +kernel
theorem d6 : decode yB 6 = .ok (.iushr, 1) := by decide +kernel
theorem d7 : decode yB 7 = .ok (.i2b, 1) := by decide +kernel
theorem d8 : decode yB 8 = .ok (.ireturn, 1) := by decide +kernel
def site : List Cond := []
def tab : Cond := tabOf yN yB 2 (some .byte) site
def P (d : Addr) (B : Cell) (args : Array Value) (s : State) : Prop := args = #[.ref d, .int (Int32.ofNat B.slots.size)] ∧ Arr .byte d B s
def E (r : Option Value) (s u : State) : Prop := XT.PureE (some (.int 0)) r s u
/-- an array as long as the number of chars: LATIN1 -/
theorem law (l : Launch) (d : Addr) (B : Cell) : Law l yN 2 2 0 0 yB 2 (some .byte) site (P d B) E [] 0 0 := by
  refine Law.of_walk (plainFor_of_name (by decide +kernel)) (by decide +kernel) (by decide +kernel) (by decide) (fun _ _ h => by rw [h.1]; rfl) (fun _ U U' hal hh h => ⟨h.1, h.2.mv hal hh⟩) (fun r U U' V V' h1 hal h2 h => XT.PureE.mv r U U' V V' h1 hal h2 h) ?_
  intro p e s m args below meth c s₁ X0 hexec hbytes hml hret hlk hnm hown hh0 W hP
  obtain ⟨rfl, hB⟩ := hP
  have hB0 := hB.mv X0.warmed.alike hh0
  have c1 : Steps p.tables e below (s₁.setTop (entryFrame m #[.ref d, .int (Int32.ofNat B.slots.size)] 2)) (s₁.setTop (mkF m 0 #[.val (.ref d), .val (.int (Int32.ofNat B.slots.size))] [])) := entry rfl
  have c2 : Steps p.tables e below (s₁.setTop (entryFrame m #[.ref d, .int (Int32.ofNat B.slots.size)] 2)) (s₁.setTop (mkF m 2 #[.val (.ref d), .val (.int (Int32.ofNat B.slots.size))] [.ref d, .int (Int32.ofNat B.slots.size)])) := c1.trans (by
    refine XS.iloadN X0.here hexec rfl (hb hbytes d0) rfl ?_
    refine XS.aloadN X0.here hexec rfl (hb hbytes d1) rfl rfl ?_
    exact Steps.refl _)
  have c3 : Steps p.tables e below (s₁.setTop (entryFrame m #[.ref d, .int (Int32.ofNat B.slots.size)] 2)) (s₁.setTop (mkF m 8 #[.val (.ref d), .val (.int (Int32.ofNat B.slots.size))] [.int (lo8 (ushr (Int32.ofNat B.slots.size - Int32.ofNat B.slots.size) 31))])) := c2.trans (by
    refine X0.alen hexec hB0 rfl rfl (hb hbytes d2) ?_
    refine XS.isub X0.here hexec rfl (hb hbytes d3) rfl ?_
    refine bipushV X0.here hexec rfl 31 (hb hbytes d4) (by decide) ?_
    refine iushr X0.here hexec rfl (hb hbytes d6) rfl ?_
    refine i2b X0.here hexec rfl (hb hbytes d7) rfl ?_
    exact Steps.refl _)
  have e0 : lo8 (ushr (Int32.ofNat B.slots.size - Int32.ofNat B.slots.size) 31) = 0 := by rw [Int32.sub_self]; decide
  rw [e0] at c3
  exact ⟨s₁, some (.int 0), _, _, _, X0, rfl, rfl, rfl, (fun h => by cases h), ⟨rfl, hh0⟩, fun fs hl => c3.trans (X0.ireturnOut hexec hret rfl (Or.inr (Or.inr (Or.inl rfl))) (hb hbytes d8) hl)⟩
end CodL
/-- the String at a is Latin-1 over a new byte[] (the heap's one new cell): the low bytes of the len chars of A from o on; every cell but a is kept -/
def Got (a : Addr) (D : Cell) (fV fC : Field) (A : Cell) (o len : Nat) (r : Option Value) (s u : State) : Prop := r = none ∧ ∃ D' V : Cell, Blank "java/lang/String" a D' u ∧ Same D D' [fV.slot, fC.slot] ∧ D'.slots[fV.slot]? = some (.ref s.heap.size) ∧ D'.slots[fC.slot]? = some (.int 0) ∧ Arr .byte s.heap.size V u ∧ V.vm = .none ∧ u.vm.findClass "[B" = some V.cls ∧ V.slots.size = len ∧ (∀ j, j < len → V.slots[j]? = some (.int (lo8 (cv A (o + j))))) ∧ (∀ (y : Addr) (c : Cell), y ≠ a → s.heap[y]? = some c → u.heap[y]? = some c) ∧ u.heap.size = s.heap.size + 1
theorem Got.mv {a : Addr} {D A : Cell} {fV fC : Field} {o len : Nat} : ∀ r (U U' V V' : State), U'.heap = U.heap → V.vm.Alike V'.vm → V'.heap = V.heap → Got a D fV fC A o len r U V → Got a D fV fC A o len r U' V' :=
  fun r U U' V V' h1 hal h2 ⟨e0, D', X, a1, a2, a3, a4, a5, a6, a7, a8, a9, a10, a11⟩ => ⟨e0, D', X, a1.mv hal h2, a2, by rw [h1]; exact a3, a4, by rw [h1]; exact a5.mv hal h2, a6, by rw [hal.findClass]; exact a7, a8, a9, by rw [h1, h2]; exact a10, by rw [h1, h2]; exact a11⟩
namespace New4
def yN : MethodName := ⟨"java/lang/String", "<init>", "([CIILjava/lang/Void;)V"⟩
abbrev yB : ByteArray := jdk_42_method_149_code
theorem d0 : decode yB 0 = .ok (.aload_n 0, 1) := by decide +kernel
theorem d1 : decode yB 1 = .ok (.invokespecial 1, 3) := by decide +kernel
theorem d4 : decode yB 4 = .ok (.iload_n 3, 1) := by decide +kernel
theorem d5 : decode yB 5 = .ok (.ifCond (.ne) 22, 3) := by decide +kernel
theorem d27 : decode yB 27 = .ok (.getstatic 38, 3) := by decide +kernel
theorem d30 : decode yB 30 = .ok (.ifCond (.eq) 28, 3) := by decide +kernel
theorem d33 : decode yB 33 = .ok (.aload_n 1, 1) := by decide +kernel
theorem d34 : decode yB 34 = .ok (.iload_n 2, 1) := by decide +kernel
theorem d35 : decode yB 35 = .ok (.iload_n 3, 1) := by decide +kernel
theorem d36 : decode yB 36 = .ok (.invokestatic 177, 3) := by decide +kernel
theorem d39 : decode yB 39 = .ok (.astore 5, 2) := by decide +kernel
theorem d41 : decode yB 41 = .ok (.aload_n 0, 1) := by decide +kernel
theorem d42 : decode yB 42 = .ok (.aload 5, 2) := by decide +kernel
theorem d44 : decode yB 44 = .ok (.iload_n 3, 1) := by decide +kernel
theorem d45 : decode yB 45 = .ok (.invokestatic 47, 3) := by decide +kernel
theorem d48 : decode yB 48 = .ok (.putfield 15, 3) := by decide +kernel
theorem d51 : decode yB 51 = .ok (.aload_n 0, 1) := by decide +kernel
theorem d52 : decode yB 52 = .ok (.aload 5, 2) := by decide +kernel
theorem d54 : decode yB 54 = .ok (.putfield 9, 3) := by decide +kernel
theorem d57 : decode yB 57 = .ok (.return_, 1) := by decide +kernel
def site : List Cond := [.fieldLink "java/lang/String" 38 "java/lang/String" "COMPACT_STRINGS" "Z", Cmp3.tab, CodL.tab, .laysFinal "java/lang/String" "java/lang/String" "value" "[B", .fieldLink "java/lang/String" 9 "java/lang/String" "value" "[B", .laysFinal "java/lang/String" "java/lang/String" "coder" "B", .fieldLink "java/lang/String" 15 "java/lang/String" "coder" "B"] ++ objW "java/lang/String" 1 ++ staticW "java/lang/String" 177 Cmp3.yN ++ staticW "java/lang/String" 47 CodL.yN
def tab : Cond := tabOf yN yB 6 none site
def P (a : Addr) (D : Cell) (fV fC : Field) (b : Addr) (A : Cell) (z : Int32) (o len : Nat) (args : Array Value) (s : State) : Prop := args = #[.ref a, .ref b, .int (Int32.ofNat o), .int (Int32.ofNat len), .null] ∧ Blank "java/lang/String" a D s ∧ Found "java/lang/String" "value" "[B" fV s ∧ Found "java/lang/String" "coder" "B" fC s ∧ Ch b A s ∧ StaticIs s "java/lang/String" "COMPACT_STRINGS" "Z" (.int z) ∧ ¬ z = 0 ∧ 0 < len ∧ o + len ≤ A.slots.size ∧ len ≤ 536870912 ∧ ∀ i, i < len → ¬ 255 < cv A (o + i)
def E (a : Addr) (D : Cell) (fV fC : Field) (A : Cell) (o len : Nat) (r : Option Value) (s u : State) : Prop := Got a D fV fC A o len r s u
/-- len > 0, no char of the range above 255: a Latin-1 String of their low bytes -/
theorem law (l : Launch) (a : Addr) (D : Cell) (fV fC : Field) (b : Addr) (A : Cell) (z : Int32) (o len : Nat) : Law l yN 5 4 2 35 yB 6 none site (P a D fV fC b A z o len) (E a D fV fC A o len) [⟨a, fC.slot⟩, ⟨a, fV.slot⟩] 1 len := by
  refine Law.of_walk (plainFor_of_name (by decide +kernel)) (by decide +kernel) (by decide +kernel) (by decide) (fun _ _ h => by rw [h.1]; rfl) (fun _ U U' hal hh h => ⟨h.1, h.2.1.mv hal hh, h.2.2.1.al hal, h.2.2.2.1.al hal, h.2.2.2.2.1.mv hal hh, h.2.2.2.2.2.1.there hal hh, h.2.2.2.2.2.2⟩) (fun r U U' V V' h1 hal h2 h => Got.mv r U U' V V' h1 hal h2 h) ?_
  intro p e s m args below meth c s₁ X0 hexec hbytes hml hret hlk hnm hown hh0 W hP
  obtain ⟨rfl, hB, f1, f2, hA, s1, hz, l0, l1, l2, hp⟩ := hP
  have a31 := hA.1.2.2.2
  have c1 : Steps p.tables e below (s₁.setTop (entryFrame m #[.ref a, .ref b, .int (Int32.ofNat o), .int (Int32.ofNat len), .null] 6)) (s₁.setTop (mkF m 0 #[.val (.ref a), .val (.ref b), .val (.int (Int32.ofNat o)), .val (.int (Int32.ofNat len)), .val .null, .unset] [])) := entry rfl
  have c2 : Steps p.tables e below (s₁.setTop (entryFrame m #[.ref a, .ref b, .int (Int32.ofNat o), .int (Int32.ofNat len), .null] 6)) (s₁.setTop (mkF m 1 #[.val (.ref a), .val (.ref b), .val (.int (Int32.ofNat o)), .val (.int (Int32.ofNat len)), .val .null, .unset] [.ref a])) := c1.trans (by
    refine XS.aloadN X0.here hexec rfl (hb hbytes d0) rfl rfl ?_
    exact Steps.refl _)
  obtain ⟨T3, X3, q3, st3⟩ := X0.oinit hexec hown (wks W (objW "java/lang/String" 1)) (g := (mkF m 1 #[.val (.ref a), .val (.ref b), .val (.int (Int32.ofNat o)), .val (.int (Int32.ofNat len)), .val .null, .unset] [.ref a])) rfl (by rw [hml]; rfl) (rest := []) rfl (hb hbytes d1) (W := 0) (by show 2 * 0 + 0 ≤ _; decide) (Nat.le_of_ble_eq_true rfl) (Nat.le_of_ble_eq_true rfl)
  have hh3 := q3.trans hh0
  have c4 : Steps p.tables e below (s₁.setTop (entryFrame m #[.ref a, .ref b, .int (Int32.ofNat o), .int (Int32.ofNat len), .null] 6)) (T3.setTop (mkF m 27 #[.val (.ref a), .val (.ref b), .val (.int (Int32.ofNat o)), .val (.int (Int32.ofNat len)), .val .null, .unset] [])) := (c2.trans (st3 _ (Steps.refl _))).trans (by
    refine XS.iloadN X3.here hexec rfl (hb hbytes d4) rfl ?_
    refine XS.ifYes X3.here hexec rfl (pc0 := 5) rfl (hb hbytes d5) rfl (i0_ne_t (nz32 (by omega) l0)) (by decide) rfl ?_
    exact Steps.refl _)
  obtain ⟨T5, X5, q5, st5⟩ := X3.sget hexec hown (wk W (.fieldLink "java/lang/String" 38 "java/lang/String" "COMPACT_STRINGS" "Z")) s1 (fun _ _ h => by rw [hh3]; exact h) (g := (mkF m 27 #[.val (.ref a), .val (.ref b), .val (.int (Int32.ofNat o)), .val (.int (Int32.ofNat len)), .val .null, .unset] [])) rfl (hb hbytes d27)
  have hh5 := q5.trans hh3
  have c6 : Steps p.tables e below (s₁.setTop (entryFrame m #[.ref a, .ref b, .int (Int32.ofNat o), .int (Int32.ofNat len), .null] 6)) (T5.setTop (mkF m 30 #[.val (.ref a), .val (.ref b), .val (.int (Int32.ofNat o)), .val (.int (Int32.ofNat len)), .val .null, .unset] [.int z])) := c4.trans (st5 _ (Steps.refl _))
  have c7 : Steps p.tables e below (s₁.setTop (entryFrame m #[.ref a, .ref b, .int (Int32.ofNat o), .int (Int32.ofNat len), .null] 6)) (T5.setTop (mkF m 36 #[.val (.ref a), .val (.ref b), .val (.int (Int32.ofNat o)), .val (.int (Int32.ofNat len)), .val .null, .unset] [.int (Int32.ofNat len), .int (Int32.ofNat o), .ref b])) := c6.trans (by
    refine XS.ifNo X5.here hexec rfl (hb hbytes d30) rfl (i0_eq_f hz) ?_
    refine XS.aloadN X5.here hexec rfl (hb hbytes d33) rfl rfl ?_
    refine XS.iloadN X5.here hexec rfl (hb hbytes d34) rfl ?_
    refine XS.iloadN X5.here hexec rfl (hb hbytes d35) rfl ?_
    exact Steps.refl _)
  obtain ⟨v8, T8, X8, E8, g8⟩ := X5.callS hexec (Cmp3.law l b A o len) hown (wks W (staticW "java/lang/String" 177 Cmp3.yN)) (wk W Cmp3.tab) (W := 0) (Nat.le_of_ble_eq_true rfl) (Nat.le_of_ble_eq_true rfl) (Nat.le_refl _) (by show 0 + len ≤ len; omega) (g := (mkF m 36 #[.val (.ref a), .val (.ref b), .val (.int (Int32.ofNat o)), .val (.int (Int32.ofNat len)), .val .null, .unset] [.int (Int32.ofNat len), .int (Int32.ofNat o), .ref b])) rfl (by rw [hml]; rfl) c7 (argsL := [.ref b, .int (Int32.ofNat o), .int (Int32.ofNat len)]) (rest := []) rfl rfl (by show 2 * 0 + 0 ≤ _; decide) (hb hbytes d36) (⟨rfl, hA.mv X5.warmed.alike hh5, l1, l2, hp⟩)
  obtain ⟨e8, z8⟩ := E8
  obtain ⟨rfl, N, n1, n2, n3, n4, n5, n6⟩ := NewArr.mv _ T5 s _ _ hh5.symm (Vm.Alike.refl _) rfl e8
  rw [hh5] at z8
  have hB1 := hB.keep X8.warmed.alike (n6 _ _ hB.1)
  have hne : s.heap.size ≠ a := (Nat.ne_of_lt (Array.getElem?_eq_some_iff.mp hB.1).1).symm
  have c9 : Steps p.tables e below (s₁.setTop (entryFrame m #[.ref a, .ref b, .int (Int32.ofNat o), .int (Int32.ofNat len), .null] 6)) (T8.setTop (mkF m 39 #[.val (.ref a), .val (.ref b), .val (.int (Int32.ofNat o)), .val (.int (Int32.ofNat len)), .val .null, .unset] [.ref s.heap.size])) := g8
  have c10 : Steps p.tables e below (s₁.setTop (entryFrame m #[.ref a, .ref b, .int (Int32.ofNat o), .int (Int32.ofNat len), .null] 6)) (T8.setTop (mkF m 45 #[.val (.ref a), .val (.ref b), .val (.int (Int32.ofNat o)), .val (.int (Int32.ofNat len)), .val .null, .val (.ref s.heap.size)] [.int (Int32.ofNat N.slots.size), .ref s.heap.size, .ref a])) := by
    have hc : Steps p.tables e below (s₁.setTop (entryFrame m #[.ref a, .ref b, .int (Int32.ofNat o), .int (Int32.ofNat len), .null] 6)) (T8.setTop (mkF m 45 #[.val (.ref a), .val (.ref b), .val (.int (Int32.ofNat o)), .val (.int (Int32.ofNat len)), .val .null, .val (.ref s.heap.size)] [.int (Int32.ofNat len), .ref s.heap.size, .ref a])) := c9.trans (by
      refine XS.astore X8.here hexec rfl (hb hbytes d39) rfl rfl rfl ?_
      refine XS.aloadN X8.here hexec rfl (hb hbytes d41) rfl rfl ?_
      refine XS.aload X8.here hexec rfl (hb hbytes d42) rfl rfl ?_
      refine XS.iloadN X8.here hexec rfl (hb hbytes d44) rfl ?_
      exact Steps.refl _)
    rw [n4]; exact hc
  obtain ⟨v11, T11, X11, E11, g11⟩ := X8.callS hexec (CodL.law l s.heap.size N) hown (wks W (staticW "java/lang/String" 47 CodL.yN)) (wk W CodL.tab) (W := 1) (Nat.le_of_ble_eq_true rfl) (Nat.le_of_ble_eq_true rfl) (Nat.le_refl _) (by show 0 + len + 0 ≤ len; omega) (g := (mkF m 45 #[.val (.ref a), .val (.ref b), .val (.int (Int32.ofNat o)), .val (.int (Int32.ofNat len)), .val .null, .val (.ref s.heap.size)] [.int (Int32.ofNat N.slots.size), .ref s.heap.size, .ref a])) rfl (by rw [hml]; rfl) c10 (argsL := [.ref s.heap.size, .int (Int32.ofNat N.slots.size)]) (rest := [.ref a]) rfl rfl (by show 2 * 0 + (1 + 0) ≤ _; decide) (hb hbytes d45) (⟨rfl, n1⟩)
  obtain ⟨rfl, q11⟩ := E11
  have hB11 := hB1.mv (X8.warmed.alike.symm.trans X11.warmed.alike) q11
  have c12 : Steps p.tables e below (s₁.setTop (entryFrame m #[.ref a, .ref b, .int (Int32.ofNat o), .int (Int32.ofNat len), .null] 6)) (T11.setTop (mkF m 48 #[.val (.ref a), .val (.ref b), .val (.int (Int32.ofNat o)), .val (.int (Int32.ofNat len)), .val .null, .val (.ref s.heap.size)] [.int 0, .ref a])) := g11
  obtain ⟨T13, X13, p13, bl13, sl13, st13⟩ := X11.finit hexec hown (wk W (.fieldLink "java/lang/String" 15 "java/lang/String" "coder" "B")) (Or.inr ⟨_, (wk W (.laysFinal "java/lang/String" "java/lang/String" "coder" "B"))⟩) (Or.inl ⟨rfl, hnm⟩) f2 (Or.inl rfl) hB11 (t := .byte) (by decide +kernel) rfl (g := (mkF m 48 #[.val (.ref a), .val (.ref b), .val (.int (Int32.ofNat o)), .val (.int (Int32.ofNat len)), .val .null, .val (.ref s.heap.size)] [.int 0, .ref a])) rfl (rest := []) rfl (hb hbytes d48)
  have c14 : Steps p.tables e below (s₁.setTop (entryFrame m #[.ref a, .ref b, .int (Int32.ofNat o), .int (Int32.ofNat len), .null] 6)) (T13.setTop (mkF m 54 #[.val (.ref a), .val (.ref b), .val (.int (Int32.ofNat o)), .val (.int (Int32.ofNat len)), .val .null, .val (.ref s.heap.size)] [.ref s.heap.size, .ref a])) := (c12.trans (st13 _ (Steps.refl _))).trans (by
    refine XS.aloadN X13.here hexec rfl (hb hbytes d51) rfl rfl ?_
    refine XS.aload X13.here hexec rfl (hb hbytes d52) rfl rfl ?_
    exact Steps.refl _)
  obtain ⟨T15, X15, p15, bl15, sl15, st15⟩ := X13.finit hexec hown (wk W (.fieldLink "java/lang/String" 9 "java/lang/String" "value" "[B")) (Or.inr ⟨_, (wk W (.laysFinal "java/lang/String" "java/lang/String" "value" "[B"))⟩) (Or.inl ⟨rfl, hnm⟩) f1 (Or.inl rfl) bl13 (t := (.array .byte)) (by decide +kernel) rfl (g := (mkF m 54 #[.val (.ref a), .val (.ref b), .val (.int (Int32.ofNat o)), .val (.int (Int32.ofNat len)), .val .null, .val (.ref s.heap.size)] [.ref s.heap.size, .ref a])) rfl (rest := []) rfl (hb hbytes d54)
  have c16 : Steps p.tables e below (s₁.setTop (entryFrame m #[.ref a, .ref b, .int (Int32.ofNat o), .int (Int32.ofNat len), .null] 6)) (T15.setTop (mkF m 57 #[.val (.ref a), .val (.ref b), .val (.int (Int32.ofNat o)), .val (.int (Int32.ofNat len)), .val .null, .val (.ref s.heap.size)] [])) := c14.trans (st15 _ (Steps.refl _))
  have ap := apart (Or.inr ⟨_, (wk W (.laysFinal "java/lang/String" "java/lang/String" "value" "[B"))⟩) (Or.inr ⟨_, (wk W (.laysFinal "java/lang/String" "java/lang/String" "coder" "B"))⟩) f1 f2 (t₁ := .array .byte) (t₂ := .byte) (by decide +kernel) (by decide +kernel) (by decide)
  have al := X8.warmed.alike.symm.trans X15.warmed.alike
  have n7 : T11.heap[s.heap.size]? = some N := by rw [q11]; exact n1.1
  exact ⟨T15, none, _, _, _, X15, by simp, rfl, by omega, (fun _ => rfl), ⟨rfl, _, N, bl15, ((Same.refl D _).set _ (by simp)).set _ (by simp), sl15, (Cell.slots_setSlot_ne _ ap).trans sl13, n1.keep al (p15.other hne (p13.other hne n7)), n2, by rw [al.findClass]; exact n3, n4, n5, fun y c h1 h2 => p15.other h1 (p13.other h1 (by rw [q11]; exact n6 y c h2)), by rw [p15.2.2, p13.2.2, q11]; exact z8⟩, fun fs hl => c16.trans (X15.returnOut hexec hret (hb hbytes d57) hl)⟩
end New4
namespace New1
def yN : MethodName := ⟨"java/lang/String", "<init>", "([C)V"⟩
abbrev yB : ByteArray := jdk_42_method_3_code
theorem d0 : decode yB 0 = .ok (.aload_n 0, 1) := by decide +kernel
theorem d1 : decode yB 1 = .ok (.aload_n 1, 1) := by decide +kernel
theorem d2 : decode yB 2 = .ok (.iconst 0, 1) := by decide +kernel
theorem d3 : decode yB 3 = .ok (.aload_n 1, 1) := by decide +kernel
theorem d4 : decode yB 4 = .ok (.arraylength, 1) := by decide +kernel
theorem d5 : decode yB 5 = .ok (.aconst_null, 1) := by decide +kernel
theorem d6 : decode yB 6 = .ok (.invokespecial 27, 3) := by decide +kernel
theorem d9 : decode yB 9 = .ok (.return_, 1) := by decide +kernel
def site : List Cond := [New4.tab] ++ initW "java/lang/String" 27 New4.yN
def tab : Cond := tabOf yN yB 2 none site
def P (a : Addr) (D : Cell) (fV fC : Field) (b : Addr) (A : Cell) (z : Int32) (args : Array Value) (s : State) : Prop := args = #[.ref a, .ref b] ∧ Blank "java/lang/String" a D s ∧ Found "java/lang/String" "value" "[B" fV s ∧ Found "java/lang/String" "coder" "B" fC s ∧ Ch b A s ∧ StaticIs s "java/lang/String" "COMPACT_STRINGS" "Z" (.int z) ∧ ¬ z = 0 ∧ 0 < A.slots.size ∧ A.slots.size ≤ 536870912 ∧ ∀ i, i < A.slots.size → ¬ 255 < cv A i
def E (a : Addr) (D : Cell) (fV fC : Field) (A : Cell) (r : Option Value) (s u : State) : Prop := Got a D fV fC A 0 A.slots.size r s u
/-- new String(chars), not empty, no char above 255: a Latin-1 String of their low bytes -/
theorem law (l : Launch) (a : Addr) (D : Cell) (fV fC : Field) (b : Addr) (A : Cell) (z : Int32) : Law l yN 2 1 3 52 yB 2 none site (P a D fV fC b A z) (E a D fV fC A) [⟨a, fC.slot⟩, ⟨a, fV.slot⟩] 1 A.slots.size := by
  refine Law.of_walk (plainFor_of_name (by decide +kernel)) (by decide +kernel) (by decide +kernel) (by decide) (fun _ _ h => by rw [h.1]; rfl) (fun _ U U' hal hh h => ⟨h.1, h.2.1.mv hal hh, h.2.2.1.al hal, h.2.2.2.1.al hal, h.2.2.2.2.1.mv hal hh, h.2.2.2.2.2.1.there hal hh, h.2.2.2.2.2.2⟩) (fun r U U' V V' h1 hal h2 h => Got.mv r U U' V V' h1 hal h2 h) ?_
  intro p e s m args below meth c s₁ X0 hexec hbytes hml hret hlk hnm hown hh0 W hP
  obtain ⟨rfl, hB, f1, f2, hA, s1, hz, l0, l2, hp⟩ := hP
  have c1 : Steps p.tables e below (s₁.setTop (entryFrame m #[.ref a, .ref b] 2)) (s₁.setTop (mkF m 0 #[.val (.ref a), .val (.ref b)] [])) := entry rfl
  have c2 : Steps p.tables e below (s₁.setTop (entryFrame m #[.ref a, .ref b] 2)) (s₁.setTop (mkF m 6 #[.val (.ref a), .val (.ref b)] [.null, .int (Int32.ofNat A.slots.size), .int 0, .ref b, .ref a])) := c1.trans (by
    refine XS.aloadN X0.here hexec rfl (hb hbytes d0) rfl rfl ?_
    refine XS.aloadN X0.here hexec rfl (hb hbytes d1) rfl rfl ?_
    refine iconstV X0.here hexec rfl 0 (hb hbytes d2) (by decide) ?_
    refine XS.aloadN X0.here hexec rfl (hb hbytes d3) rfl rfl ?_
    refine X0.alen hexec (hA.1.mv X0.warmed.alike hh0) rfl rfl (hb hbytes d4) ?_
    refine XS.aconstNull X0.here hexec rfl (hb hbytes d5) ?_
    exact Steps.refl _)
  obtain ⟨v3, T3, X3, E3, g3⟩ := X0.callN hexec (New4.law l a D fV fC b A z 0 A.slots.size) rfl hown (wks W (initW "java/lang/String" 27 New4.yN)) (W New4.tab (by simp only [site, List.mem_cons, List.mem_append, true_or, or_true])) (W := 0) (Nat.le_of_ble_eq_true rfl) (Nat.le_of_ble_eq_true rfl) (Nat.le_refl _) (by show 0 + A.slots.size ≤ A.slots.size; omega) (g := (mkF m 6 #[.val (.ref a), .val (.ref b)] [.null, .int (Int32.ofNat A.slots.size), .int (Int32.ofNat 0), .ref b, .ref a])) rfl (by rw [hml]; rfl) c2 (argsL := [.ref b, .int (Int32.ofNat 0), .int (Int32.ofNat A.slots.size), .null]) (rest := []) rfl rfl (by show 2 * 0 + 0 ≤ _; decide) (hb hbytes d6) (⟨rfl, hB.mv X0.warmed.alike hh0, f1.al X0.warmed.alike, f2.al X0.warmed.alike, hA.mv X0.warmed.alike hh0, s1.there X0.warmed.alike hh0, hz, l0, by omega, l2, fun i hi => by rw [Nat.zero_add]; exact hp i hi⟩)
  have e0 := Got.mv _ s₁ s _ _ hh0.symm (Vm.Alike.refl _) rfl E3
  obtain rfl := e0.1
  have c4 : Steps p.tables e below (s₁.setTop (entryFrame m #[.ref a, .ref b] 2)) (T3.setTop (mkF m 9 #[.val (.ref a), .val (.ref b)] [])) := g3
  exact ⟨T3, none, _, _, _, X3, by simp, rfl, by omega, (fun _ => rfl), e0, fun fs hl => c4.trans (X3.returnOut hexec hret (hb hbytes d9) hl)⟩
theorem pays {l : Launch} {R : Room} {p : Program} {e : Env} {below : List Frame} {s : State} {sargs : Array Value} {len W : Nat} (a : Addr) (D : Cell) (fV fC : Field) (b : Addr) (A : Cell) (z : Int32) (htab : tab.before sargs s = true) (hfr : 4 ≤ R.frames) (hlo : W + 65 ≤ R.locals) :
    Back l R p e below s sargs yN len W (fun A₁ a₁ => A₁.cells + 1 ≤ R.cells ∧ A₁.slots + A.slots.size ≤ R.slots ∧ P a D fV fC b A z a₁ A₁.U) (fun A₁ _ v₁ B₁ => E a D fV fC A v₁ A₁.U B₁.U ∧ B₁.locs = A₁.locs ++ [⟨a, fC.slot⟩, ⟨a, fV.slot⟩] ∧ B₁.cells = A₁.cells + 1 ∧ B₁.slots = A₁.slots + A.slots.size) :=
  (law l a D fV fC b A z).pays htab hfr (by omega)
end New1
/-- the byte, read back as charAt reads it, is the char -/
theorem lo8_mask {x : Int32} (h0 : ¬ x < 0) (h1 : ¬ 255 < x) : lo8 x &&& 255 = x := by
  have t : ∀ k : Fin 256, lo8 (Int32.ofNat k.val) &&& 255 = Int32.ofNat k.val := by decide +kernel
  rw [Int32.lt_iff_toInt_lt] at h0 h1
  have e0 : (0 : Int32).toInt = 0 := rfl
  have e1 : (255 : Int32).toInt = 255 := rfl
  obtain ⟨k, hk⟩ : ∃ k : Nat, x.toInt = k := ⟨x.toInt.toNat, by omega⟩
  have hx : x = Int32.ofNat k := Int32.toInt_inj.mp (by rw [hk, Int32.toInt_ofNat_small (by omega)])
  rw [hx]
  exact t ⟨k, by omega⟩
end StrChars
namespace StrChars.Road
open Jvm Sem ClassFile Op Lib Jvm.Stand Jvm.Free Jvm.Free.XT
open Jvm.Lib.Cold (StaticIs)
abbrev ST : String := "java/lang/String"
/-- every table word that New1's law asks, flat -/
abbrev words : List Jvm.Cond := [.code New1.yN New1.yB 2 none, .initialized ST, .methodLink ST 27 New4.yN, .instanceMethod New4.yN,
  .code New4.yN New4.yB 6 none, .fieldLink ST 38 ST "COMPACT_STRINGS" "Z", .laysFinal ST ST "value" "[B", .fieldLink ST 9 ST "value" "[B", .laysFinal ST ST "coder" "B", .fieldLink ST 15 ST "coder" "B",
  .methodLink ST 1 Lib.objectInit, .instanceMethod Lib.objectInit, .code Lib.objectInit ⟨#[0xb1]⟩ 1 none, .methodLink ST 177 Cmp3.yN, .static Cmp3.yN, .methodLink ST 47 CodL.yN, .static CodL.yN,
  .code Cmp3.yN Cmp3.yB 6 (some (.array .byte)), .initialized U16, .arrayClass .byte, .methodLink U16 115 Cmp5.yN, .static Cmp5.yN, .code Cmp5.yN Cmp5.yB 7 (some .int), .code CodL.yN CodL.yB 2 (some .byte)]
theorem tab_of {a : Array Value} {s : State} (h : ∀ w ∈ words, w.before a s = true) : New1.tab.before a s = true := by
  have h5 : Cmp5.tab.before a s = true := unparts (wk h (.code Cmp5.yN Cmp5.yB 7 (some .int))) (wks h (.initialized Cmp5.yN.cls :: Cmp5.site))
  have hc : CodL.tab.before a s = true := unparts (wk h (.code CodL.yN CodL.yB 2 (some .byte))) (wks h (.initialized CodL.yN.cls :: CodL.site))
  have q5 : ∀ w ∈ Cmp5.tab :: words, w.before a s = true := fun w hw => (List.mem_cons.mp hw).elim (fun e => e ▸ h5) (h w)
  have h3 : Cmp3.tab.before a s = true := unparts (wk q5 (.code Cmp3.yN Cmp3.yB 6 (some (.array .byte)))) (wks q5 (.initialized Cmp3.yN.cls :: Cmp3.site))
  have q3 : ∀ w ∈ Cmp3.tab :: CodL.tab :: words, w.before a s = true := fun w hw => (List.mem_cons.mp hw).elim (fun e => e ▸ h3) fun hw => (List.mem_cons.mp hw).elim (fun e => e ▸ hc) (h w)
  have h4 : New4.tab.before a s = true := unparts (wk q3 (.code New4.yN New4.yB 6 none)) (wks q3 (.initialized New4.yN.cls :: New4.site))
  have q4 : ∀ w ∈ New4.tab :: words, w.before a s = true := fun w hw => (List.mem_cons.mp hw).elim (fun e => e ▸ h4) (h w)
  exact unparts (wk q4 (.code New1.yN New1.yB 2 none)) (wks q4 (.initialized New1.yN.cls :: New1.site))
/-- the words ride from the start Z to the walk's own state -/
theorem moved {Z s : State} {a0 args : Array Value} (hZ : Z.Warmed39 s.vm) (hw : ∀ d ∈ words, d.before a0 Z = true) : ∀ d ∈ words, d.before args s = true := fun d hd => by
  have q := hw d hd
  have t : ∀ d ∈ words, d = .arrayClass .byte ∨ (d.onTables && d.keepsFace) = true := by decide +kernel
  rcases t d hd with rfl | t
  · exact RoadKit.mvA hZ q
  · exact RoadKit.mv hZ q t
/-- WHAT COMES BACK, over the tables of the start Z: h the heap at the call, h' behind it -/
def Q (Z : State) (x : Addr) (A : Cell) (h : Heap) (v : Option Value) (h' : Heap) (L : List Loc) : Prop := v = none ∧ (∀ y ∈ L, y.base = x) ∧ RoadKit.Keep h h' [x] ∧ h'.size = h.size + 1 ∧ RoadKit.Exa Z h' x ST ∧ RoadKit.Fld Z h' x ST "value" "[B" (.ref h.size) ∧ RoadKit.Fld Z h' x ST "coder" "B" (.int 0) ∧
  (∃ V : Cell, RoadKit.Arr Z h' h.size V .byte ∧ V.vm = .none ∧ Z.vm.findClass "[B" = some V.cls ∧ V.slots.size = A.slots.size ∧ ∀ j, j < A.slots.size → V.slots[j]? = some (.int (lo8 (cv A j)))) ∧
  ∀ (O n d : String) (w : Value), RoadKit.Fld Z h x O n d w → RoadKit.slotOf Z O n d ≠ RoadKit.slotOf Z ST "value" "[B" → RoadKit.slotOf Z O n d ≠ RoadKit.slotOf Z ST "coder" "B" → RoadKit.Fld Z h' x O n d w
/-- **new String(chars) AT A CALL, IN THE ROAD'S FORM**: for specialBack behind newO: x the fresh String, b the char[] with the cell A -/
theorem back {p : Program} {l : Launch} {e : Env} {R : Room} {s : State} {args : Array Value} {below : List Frame} {len W : Nat} {Z : State} {a0 : Array Value} {h : Heap} (hZ : Z.Warmed39 s.vm) (hw : ∀ d ∈ words, d.before a0 Z = true) {kI : Nat} (wi : (Jvm.Cond.instantiable ST kI).before a0 Z = true)
    {x b : Addr} {A : Cell} {z : Int32} {v0 c0 : Value} (E : RoadKit.Exa Z h x ST) (V : RoadKit.Fld Z h x ST "value" "[B" v0) (C : RoadKit.Fld Z h x ST "coder" "B" c0) (K : RoadKit.Arr Z h b A .char) (hty : Typed .char A) (S : RoadKit.Sta Z h ST "COMPACT_STRINGS" "Z" (.int z)) (hz : ¬ z = 0)
    (l0 : 0 < A.slots.size) (l2 : A.slots.size ≤ 536870912) (hp : ∀ i, i < A.slots.size → ¬ 255 < cv A i) (hfr : 4 ≤ R.frames) (hlo : W + 65 ≤ R.locals) :
    Back l R p e below s args New1.yN len W (fun P a => a = #[.ref x, .ref b] ∧ P.U.heap = h ∧ P.cells + 1 ≤ R.cells ∧ P.slots + A.slots.size ≤ R.slots)
      (fun P _ v B => ∃ L, Q Z x A h v B.U.heap L ∧ B.locs = P.locs ++ L ∧ B.cells = P.cells + 1 ∧ B.slots = P.slots + A.slots.size) := by
  intro m meth c P g ig mk a X hg hsize hdg hW hn hp'
  obtain ⟨rfl, rfl, r1, r2⟩ := hp'
  have al : Z.vm.Alike P.U.vm := hZ.alike.trans X.warmed.alike
  obtain ⟨D, cfV, kV, iV, fV, hD, gV, stV, knV, obV, asV, slV⟩ := id V
  obtain ⟨D', cfC, kC, iC, fC, hD', gC, stC, -, -, asC, slC⟩ := id C
  cases hD.symm.trans hD'
  obtain ⟨D2, kD, e1, e2, e3, e4, e5⟩ := id E
  cases hD.symm.trans e1
  obtain ⟨c2, k2, i1, i2, i3, -⟩ := Cond.instantiable_spec wi
  cases e2.symm.trans i1
  cases e3.symm.trans i2
  obtain ⟨kU, u1, u2⟩ := al.2.2 _ _ e3
  have hB : Blank ST x D P.U := ⟨hD, ⟨knV, fun q hq => by rw [hq] at obV; cases obV⟩, by rw [al.findClass]; exact e2, kU, u1, by rw [u2]; exact i3, by rw [u2]; exact e5 i3⟩
  have F1 : Found ST "value" "[B" fV P.U := ⟨SBG.found_only al ⟨cfV, kV, iV, gV⟩, stV⟩
  have F2 : Found ST "coder" "B" fC P.U := ⟨SBG.found_only al ⟨cfC, kC, iC, gC⟩, stC⟩
  have hA : Ch b A P.U := ⟨⟨K.1, State.isArrayOf_alike al K.2.1, K.2.2, by omega⟩, hty⟩
  have hS : StaticIs P.U ST "COMPACT_STRINGS" "Z" (.int z) := by
    obtain ⟨cfS, iS, kS, fS, st, cS, t1, t2, t3, t4, t5, t6, t7⟩ := S
    exact StaticIs.there (s := { Z with heap := P.U.heap }) ⟨cfS, iS, kS, fS, st, cS, t1, t2, t3, t4, t5, (fun q => by rw [q] at t6; cases t6), t7⟩ al rfl
  obtain ⟨v, B, X', ⟨⟨hv, E', V', q1, q2, q3, q4, q5, q6, q7, q8, q9, q10, q11⟩, hl, hc, hs⟩, st⟩ := New1.pays x D fV fC b A z (tab_of (moved hZ hw)) hfr hlo m meth c P g ig mk _ X hg hsize hdg hW hn ⟨r1, r2, rfl, hB, F1, F2, hA, hS, hz, l0, l2, hp⟩
  have al' : Z.vm.Alike B.U.vm := hZ.alike.trans X'.warmed.alike
  have hsz : E'.slots.size = D.slots.size := by
    obtain ⟨-, -, -, kB, w1, w2, w3⟩ := q1
    obtain ⟨kB', y1, y2⟩ := al'.2.2 _ _ e3
    rw [q2.2.1] at w1
    cases w1.symm.trans y1
    rw [w3, e5 i3, y2]
  refine ⟨v, B, X', ⟨_, ⟨hv, ?_, ⟨by omega, fun y cy hy hn' => q10 y cy (by simpa using hn') hy, fun y cy hy => ?_⟩, q11, ⟨E', _, q1.1, by rw [q2.2.1]; exact e2, by rw [q2.2.1]; exact e3, by rw [q2.1]; exact obV, fun _ => by rw [hsz]; exact e5 i3⟩,
    ⟨E', cfV, kV, iV, fV, q1.1, gV, stV, by rw [q2.1]; exact knV, by rw [q2.1]; exact obV, by rw [q2.2.1]; exact asV, q3⟩, ⟨E', cfC, kC, iC, fC, q1.1, gC, stC, by rw [q2.1]; exact knV, by rw [q2.1]; exact obV, by rw [q2.2.1]; exact asC, q4⟩,
    ⟨V', ⟨q5.1, State.isArrayOf_alike al'.symm q5.2.1, q5.2.2.1⟩, q6, by rw [← al'.findClass]; exact q7, q8, fun j hj => by have := q9 j hj; rwa [Nat.zero_add] at this⟩, fun O n d w F n1 n2 => ?_⟩, hl, hc, hs⟩, st⟩
  · intro y hy
    simp only [List.mem_cons, List.not_mem_nil, or_false] at hy
    rcases hy with rfl | rfl <;> rfl
  · by_cases q : y = x
    · subst q
      cases hD.symm.trans hy
      exact ⟨E', q1.1, q2.2.1, q2.1, hsz⟩
    · exact ⟨cy, q10 y cy q hy, rfl, rfl, rfl⟩
  · obtain ⟨D3, cf, k, i, f, g1, g2, g3, g4, g5, g6, g7⟩ := F
    cases hD.symm.trans g1
    simp only [RoadKit.slotOf, g2, gV, gC, Option.map_some, Option.getD_some] at n1 n2
    exact ⟨E', cf, k, i, f, q1.1, g2, g3, by rw [q2.1]; exact g4, by rw [q2.1]; exact g5, by rw [q2.2.1]; exact g6, by rw [q2.2.2 f.slot (by simp [n1, n2])]; exact g7⟩
end StrChars.Road
namespace StrChars.Road
open Jvm Sem ClassFile Op Lib Jvm.Stand Jvm.Free Jvm.Free.XT
/-- WHAT COMES BACK, the byte[] as a list of values -/
def QA (Z : State) (x : Addr) (zn : Int32) (cs : List Int32) (h : Heap) (v : Option Value) (h' : Heap) (L : List Loc) : Prop := v = none ∧ (∀ y ∈ L, y.base = x) ∧ RoadKit.Keep h h' [x] ∧ h'.size = h.size + 1 ∧ RoadKit.Exa Z h' x ST ∧ RoadKit.Fld Z h' x ST "value" "[B" (.ref h.size) ∧ RoadKit.Fld Z h' x ST "coder" "B" (.int 0) ∧
  (∃ kb, Z.vm.findClass "[B" = some kb ∧ RoadKit.Arv Z h' h.size kb .byte zn (cs.map fun c => .int (lo8 c)) (.int 0)) ∧
  ∀ (O n d : String) (w : Value), RoadKit.Fld Z h x O n d w → RoadKit.slotOf Z O n d ≠ RoadKit.slotOf Z ST "value" "[B" → RoadKit.slotOf Z O n d ≠ RoadKit.slotOf Z ST "coder" "B" → RoadKit.Fld Z h' x O n d w
/-- **new String(chars) AT A CALL, THE ARRAYS AS LISTS**: the char[] at b holds cs, not empty, no char above 255 -/
theorem backArv {p : Program} {l : Launch} {e : Env} {R : Room} {s : State} {args : Array Value} {below : List Frame} {len W : Nat} {Z : State} {a0 : Array Value} {h : Heap} (hZ : Z.Warmed39 s.vm) (hw : ∀ d ∈ words, d.before a0 Z = true) {kI : Nat} (wi : (Jvm.Cond.instantiable ST kI).before a0 Z = true)
    {x b : Addr} {k : ClassId} {zn z : Int32} {cs : List Int32} {dv v0 c0 : Value} (E : RoadKit.Exa Z h x ST) (V : RoadKit.Fld Z h x ST "value" "[B" v0) (C : RoadKit.Fld Z h x ST "coder" "B" c0) (K : RoadKit.Arv Z h b k .char zn (cs.map Value.int) dv) (S : RoadKit.Sta Z h ST "COMPACT_STRINGS" "Z" (.int z)) (hz : ¬ z = 0)
    (hlen : zn.toNatClampNeg = cs.length) (h0 : 0 < cs.length) (hbig : cs.length ≤ 536870912) (hall : ∀ c ∈ cs, ¬ 255 < c) (hfr : 4 ≤ R.frames) (hlo : W + 65 ≤ R.locals) :
    Back l R p e below s args New1.yN len W (fun P a => a = #[.ref x, .ref b] ∧ P.U.heap = h ∧ P.cells + 1 ≤ R.cells ∧ P.slots + cs.length ≤ R.slots)
      (fun P _ v B => ∃ L, QA Z x zn cs h v B.U.heap L ∧ B.locs = P.locs ++ L ∧ B.cells = P.cells + 1 ∧ B.slots = P.slots + cs.length) := by
  obtain ⟨A, K1, K2, K3, K4, K5, K6⟩ := K
  have e : A.slots.size = cs.length := K3.trans hlen
  have hat : ∀ (i : Nat) (hi : i < cs.length), A.slots[i]? = some (.int cs[i]) := fun i hi => by rw [K5 i (by omega)]; simp [List.getD_eq_getElem?_getD, hi]
  have hcv : ∀ (i : Nat) (hi : i < cs.length), cv A i = cs[i] := fun i hi => by unfold cv; rw [hat i hi]
  have hty : Typed .char A := fun i v hv => by
    have hi : i < A.slots.size := (Array.getElem?_eq_some_iff.mp hv).1
    have q := K5 i hi
    rw [hv] at q
    rw [Option.some.inj q]
    exact K6 i hi
  refine Back.mono (back hZ hw wi E V C K1 hty S hz (by omega) (by omega) (fun i hi => by rw [hcv i (by omega)]; exact hall _ (List.getElem_mem _)) hfr hlo) (fun P a hp => ⟨hp.1, hp.2.1, hp.2.2.1, by rw [e]; exact hp.2.2.2⟩) (fun P a v B hp hq => ?_)
  obtain ⟨L, ⟨q1, q2, q3, q4, q5, q6, q7, ⟨V', v1, v2, v3, v4, v5⟩, q9⟩, hl, hc, hs⟩ := hq
  refine ⟨L, ⟨q1, q2, q3, q4, q5, q6, q7, ⟨V'.cls, v3, V', v1, rfl, by rw [v4, e, hlen], K4, fun i hi => ?_, fun i hi => ?_⟩, q9⟩, hl, hc, by rw [hs, e]⟩
  · have hi' : i < cs.length := by omega
    rw [v5 i (by omega), hcv i hi']; simp [List.getD_eq_getElem?_getD, hi']
  · have hi' : i < cs.length := by omega
    simp only [List.getD_eq_getElem?_getD, List.getElem?_map, List.getElem?_eq_getElem hi', Option.map_some, Option.getD_some]
    exact fits_lo8 _
end StrChars.Road
namespace StrChars.Road
open Jvm Sem ClassFile Op Lib Jvm.Stand Jvm.Free Jvm.Free.XT
/-- WHAT COMES BACK, in the writer's own shape -/
def QV (Z : State) (x : Addr) (N : Int32) (bs : List Int32) (h : Heap) (n0 : Nat) (v : Option Value) (h' : Heap) (L : List Loc) : Prop := v = none ∧ RoadKit.Fr n0 L ∧ RoadKit.Keep h h' [x] ∧ RoadKit.Exa Z h' x ST ∧ RoadKit.Fld Z h' x ST "coder" "B" (.int 0) ∧
  ∃ (t : Addr) (kb : ClassId), n0 ≤ t ∧ h.size ≤ t ∧ ¬ t = x ∧ RoadKit.Fld Z h' x ST "value" "[B" (.ref t) ∧ RoadKit.Arv Z h' t kb .byte N (bs.map Value.int) (.int 0)
/-- **new String(chars) AT A CALL, FOR THE WRITER**: a char[] of n known ints, each 0 to 255 -/
theorem backV {p : Program} {l : Launch} {e : Env} {R : Room} {s : State} {args : Array Value} {below : List Frame} {len W : Nat} {Z : State} {a0 : Array Value} {h : Heap} (hZ : Z.Warmed39 s.vm) (hw : ∀ d ∈ words, d.before a0 Z = true) {kI : Nat} (wi : (Jvm.Cond.instantiable ST kI).before a0 Z = true)
    {x b : Addr} {kC : ClassId} {cs bs : List Int32} {d v0 c0 : Value} {z N : Int32} {n n0 : Nat} (hx0 : n0 ≤ x) (hh0 : n0 ≤ h.size) (E : RoadKit.Exa Z h x ST) (V : RoadKit.Fld Z h x ST "value" "[B" v0) (C : RoadKit.Fld Z h x ST "coder" "B" c0) (K : RoadKit.Arv Z h b kC .char N (cs.map Value.int) d) (S : RoadKit.Sta Z h ST "COMPACT_STRINGS" "Z" (.int z)) (hz : ¬ z = 0)
    (hn : cs.length = n) (hN : N = Int32.ofNat n) (l0 : 0 < n) (l2 : n ≤ 4000) (hp : ∀ c ∈ cs, ¬ c < 0 ∧ ¬ (255 : Int32) < c) (hb : bs = cs.map (fun c => c.toInt8.toInt32)) (hfr : 4 ≤ R.frames) (hlo : W + 65 ≤ R.locals) :
    Back l R p e below s args (⟨"java/lang/String", "<init>", "([C)V"⟩ : MethodName) len W (fun P a => a = #[.ref x, .ref b] ∧ P.U.heap = h ∧ P.cells + 1 ≤ R.cells ∧ P.slots + n ≤ R.slots)
      (fun P _ v B => ∃ L, QV Z x N bs h n0 v B.U.heap L ∧ B.locs = P.locs ++ L ∧ B.cells = P.cells + 1 ∧ B.slots = P.slots + n) := by
  subst hn hN hb
  refine Back.mono (backArv hZ hw wi E V C K S hz (n32 (by omega)) l0 (by omega) (fun c hc => (hp c hc).2) hfr hlo) (fun P a hp => hp) (fun P a v B hp hq => ?_)
  obtain ⟨L, ⟨q1, q2, q3, q4, q5, q6, q7, ⟨kb, v1, v2⟩, q9⟩, hl, hc, hs⟩ := hq
  exact ⟨L, ⟨q1, fun y hy => by rw [q2 y hy]; exact hx0, q3, q5, q7, h.size, kb, hh0, Nat.le_refl _, Nat.ne_of_gt E.lt, q6, by rw [List.map_map]; exact v2⟩, hl, hc, hs⟩
end StrChars.Road
namespace StrChars
open Jvm Sem ClassFile Op Lib Jvm.Stand Jvm.Free.XT Jvm.Free.ALB Jvm.Free.JM Jvm.Free
open Jvm.Lib.Cold (StaticIs)
def hi8 (x : Int32) : Int32 := lo8 (x >>> ((8 : Int32) &&& 31))
/-- what StringUTF16.getChar makes of two bytes -/
def pairCh (u v : Int32) : Int32 := (((u &&& 255) <<< ((0 : Int32) &&& 31)) ||| ((v &&& 255) <<< ((8 : Int32) &&& 31))).toUInt32.toUInt16.toUInt32.toInt32
theorem lo8_and (x : Int32) : (lo8 x &&& 255).toBitVec.toNat = x.toBitVec.toNat % 256 := by
  have h : (lo8 x).toBitVec = (x.toBitVec.signExtend 8).signExtend 32 := by rw [lo8, Int8.toBitVec_toInt32, Int32.toBitVec_toInt8]
  rw [Int32.toBitVec_and, BitVec.toNat_and, h]
  have e : ((x.toBitVec.signExtend 8).signExtend 32).toNat % 256 = x.toBitVec.toNat % 256 := by
    rw [BitVec.toNat_signExtend]
    have hlt := x.toBitVec.isLt
    simp only [BitVec.toNat_setWidth, BitVec.toNat_signExtend]
    split <;> split <;> omega
  rw [← e]
  exact Nat.and_two_pow_sub_one_eq_mod _ 8
theorem pair_says {c : Int32} (h0 : ¬ c < 0) (h1 : ¬ 65535 < c) : pairCh (lo8 c) (hi8 c) = c := by
  rw [Int32.lt_iff_toInt_lt] at h0 h1
  have e0 : (0 : Int32).toInt = 0 := rfl
  have e1 : (65535 : Int32).toInt = 65535 := rfl
  have hc : c.toInt = c.toBitVec.toNat := by
    have := c.toBitVec.isLt
    have e : c.toInt = c.toBitVec.toInt := rfl
    rw [e] at h0 h1
    rw [e]
    rw [BitVec.toInt_eq_toNat_cond] at h0 h1 ⊢
    split at h0 <;> split <;> omega
  have hn : c.toBitVec.toNat < 65536 := by omega
  have a1 := lo8_and c
  have a2 : (hi8 c &&& 255).toBitVec.toNat = c.toBitVec.toNat / 256 := by
    rw [hi8, lo8_and]
    have e : ((8 : Int32) &&& 31) = 8 := by decide
    rw [e, Int32.toBitVec_shiftRight]
    have e2 : ((8 : Int32).toBitVec.smod 32) = 8#32 := by decide
    rw [e2, BitVec.sshiftRight_eq', BitVec.toNat_sshiftRight_of_msb_false (by rw [BitVec.msb_eq_false_iff_two_mul_lt]; omega)]
    show c.toBitVec.toNat >>> 8 % 256 = _
    rw [Nat.shiftRight_eq_div_pow]
    omega
  unfold pairCh
  apply Int32.toBitVec_inj.mp
  apply BitVec.eq_of_toNat_eq
  have f0 : ((0 : Int32) &&& 31) = 0 := by decide
  have f8 : ((8 : Int32) &&& 31) = 8 := by decide
  rw [f0, f8]
  have g : (((lo8 c &&& 255) <<< (0 : Int32)) ||| ((hi8 c &&& 255) <<< (8 : Int32))).toBitVec.toNat = c.toBitVec.toNat := by
    rw [Int32.toBitVec_or, Int32.toBitVec_shiftLeft, Int32.toBitVec_shiftLeft]
    have s0 : ((0 : Int32).toBitVec.smod 32) = 0#32 := by decide
    have s8 : ((8 : Int32).toBitVec.smod 32) = 8#32 := by decide
    rw [s0, s8, BitVec.toNat_or]
    simp only [BitVec.shiftLeft_eq', BitVec.toNat_shiftLeft, a1, a2]
    show (c.toBitVec.toNat % 256) <<< 0 % 2 ^ 32 ||| (c.toBitVec.toNat / 256) <<< 8 % 2 ^ 32 = _
    rw [Nat.shiftLeft_zero, Nat.mod_eq_of_lt (show c.toBitVec.toNat % 256 < 2 ^ 32 by omega), Nat.mod_eq_of_lt (show (c.toBitVec.toNat / 256) <<< 8 < 2 ^ 32 by rw [Nat.shiftLeft_eq]; omega), Nat.or_comm, ← Nat.shiftLeft_add_eq_or_of_lt (by omega), Nat.shiftLeft_eq]
    omega
  show BitVec.toNat (((((lo8 c &&& 255) <<< (0 : Int32)) ||| ((hi8 c &&& 255) <<< (8 : Int32))).toBitVec.setWidth 16).setWidth 32) = _
  rw [BitVec.toNat_setWidth, BitVec.toNat_setWidth, g]
  omega
end StrChars
namespace StrChars
open Jvm Sem ClassFile Op Lib Jvm.Stand Jvm.Free.XT Jvm.Free.ALB Jvm.Free.JM Jvm.Free
open Jvm.Lib.Cold (StaticIs)
/-- the array's cell V codes the n chars f 0 .. f (n - 1) by the coder cd, as the JDK does: coder 1 just where some char is above 255 -/
def Cod (cd : Int32) (n : Nat) (f : Nat → Int32) (V : Cell) : Prop := (cd = 0 ∧ V.slots.size = n ∧ ∀ j, j < n → V.slots[j]? = some (.int (lo8 (f j))) ∧ ¬ 255 < f j) ∨ (cd = 1 ∧ V.slots.size = 2 * n ∧ (∀ j, j < n → V.slots[2 * j]? = some (.int (lo8 (f j))) ∧ V.slots[2 * j + 1]? = some (.int (hi8 (f j)))) ∧ ∃ j, j < n ∧ 255 < f j)
/-- **x is a String of the n chars f 0 .. f (n - 1)**, Latin-1 or UTF-16; its array at t has the cell V -/
def Txt (x t : Addr) (V : Cell) (cd : Int32) (n : Nat) (f : Nat → Int32) (U : State) : Prop := Exact "java/lang/String" x U ∧ Has x "java/lang/String" "value" "[B" (.ref t) U ∧ Has x "java/lang/String" "coder" "B" (.int cd) U ∧ XT.Arr .byte t V U ∧ Cod cd n f V ∧ ∀ j, j < n → ¬ f j < 0 ∧ ¬ 65535 < f j
theorem Txt.mv {x t : Addr} {V : Cell} {cd : Int32} {n : Nat} {f : Nat → Int32} {U U' : State} (h : Txt x t V cd n f U) (hal : U.vm.Alike U'.vm) (hh : U'.heap = U.heap) : Txt x t V cd n f U' := ⟨h.1.mv hal hh, h.2.1.mv hal hh, h.2.2.1.mv hal hh, h.2.2.2.1.mv hal hh, h.2.2.2.2⟩
end StrChars
namespace StrChars.Road
open Jvm Sem ClassFile Op Lib Jvm.Stand Jvm.Free Jvm.Free.XT
open Jvm.Lib.Cold (StaticIs)
theorem consq {a : Array Value} {s : State} {c : Jvm.Cond} {L : List Jvm.Cond} (h0 : c.before a s = true) (h : ∀ w ∈ L, w.before a s = true) : ∀ w ∈ c :: L, w.before a s = true := fun w hw => (List.mem_cons.mp hw).elim (fun e => e ▸ h0) (h w)
/-- the bytes of the chars cs, low before high -/
def wideBytes : List Int32 → List Value
  | [] => []
  | c :: cs => .int (lo8 c) :: .int (hi8 c) :: wideBytes cs
theorem wide_lo (d : Value) : ∀ (cs : List Int32) (j : Nat), j < cs.length → (wideBytes cs).getD (2 * j) d = .int (lo8 (cs.getD j 0))
  | [], j, h => absurd h (Nat.not_lt_zero j)
  | c :: cs, 0, _ => rfl
  | c :: cs, j + 1, h => by
    have q := wide_lo d cs j (by simpa using h)
    rw [show 2 * (j + 1) = 2 * j + 1 + 1 from by omega]
    simpa [wideBytes] using q
theorem wide_hi (d : Value) : ∀ (cs : List Int32) (j : Nat), j < cs.length → (wideBytes cs).getD (2 * j + 1) d = .int (hi8 (cs.getD j 0))
  | [], j, h => absurd h (Nat.not_lt_zero j)
  | c :: cs, 0, _ => rfl
  | c :: cs, j + 1, h => by
    have q := wide_hi d cs j (by simpa using h)
    rw [show 2 * (j + 1) + 1 = 2 * j + 1 + 1 + 1 from by omega]
    simpa [wideBytes] using q
theorem low_at (d : Value) (cs : List Int32) (j : Nat) (h : j < cs.length) : (cs.map fun c => Value.int (lo8 c)).getD j d = .int (lo8 (cs.getD j 0)) := by
  simp [List.getD_eq_getElem?_getD, h]
/-- an array of N2 bytes vs codes the chars cs by the coder cd -/
def CodA (cs : List Int32) (cd N2 : Int32) (vs : List Value) : Prop := (cd = 0 ∧ N2 = Int32.ofNat cs.length ∧ vs = (cs.map fun c => Value.int (lo8 c)) ∧ ∀ c ∈ cs, ¬ 255 < c) ∨ (cd = 1 ∧ N2 = Int32.ofNat (2 * cs.length) ∧ vs = wideBytes cs ∧ ∃ c ∈ cs, 255 < c)
theorem CodA.cod {cs : List Int32} {cd N2 : Int32} {vs : List Value} {V : Cell} (h : CodA cs cd N2 vs) (hn : 2 * cs.length < 2 ^ 31) (hs : V.slots.size = N2.toNatClampNeg) (hv : RoadKit.Has V vs (.int 0)) : Cod cd cs.length (fun j => cs.getD j 0) V := by
  rcases h with ⟨rfl, rfl, rfl, h⟩ | ⟨rfl, rfl, rfl, c, hc, hw⟩
  · rw [n32 (by omega)] at hs
    exact Or.inl ⟨rfl, hs, fun j hj => ⟨by rw [hv j (by omega), low_at _ _ _ hj], by
      have e : cs.getD j 0 = cs[j] := by simp [List.getD_eq_getElem?_getD, hj]
      show ¬ 255 < cs.getD j 0
      rw [e]; exact h _ (List.getElem_mem _)⟩⟩
  · rw [n32 (by omega)] at hs
    obtain ⟨j, hj, rfl⟩ := List.getElem_of_mem hc
    exact Or.inr ⟨rfl, hs, fun j hj => ⟨by rw [hv _ (by omega), wide_lo _ _ _ hj], by rw [hv _ (by omega), wide_hi _ _ _ hj]⟩, j, hj, by
      have e : cs.getD j 0 = cs[j] := by simp [List.getD_eq_getElem?_getD, hj]
      show 255 < cs.getD j 0
      rw [e]; exact hw⟩
/-- an object of exactly java/lang/String, its two fields found: as the laws ask it -/
theorem strObj {Z U : State} {a0 : Array Value} {kI : Nat} (wi : (Jvm.Cond.instantiable ST kI).before a0 Z = true) (al : Z.vm.Alike U.vm) {x : Addr} {v0 c0 : Value} (E : RoadKit.Exa Z U.heap x ST) (V : RoadKit.Fld Z U.heap x ST "value" "[B" v0) (C : RoadKit.Fld Z U.heap x ST "coder" "B" c0) :
    ∃ (D : Cell) (fV fC : Field), Blank ST x D U ∧ Found ST "value" "[B" fV U ∧ Found ST "coder" "B" fC U ∧ D.slots[fV.slot]? = some v0 ∧ D.slots[fC.slot]? = some c0 ∧ RoadKit.slotOf Z ST "value" "[B" = fV.slot ∧ RoadKit.slotOf Z ST "coder" "B" = fC.slot := by
  obtain ⟨D, cfV, kV, iV, fV, hD, gV, stV, knV, obV, asV, slV⟩ := V
  obtain ⟨D', cfC, kC, iC, fC, hD', gC, stC, -, -, asC, slC⟩ := C
  cases hD.symm.trans hD'
  obtain ⟨D2, kD, e1, e2, e3, e4, e5⟩ := E
  cases hD.symm.trans e1
  obtain ⟨c2, k2, i1, i2, i3, -⟩ := Cond.instantiable_spec wi
  cases e2.symm.trans i1
  cases e3.symm.trans i2
  obtain ⟨kU, u1, u2⟩ := al.2.2 _ _ e3
  exact ⟨D, fV, fC, ⟨hD, ⟨knV, fun q hq => by rw [hq] at obV; cases obV⟩, by rw [al.findClass]; exact e2, kU, u1, by rw [u2]; exact i3, by rw [u2]; exact e5 i3⟩, ⟨SBG.found_only al ⟨cfV, kV, iV, gV⟩, stV⟩, ⟨SBG.found_only al ⟨cfC, kC, iC, gC⟩, stC⟩, slV, slC, by simp [RoadKit.slotOf, gV], by simp [RoadKit.slotOf, gC]⟩
theorem sta_is {Z U : State} (al : Z.vm.Alike U.vm) {C n d : String} {v : Value} (S : RoadKit.Sta Z U.heap C n d v) : StaticIs U C n d v := by
  obtain ⟨cfS, iS, kS, fS, st, cS, t1, t2, t3, t4, t5, t6, t7⟩ := S
  exact StaticIs.there (s := { Z with heap := U.heap }) ⟨cfS, iS, kS, fS, st, cS, t1, t2, t3, t4, t5, (fun q => by rw [q] at t6; cases t6), t7⟩ al rfl
end StrChars.Road
namespace StrChars
open Jvm Sem ClassFile Op Lib Jvm.Stand Jvm.Free.XT Jvm.Free.ALB Jvm.Free.JM Jvm.Free
open Jvm.Lib.Cold (StaticIs)
/-- what place i of a byte[]'s cell holds -/
def yv (A : Cell) (i : Nat) : Int32 := match A.slots[i]? with | some (.int x) => x | _ => 0
theorem yv_get {a : Addr} {A : Cell} {U : State} (h : XT.Arr .byte a A U) (ht : Typed .byte A) {i : Nat} (hi : i < A.slots.size) : A.slots[i]? = some (.int (yv A i)) := by
  have e := Array.getElem?_eq_getElem hi
  have f := ht i _ e
  unfold yv; rw [e]
  generalize A.slots[i] = v at f
  cases v <;> simp [fits] at f ⊢
/-- the two arrays are equal, place for place -/
def EqC (A B : Cell) : Prop := A.slots.size = B.slots.size ∧ ∀ i, i < A.slots.size → yv A i = yv B i
/-- a boolean that says whether p -/
def Says01 (q : Prop) (r : Option Value) (s u : State) : Prop := ∃ v : Int32, r = some (.int v) ∧ u.heap = s.heap ∧ ((v = 1 ∧ q) ∨ (v = 0 ∧ ¬ q))
theorem Says01.mv {q : Prop} : ∀ r (U U' V V' : State), U'.heap = U.heap → V.vm.Alike V'.vm → V'.heap = V.heap → Says01 q r U V → Says01 q r U' V' :=
  fun r U U' V V' h1 _ h2 ⟨v, a, b, c⟩ => ⟨v, a, by rw [h1, h2]; exact b, c⟩
namespace LEq
def yN : MethodName := ⟨"java/lang/StringLatin1", "equals", "([B[B)Z"⟩
abbrev yB : ByteArray := jdk_43_method_13_code
theorem d0 : decode yB 0 = .ok (.aload_n 0, 1) := by decide +kernel
theorem d1 : decode yB 1 = .ok (.arraylength, 1) := by decide +kernel
theorem d2 : decode yB 2 = .ok (.aload_n 1, 1) := by decide +kernel
theorem d3 : decode yB 3 = .ok (.arraylength, 1) := by decide +kernel
theorem d4 : decode yB 4 = .ok (.if_icmp (.ne) 30, 3) := by decide +kernel
theorem d7 : decode yB 7 = .ok (.iconst 0, 1) := by decide +kernel
theorem d8 : decode yB 8 = .ok (.istore_n 2, 1) := by decide +kernel
theorem d9 : decode yB 9 = .ok (.iload_n 2, 1) := by decide +kernel
theorem d10 : decode yB 10 = .ok (.aload_n 0, 1) := by decide +kernel
theorem d11 : decode yB 11 = .ok (.arraylength, 1) := by decide +kernel
theorem d12 : decode yB 12 = .ok (.if_icmp (.ge) 20, 3) := by decide +kernel
theorem d15 : decode yB 15 = .ok (.aload_n 0, 1) := by decide +kernel
theorem d16 : decode yB 16 = .ok (.iload_n 2, 1) := by decide +kernel
theorem d17 : decode yB 17 = .ok (.baload, 1) := by decide +kernel
theorem d18 : decode yB 18 = .ok (.aload_n 1, 1) := by decide +kernel
theorem d19 : decode yB 19 = .ok (.iload_n 2, 1) := by decide +kernel
theorem d20 : decode yB 20 = .ok (.baload, 1) := by decide +kernel
theorem d21 : decode yB 21 = .ok (.if_icmp (.eq) 5, 3) := by decide +kernel
theorem d24 : decode yB 24 = .ok (.iconst 0, 1) := by decide +kernel
theorem d25 : decode yB 25 = .ok (.ireturn, 1) := by decide +kernel
theorem d26 : decode yB 26 = .ok (.iinc 2 1, 3) := by decide +kernel
theorem d29 : decode yB 29 = .ok (.goto (-20), 3) := by decide +kernel
theorem d32 : decode yB 32 = .ok (.iconst 1, 1) := by decide +kernel
theorem d33 : decode yB 33 = .ok (.ireturn, 1) := by decide +kernel
theorem d34 : decode yB 34 = .ok (.iconst 0, 1) := by decide +kernel
theorem d35 : decode yB 35 = .ok (.ireturn, 1) := by decide +kernel
def site : List Cond := []
def tab : Cond := tabOf yN yB 3 (some .boolean) site
def P (a : Addr) (A : Cell) (b : Addr) (B : Cell) (args : Array Value) (s : State) : Prop := args = #[.ref a, .ref b] ∧ XT.Arr .byte a A s ∧ Typed .byte A ∧ XT.Arr .byte b B s ∧ Typed .byte B
/-- whether two byte[] are equal, place for place -/
theorem law (l : Launch) (a : Addr) (A : Cell) (b : Addr) (B : Cell) : Law l yN 2 2 0 0 yB 3 (some .boolean) site (P a A b B) (Says01 (EqC A B)) [] 0 0 := by
  refine Law.of_walk (plainFor_of_name (by decide +kernel)) (by decide +kernel) (by decide +kernel) (by decide) (fun _ _ h => by rw [h.1]; rfl) (fun _ U U' hal hh h => ⟨h.1, h.2.1.mv hal hh, h.2.2.1, h.2.2.2.1.mv hal hh, h.2.2.2.2⟩) (fun r U U' V V' h1 hal h2 h => Says01.mv r U U' V V' h1 hal h2 h) ?_
  intro p e s m args below meth c s₁ X0 hexec hbytes hml hret hlk hnm hown hh0 W hP
  obtain ⟨rfl, hA, tA, hB, tB⟩ := hP
  have a31 := hA.2.2.2
  have b31 := hB.2.2.2
  have hA0 := hA.mv X0.warmed.alike hh0
  have hB0 := hB.mv X0.warmed.alike hh0
  have c1 : Steps p.tables e below (s₁.setTop (entryFrame m #[.ref a, .ref b] 3)) (s₁.setTop (mkF m 0 #[.val (.ref a), .val (.ref b), .unset] [])) := entry rfl
  have c2 : Steps p.tables e below (s₁.setTop (entryFrame m #[.ref a, .ref b] 3)) (s₁.setTop (mkF m 4 #[.val (.ref a), .val (.ref b), .unset] [.int (Int32.ofNat B.slots.size), .int (Int32.ofNat A.slots.size)])) := c1.trans (by
    refine XS.aloadN X0.here hexec rfl (hb hbytes d0) rfl rfl ?_
    refine X0.alen hexec hA0 rfl rfl (hb hbytes d1) ?_
    refine XS.aloadN X0.here hexec rfl (hb hbytes d2) rfl rfl ?_
    refine X0.alen hexec hB0 rfl rfl (hb hbytes d3) ?_
    exact Steps.refl _)
  by_cases hs : A.slots.size = B.slots.size
  · have c3 : Steps p.tables e below (s₁.setTop (entryFrame m #[.ref a, .ref b] 3)) (s₁.setTop (mkF m 9 #[.val (.ref a), .val (.ref b), .val (.int 0)] [])) := c2.trans (by
      refine XS.icmpNo X0.here hexec rfl (hb hbytes d4) rfl (ii_ne_f (by rw [hs])) ?_
      refine iconstV X0.here hexec rfl 0 (hb hbytes d7) (by decide) ?_
      refine XS.istoreN X0.here hexec rfl (hb hbytes d8) rfl rfl ?_
      exact Steps.refl _)
    have loop : ∀ (r i : Nat), i + r = A.slots.size → (∀ j, j < i → yv A j = yv B j) → Steps p.tables e below (s₁.setTop (entryFrame m #[.ref a, .ref b] 3)) (s₁.setTop (mkF m 9 #[.val (.ref a), .val (.ref b), .val (.int (Int32.ofNat i))] [])) → ∃ (pc : Nat) (Ls : Array Slot) (v : Int32), (pc = 25 ∨ pc = 33) ∧ ((v = 1 ∧ EqC A B) ∨ (v = 0 ∧ ¬ EqC A B)) ∧ Steps p.tables e below (s₁.setTop (entryFrame m #[.ref a, .ref b] 3)) (s₁.setTop (mkF m pc Ls [.int v])) := by
      intro r
      induction r with
      | zero =>
        intro i hi he cl
        exact ⟨33, _, 1, Or.inr rfl, Or.inl ⟨rfl, hs, fun j hj => he j (by omega)⟩, cl.trans (by
          refine XS.iloadN X0.here hexec rfl (hb hbytes d9) rfl ?_
          refine XS.aloadN X0.here hexec rfl (hb hbytes d10) rfl rfl ?_
          refine X0.alen hexec hA0 rfl rfl (hb hbytes d11) ?_
          refine XS.icmpYes X0.here hexec rfl (pc0 := 12) rfl (hb hbytes d12) rfl (ii_ge_t (nlt32 (by omega) (by omega))) (by decide) rfl ?_
          refine iconstV X0.here hexec rfl 1 (hb hbytes d32) (by decide) ?_
          exact Steps.refl _)⟩
      | succ r ih =>
        intro i hi he cl
        have c4 : Steps p.tables e below (s₁.setTop (entryFrame m #[.ref a, .ref b] 3)) (s₁.setTop (mkF m 21 #[.val (.ref a), .val (.ref b), .val (.int (Int32.ofNat i))] [.int (yv B i), .int (yv A i)])) := cl.trans (by
          refine XS.iloadN X0.here hexec rfl (hb hbytes d9) rfl ?_
          refine XS.aloadN X0.here hexec rfl (hb hbytes d10) rfl rfl ?_
          refine X0.alen hexec hA0 rfl rfl (hb hbytes d11) ?_
          refine XS.icmpNo X0.here hexec rfl (hb hbytes d12) rfl (ii_ge_f (lt32 (by omega) (by omega))) ?_
          refine XS.aloadN X0.here hexec rfl (hb hbytes d15) rfl rfl ?_
          refine XS.iloadN X0.here hexec rfl (hb hbytes d16) rfl ?_
          refine X0.aget hexec hA0 rfl (yv_get hA tA (i := i) (by omega)) rfl rfl (hb hbytes d17) ?_
          refine XS.aloadN X0.here hexec rfl (hb hbytes d18) rfl rfl ?_
          refine XS.iloadN X0.here hexec rfl (hb hbytes d19) rfl ?_
          refine X0.aget hexec hB0 rfl (yv_get hB tB (i := i) (by omega)) rfl rfl (hb hbytes d20) ?_
          exact Steps.refl _)
        by_cases hv : yv A i = yv B i
        · have c5 : Steps p.tables e below (s₁.setTop (entryFrame m #[.ref a, .ref b] 3)) (s₁.setTop (mkF m 9 #[.val (.ref a), .val (.ref b), .val (.int (Int32.ofNat i + 1))] [])) := c4.trans (by
            refine XS.icmpYes X0.here hexec rfl (pc0 := 21) rfl (hb hbytes d21) rfl (ii_eq_t hv) (by decide) rfl ?_
            refine iincV X0.here hexec rfl 1 (hb hbytes d26) (by decide) rfl rfl ?_
            refine XS.goto X0.here hexec rfl (pc0 := 29) rfl (hb hbytes d29) (by decide) rfl ?_
            exact Steps.refl _)
          rw [succ32] at c5
          exact ih (i + 1) (by omega) (fun j hj => by
            by_cases e : j = i
            · rw [e]; exact hv
            · exact he j (by omega)) c5
        · exact ⟨25, _, 0, Or.inl rfl, Or.inr ⟨rfl, fun q => hv (q.2 i (by omega))⟩, c4.trans (by
            refine XS.icmpNo X0.here hexec rfl (hb hbytes d21) rfl (ii_eq_f hv) ?_
            refine iconstV X0.here hexec rfl 0 (hb hbytes d24) (by decide) ?_
            exact Steps.refl _)⟩
    obtain ⟨pc, Ls, v, hpc, hv, cz⟩ := loop A.slots.size 0 (by omega) (fun j hj => absurd hj (Nat.not_lt_zero j)) c3
    have nv : narrow .boolean (.int v) = .int v := by rcases hv with ⟨rfl, -⟩ | ⟨rfl, -⟩ <;> rfl
    rcases hpc with rfl | rfl
    · exact ⟨s₁, some (.int v), _, _, _, X0, rfl, rfl, rfl, (fun h => by cases h), ⟨v, rfl, hh0, hv⟩, fun fs hl => cz.trans (X0.ireturnOut hexec hret nv (Or.inr (Or.inl rfl)) (hb hbytes d25) hl)⟩
    · exact ⟨s₁, some (.int v), _, _, _, X0, rfl, rfl, rfl, (fun h => by cases h), ⟨v, rfl, hh0, hv⟩, fun fs hl => cz.trans (X0.ireturnOut hexec hret nv (Or.inr (Or.inl rfl)) (hb hbytes d33) hl)⟩
  · have c3 : Steps p.tables e below (s₁.setTop (entryFrame m #[.ref a, .ref b] 3)) (s₁.setTop (mkF m 35 #[.val (.ref a), .val (.ref b), .unset] [.int 0])) := c2.trans (by
      refine XS.icmpYes X0.here hexec rfl (pc0 := 4) rfl (hb hbytes d4) rfl (ii_ne_t (ne32 a31 b31 hs)) (by decide) rfl ?_
      refine iconstV X0.here hexec rfl 0 (hb hbytes d34) (by decide) ?_
      exact Steps.refl _)
    exact ⟨s₁, some (.int 0), _, _, _, X0, rfl, rfl, rfl, (fun h => by cases h), ⟨0, rfl, hh0, Or.inr ⟨rfl, fun q => hs q.1⟩⟩, fun fs hl => c3.trans (X0.ireturnOut hexec hret rfl (Or.inr (Or.inl rfl)) (hb hbytes d35) hl)⟩
end LEq
theorem Cod.ty {cd : Int32} {n : Nat} {f : Nat → Int32} {V : Cell} (h : Cod cd n f V) : Typed .byte V := fun i v hv => by
  have hi : i < V.slots.size := (Array.getElem?_eq_some_iff.mp hv).1
  rcases h with ⟨-, k1, k2⟩ | ⟨-, k1, k2, -⟩
  · rw [(k2 i (by omega)).1] at hv; cases hv; exact fits_lo8 _
  · rcases Nat.mod_two_eq_zero_or_one i with e | e
    · obtain ⟨j, rfl⟩ : ∃ j, i = 2 * j := ⟨i / 2, by omega⟩
      rw [(k2 j (by omega)).1] at hv; cases hv; exact fits_lo8 _
    · obtain ⟨j, rfl⟩ : ∃ j, i = 2 * j + 1 := ⟨i / 2, by omega⟩
      rw [(k2 j (by omega)).2] at hv; cases hv; exact fits_lo8 _
/-- the same text -/
def SameT (n : Nat) (f : Nat → Int32) (k : Nat) (g : Nat → Int32) : Prop := n = k ∧ ∀ j, j < n → f j = g j
theorem lo8_inj {x y : Int32} (h0 : ¬ x < 0) (h1 : ¬ 255 < x) (k0 : ¬ y < 0) (k1 : ¬ 255 < y) (h : lo8 x = lo8 y) : x = y := by
  rw [← lo8_mask h0 h1, ← lo8_mask k0 k1, h]
/-- arrays coded by one coder are equal just where the texts are -/
theorem Cod.eqv {cd : Int32} {n k : Nat} {f g : Nat → Int32} {V V' : Cell} (h : Cod cd n f V) (h' : Cod cd k g V') (hf : ∀ j, j < n → ¬ f j < 0 ∧ ¬ 65535 < f j) (hg : ∀ j, j < k → ¬ g j < 0 ∧ ¬ 65535 < g j) : EqC V V' ↔ SameT n f k g := by
  have yvv : ∀ {W : Cell} {i : Nat} {x : Int32}, W.slots[i]? = some (.int x) → yv W i = x := fun q => by unfold yv; rw [q]
  rcases h with ⟨rfl, k1, k2⟩ | ⟨rfl, k1, k2, -⟩
  · rcases h' with ⟨-, m1, m2⟩ | ⟨e, -⟩
    · constructor
      · rintro ⟨e1, e2⟩
        refine ⟨by omega, fun j hj => ?_⟩
        have q := e2 j (by omega)
        rw [yvv (k2 j hj).1, yvv (m2 j (by omega)).1] at q
        exact lo8_inj (hf j hj).1 (k2 j hj).2 (hg j (by omega)).1 (m2 j (by omega)).2 q
      · rintro ⟨rfl, e2⟩
        refine ⟨by omega, fun j hj => ?_⟩
        rw [yvv (k2 j (by omega)).1, yvv (m2 j (by omega)).1, e2 j (by omega)]
    · exact absurd e (by decide)
  · rcases h' with ⟨e, -⟩ | ⟨-, m1, m2, -⟩
    · exact absurd e (by decide)
    · constructor
      · rintro ⟨e1, e2⟩
        refine ⟨by omega, fun j hj => ?_⟩
        have q1 := e2 (2 * j) (by omega)
        have q2 := e2 (2 * j + 1) (by omega)
        rw [yvv (k2 j hj).1, yvv (m2 j (by omega)).1] at q1
        rw [yvv (k2 j hj).2, yvv (m2 j (by omega)).2] at q2
        rw [← pair_says (hf j hj).1 (hf j hj).2, ← pair_says (hg j (by omega)).1 (hg j (by omega)).2, q1, q2]
      · rintro ⟨rfl, e2⟩
        refine ⟨by omega, fun i hi => ?_⟩
        rcases Nat.mod_two_eq_zero_or_one i with e | e
        · obtain ⟨j, rfl⟩ : ∃ j, i = 2 * j := ⟨i / 2, by omega⟩
          rw [yvv (k2 j (by omega)).1, yvv (m2 j (by omega)).1, e2 j (by omega)]
        · obtain ⟨j, rfl⟩ : ∃ j, i = 2 * j + 1 := ⟨i / 2, by omega⟩
          rw [yvv (k2 j (by omega)).2, yvv (m2 j (by omega)).2, e2 j (by omega)]
/-- two codings differ: so do the texts -/
theorem Cod.dif {cd cd' : Int32} {n k : Nat} {f g : Nat → Int32} {V V' : Cell} (h : Cod cd n f V) (h' : Cod cd' k g V') (hne : ¬ cd = cd') : ¬ SameT n f k g := by
  rintro ⟨rfl, e⟩
  rcases h with ⟨rfl, -, k2⟩ | ⟨rfl, -, -, j, hj, hw⟩
  · rcases h' with ⟨rfl, -⟩ | ⟨-, -, -, j, hj, hw⟩
    · exact hne rfl
    · exact (k2 j hj).2 (by rw [e j hj]; exact hw)
  · rcases h' with ⟨-, -, m2⟩ | ⟨rfl, -⟩
    · exact (m2 j hj).2 (by rw [← e j hj]; exact hw)
    · exact hne rfl
/-- an object of exactly C is an instance of C -/
theorem cinst {p : Program} {l : Launch} {e : Env} {R : Room} {s : State} {m : MethodId} {args : Array Value} {below : List Frame} {meth : Method} {c : Code} {T : State} {locs : List Loc} {cells slots : Nat} (X : Stand p l e R s m args below meth c T locs cells slots) (hexec : p.tables.exec = Jvm.exec) {own C : String} {index : Nat} (hown : s.vm.findClass own = some m.cls) (hlink : (Cond.classLink own index C).before args s = true) {a : Addr} (hE : Exact C a T)
    {g : JFrame} (hg : g.method = m) {rest : List Value} (hstack : g.stack = .ref a :: rest) (hdg : decode c.code g.pc = .ok (.instanceof index, 3)) :
    ∃ T', Stand p l e R s m args below meth c T' locs cells slots ∧ T'.heap = T.heap ∧ ∀ target, Steps p.tables e below (T'.setTop { g with pc := g.pc + 3, stack := .int 1 :: rest }) target → Steps p.tables e below (T.setTop g) target := by
  obtain ⟨cB, h1, D, h2, h3, h4⟩ := hE
  have h1' : s.vm.findClass C = some cB := by rw [← X.warmed.alike.findClass]; exact h1
  obtain ⟨vm', X', st⟩ := X.instanceofYes hexec hown hlink h2 h4 h1' (by rw [h3]; exact Jvm.Free.SB.assignable_self _ _) hg hstack hdg
  exact ⟨_, X', rfl, st⟩
theorem cself {p : Program} {l : Launch} {e : Env} {R : Room} {s : State} {m : MethodId} {args : Array Value} {below : List Frame} {meth : Method} {c : Code} {T : State} {locs : List Loc} {cells slots : Nat} (X : Stand p l e R s m args below meth c T locs cells slots) (hexec : p.tables.exec = Jvm.exec) {own C : String} {index : Nat} (hown : s.vm.findClass own = some m.cls) (hlink : (Cond.classLink own index C).before args s = true) {a : Addr} (hE : Exact C a T)
    {g : JFrame} (hg : g.method = m) {rest : List Value} (hstack : g.stack = .ref a :: rest) (hdg : decode c.code g.pc = .ok (.checkcast index, 3)) :
    ∃ T', Stand p l e R s m args below meth c T' locs cells slots ∧ T'.heap = T.heap ∧ ∀ target, Steps p.tables e below (T'.setTop { g with pc := g.pc + 3, stack := .ref a :: rest }) target → Steps p.tables e below (T.setTop g) target := by
  obtain ⟨cB, h1, D, h2, h3, h4⟩ := hE
  have h1' : s.vm.findClass C = some cB := by rw [← X.warmed.alike.findClass]; exact h1
  obtain ⟨vm', X', st⟩ := X.checkcastYes hexec hown hlink h2 h4 h1' (by rw [h3]; exact Jvm.Free.SB.assignable_self _ _) hg hstack hdg
  exact ⟨_, X', rfl, fun t h => st t (by rw [← hstack] at h; exact h)⟩
namespace SEq
def yN : MethodName := ⟨"java/lang/String", "equals", "(Ljava/lang/Object;)Z"⟩
abbrev yB : ByteArray := jdk_42_method_66_code
theorem d0 : decode yB 0 = .ok (.aload_n 0, 1) := by decide +kernel
theorem d1 : decode yB 1 = .ok (.aload_n 1, 1) := by decide +kernel
theorem d2 : decode yB 2 = .ok (.if_acmp (.ne) 5, 3) := by decide +kernel
theorem d5 : decode yB 5 = .ok (.iconst 1, 1) := by decide +kernel
theorem d6 : decode yB 6 = .ok (.ireturn, 1) := by decide +kernel
theorem d7 : decode yB 7 = .ok (.aload_n 1, 1) := by decide +kernel
theorem d8 : decode yB 8 = .ok (.instanceof 10, 3) := by decide +kernel
theorem d11 : decode yB 11 = .ok (.ifCond (.eq) 43, 3) := by decide +kernel
theorem d14 : decode yB 14 = .ok (.aload_n 1, 1) := by decide +kernel
theorem d15 : decode yB 15 = .ok (.checkcast 10, 3) := by decide +kernel
theorem d18 : decode yB 18 = .ok (.astore_n 2, 1) := by decide +kernel
theorem d19 : decode yB 19 = .ok (.getstatic 38, 3) := by decide +kernel
theorem d22 : decode yB 22 = .ok (.ifCond (.eq) 14, 3) := by decide +kernel
theorem d25 : decode yB 25 = .ok (.aload_n 0, 1) := by decide +kernel
theorem d26 : decode yB 26 = .ok (.getfield 15, 3) := by decide +kernel
theorem d29 : decode yB 29 = .ok (.aload_n 2, 1) := by decide +kernel
theorem d30 : decode yB 30 = .ok (.getfield 15, 3) := by decide +kernel
theorem d33 : decode yB 33 = .ok (.if_icmp (.ne) 21, 3) := by decide +kernel
theorem d36 : decode yB 36 = .ok (.aload_n 0, 1) := by decide +kernel
theorem d37 : decode yB 37 = .ok (.getfield 9, 3) := by decide +kernel
theorem d40 : decode yB 40 = .ok (.aload_n 2, 1) := by decide +kernel
theorem d41 : decode yB 41 = .ok (.getfield 9, 3) := by decide +kernel
theorem d44 : decode yB 44 = .ok (.invokestatic 541, 3) := by decide +kernel
theorem d47 : decode yB 47 = .ok (.ifCond (.eq) 7, 3) := by decide +kernel
theorem d50 : decode yB 50 = .ok (.iconst 1, 1) := by decide +kernel
theorem d51 : decode yB 51 = .ok (.goto 4, 3) := by decide +kernel
theorem d54 : decode yB 54 = .ok (.iconst 0, 1) := by decide +kernel
theorem d55 : decode yB 55 = .ok (.ireturn, 1) := by decide +kernel
def site : List Cond := [.classLink "java/lang/String" 10 "java/lang/String", .fieldLink "java/lang/String" 38 "java/lang/String" "COMPACT_STRINGS" "Z", .fieldLink "java/lang/String" 15 "java/lang/String" "coder" "B", .fieldLink "java/lang/String" 9 "java/lang/String" "value" "[B", LEq.tab] ++ staticW "java/lang/String" 541 LEq.yN
def tab : Cond := tabOf yN yB 3 (some .boolean) site
def P (x t : Addr) (V : Cell) (cd : Int32) (n : Nat) (f : Nat → Int32) (y t' : Addr) (V' : Cell) (cd' : Int32) (k : Nat) (g : Nat → Int32) (z : Int32) (args : Array Value) (s : State) : Prop := args = #[.ref x, .ref y] ∧ Txt x t V cd n f s ∧ Txt y t' V' cd' k g s ∧ StaticIs s "java/lang/String" "COMPACT_STRINGS" "Z" (.int z) ∧ ¬ z = 0
/-- equals(Object) of two Strings: whether the texts are the same -/
theorem law (l : Launch) (x t : Addr) (V : Cell) (cd : Int32) (n : Nat) (f : Nat → Int32) (y t' : Addr) (V' : Cell) (cd' : Int32) (k : Nat) (g : Nat → Int32) (z : Int32) : Law l yN 2 1 1 14 yB 3 (some .boolean) site (P x t V cd n f y t' V' cd' k g z) (Says01 (SameT n f k g)) [] 0 0 := by
  refine Law.of_walk (plainFor_of_name (by decide +kernel)) (by decide +kernel) (by decide +kernel) (by decide) (fun _ _ h => by rw [h.1]; rfl) (fun _ U U' hal hh h => ⟨h.1, h.2.1.mv hal hh, h.2.2.1.mv hal hh, h.2.2.2.1.there hal hh, h.2.2.2.2⟩) (fun r U U' V V' h1 hal h2 h => Says01.mv r U U' V V' h1 hal h2 h) ?_
  intro p e s m args below meth c s₁ X0 hexec hbytes hml hret hlk hnm hown hh0 W hP
  obtain ⟨rfl, hx, hy, s1, hz⟩ := hP
  have c1 : Steps p.tables e below (s₁.setTop (entryFrame m #[.ref x, .ref y] 3)) (s₁.setTop (mkF m 2 #[.val (.ref x), .val (.ref y), .unset] [.ref y, .ref x])) := Steps.trans (entry rfl) (by
    show Steps p.tables e below (s₁.setTop (mkF m 0 #[.val (.ref x), .val (.ref y), .unset] [])) _
    refine XS.aloadN X0.here hexec rfl (hb hbytes d0) rfl rfl ?_
    refine XS.aloadN X0.here hexec rfl (hb hbytes d1) rfl rfl ?_
    exact Steps.refl _)
  by_cases hxy : x = y
  · have c2 : Steps p.tables e below (s₁.setTop (entryFrame m #[.ref x, .ref y] 3)) (s₁.setTop (mkF m 6 #[.val (.ref x), .val (.ref y), .unset] [.int 1])) := c1.trans (by
      refine acmpNo X0.here hexec rfl (hb hbytes d2) rfl rfl rfl (by simp [acmp, hxy]) ?_
      refine iconstV X0.here hexec rfl 1 (hb hbytes d5) (by decide) ?_
      exact Steps.refl _)
    subst hxy
    have ec : cd = cd' := by
      obtain ⟨D, fd, a1, a2, a3⟩ := hx.2.2.1
      obtain ⟨D', fd', b1, b2, b3⟩ := hy.2.2.1
      cases a1.symm.trans b1
      obtain ⟨q1, q2, q3, q4⟩ := a2.1
      obtain ⟨r1, r2, r3, r4⟩ := b2.1
      cases q4.symm.trans r4
      cases a3.symm.trans b3; rfl
    have et : t = t' := by
      obtain ⟨D, fd, a1, a2, a3⟩ := hx.2.1
      obtain ⟨D', fd', b1, b2, b3⟩ := hy.2.1
      cases a1.symm.trans b1
      obtain ⟨q1, q2, q3, q4⟩ := a2.1
      obtain ⟨r1, r2, r3, r4⟩ := b2.1
      cases q4.symm.trans r4
      cases a3.symm.trans b3; rfl
    subst ec et
    have ev : V = V' := by cases hx.2.2.2.1.1.symm.trans hy.2.2.2.1.1; rfl
    subst ev
    have hs : SameT n f k g := (Cod.eqv hx.2.2.2.2.1 hy.2.2.2.2.1 hx.2.2.2.2.2 hy.2.2.2.2.2).mp ⟨rfl, fun _ _ => rfl⟩
    exact ⟨s₁, some (.int 1), _, _, _, X0, rfl, rfl, rfl, (fun h => by cases h), ⟨1, rfl, hh0, Or.inl ⟨rfl, hs⟩⟩, fun fs hl => c2.trans (X0.ireturnOut hexec hret rfl (Or.inr (Or.inl rfl)) (hb hbytes d6) hl)⟩
  · have c2 : Steps p.tables e below (s₁.setTop (entryFrame m #[.ref x, .ref y] 3)) (s₁.setTop (mkF m 8 #[.val (.ref x), .val (.ref y), .unset] [.ref y])) := c1.trans (by
      refine acmpYes X0.here hexec rfl (pc0 := 2) rfl (hb hbytes d2) rfl rfl rfl (by simp [acmp, hxy]) (by decide) rfl ?_
      refine XS.aloadN X0.here hexec rfl (hb hbytes d7) rfl rfl ?_
      exact Steps.refl _)
    obtain ⟨T3, X3, q3, st3⟩ := cinst X0 hexec hown (wk W (.classLink "java/lang/String" 10 "java/lang/String")) (hy.mv X0.warmed.alike hh0).1 (g := (mkF m 8 #[.val (.ref x), .val (.ref y), .unset] [.ref y])) rfl (rest := []) rfl (hb hbytes d8)
    have hh3 := q3.trans hh0
    have c4 : Steps p.tables e below (s₁.setTop (entryFrame m #[.ref x, .ref y] 3)) (T3.setTop (mkF m 15 #[.val (.ref x), .val (.ref y), .unset] [.ref y])) := (c2.trans (st3 _ (Steps.refl _))).trans (by
      refine XS.ifNo X3.here hexec rfl (hb hbytes d11) rfl (i0_eq_f (by decide)) ?_
      refine XS.aloadN X3.here hexec rfl (hb hbytes d14) rfl rfl ?_
      exact Steps.refl _)
    obtain ⟨T5, X5, q5, st5⟩ := cself X3 hexec hown (wk W (.classLink "java/lang/String" 10 "java/lang/String")) (hy.mv X3.warmed.alike hh3).1 (g := (mkF m 15 #[.val (.ref x), .val (.ref y), .unset] [.ref y])) rfl (rest := []) rfl (hb hbytes d15)
    have hh5 := q5.trans hh3
    have c6 : Steps p.tables e below (s₁.setTop (entryFrame m #[.ref x, .ref y] 3)) (T5.setTop (mkF m 19 #[.val (.ref x), .val (.ref y), .val (.ref y)] [])) := (c4.trans (st5 _ (Steps.refl _))).trans (by
      refine XS.astoreN X5.here hexec rfl (hb hbytes d18) rfl rfl rfl ?_
      exact Steps.refl _)
    obtain ⟨T7, X7, q7, st7⟩ := X5.sget hexec hown (wk W (.fieldLink "java/lang/String" 38 "java/lang/String" "COMPACT_STRINGS" "Z")) s1 (fun _ _ h => by rw [hh5]; exact h) (g := (mkF m 19 #[.val (.ref x), .val (.ref y), .val (.ref y)] [])) rfl (hb hbytes d19)
    have hh7 := q7.trans hh5
    have c8 : Steps p.tables e below (s₁.setTop (entryFrame m #[.ref x, .ref y] 3)) (T7.setTop (mkF m 26 #[.val (.ref x), .val (.ref y), .val (.ref y)] [.ref x])) := (c6.trans (st7 _ (Steps.refl _))).trans (by
      refine XS.ifNo X7.here hexec rfl (hb hbytes d22) rfl (i0_eq_f hz) ?_
      refine XS.aloadN X7.here hexec rfl (hb hbytes d25) rfl rfl ?_
      exact Steps.refl _)
    obtain ⟨T9, X9, q9, st9⟩ := X7.hget hexec hown (wk W (.fieldLink "java/lang/String" 15 "java/lang/String" "coder" "B")) (hx.mv X7.warmed.alike hh7).2.2.1 (g := (mkF m 26 #[.val (.ref x), .val (.ref y), .val (.ref y)] [.ref x])) rfl (rest := []) rfl (hb hbytes d26)
    have hh9 := q9.trans hh7
    have c10 : Steps p.tables e below (s₁.setTop (entryFrame m #[.ref x, .ref y] 3)) (T9.setTop (mkF m 30 #[.val (.ref x), .val (.ref y), .val (.ref y)] [.ref y, .int cd])) := (c8.trans (st9 _ (Steps.refl _))).trans (by
      refine XS.aloadN X9.here hexec rfl (hb hbytes d29) rfl rfl ?_
      exact Steps.refl _)
    obtain ⟨T11, X11, q11, st11⟩ := X9.hget hexec hown (wk W (.fieldLink "java/lang/String" 15 "java/lang/String" "coder" "B")) (hy.mv X9.warmed.alike hh9).2.2.1 (g := (mkF m 30 #[.val (.ref x), .val (.ref y), .val (.ref y)] [.ref y, .int cd])) rfl (rest := [.int cd]) rfl (hb hbytes d30)
    have hh11 := q11.trans hh9
    have c12 : Steps p.tables e below (s₁.setTop (entryFrame m #[.ref x, .ref y] 3)) (T11.setTop (mkF m 33 #[.val (.ref x), .val (.ref y), .val (.ref y)] [.int cd', .int cd])) := c10.trans (st11 _ (Steps.refl _))
    by_cases hcd : cd = cd'
    · subst hcd
      have c13 : Steps p.tables e below (s₁.setTop (entryFrame m #[.ref x, .ref y] 3)) (T11.setTop (mkF m 37 #[.val (.ref x), .val (.ref y), .val (.ref y)] [.ref x])) := c12.trans (by
        refine XS.icmpNo X11.here hexec rfl (hb hbytes d33) rfl (ii_ne_f rfl) ?_
        refine XS.aloadN X11.here hexec rfl (hb hbytes d36) rfl rfl ?_
        exact Steps.refl _)
      obtain ⟨T14, X14, q14, st14⟩ := X11.hget hexec hown (wk W (.fieldLink "java/lang/String" 9 "java/lang/String" "value" "[B")) (hx.mv X11.warmed.alike hh11).2.1 (g := (mkF m 37 #[.val (.ref x), .val (.ref y), .val (.ref y)] [.ref x])) rfl (rest := []) rfl (hb hbytes d37)
      have hh14 := q14.trans hh11
      have c15 : Steps p.tables e below (s₁.setTop (entryFrame m #[.ref x, .ref y] 3)) (T14.setTop (mkF m 41 #[.val (.ref x), .val (.ref y), .val (.ref y)] [.ref y, .ref t])) := (c13.trans (st14 _ (Steps.refl _))).trans (by
        refine XS.aloadN X14.here hexec rfl (hb hbytes d40) rfl rfl ?_
        exact Steps.refl _)
      obtain ⟨T16, X16, q16, st16⟩ := X14.hget hexec hown (wk W (.fieldLink "java/lang/String" 9 "java/lang/String" "value" "[B")) (hy.mv X14.warmed.alike hh14).2.1 (g := (mkF m 41 #[.val (.ref x), .val (.ref y), .val (.ref y)] [.ref y, .ref t])) rfl (rest := [.ref t]) rfl (hb hbytes d41)
      have hh16 := q16.trans hh14
      have c17 : Steps p.tables e below (s₁.setTop (entryFrame m #[.ref x, .ref y] 3)) (T16.setTop (mkF m 44 #[.val (.ref x), .val (.ref y), .val (.ref y)] [.ref t', .ref t])) := c15.trans (st16 _ (Steps.refl _))
      obtain ⟨v18, T18, X18, E18, g18⟩ := X16.callS hexec (LEq.law l t V t' V') hown (wks W (staticW "java/lang/String" 541 LEq.yN)) (wk W LEq.tab) (W := 0) (Nat.le_of_ble_eq_true rfl) (Nat.le_of_ble_eq_true rfl) (Nat.le_refl _) (Nat.le_refl _) (g := (mkF m 44 #[.val (.ref x), .val (.ref y), .val (.ref y)] [.ref t', .ref t])) rfl (by rw [hml]; rfl) c17 (argsL := [.ref t, .ref t']) (rest := []) rfl rfl (by show 2 * 0 + 0 ≤ _; decide) (hb hbytes d44) (⟨rfl, hx.2.2.2.1.mv X16.warmed.alike hh16, hx.2.2.2.2.1.ty, hy.2.2.2.1.mv X16.warmed.alike hh16, hy.2.2.2.2.1.ty⟩)
      obtain ⟨v, rfl, q18, hv⟩ := E18
      have iff := Cod.eqv hx.2.2.2.2.1 hy.2.2.2.2.1 hx.2.2.2.2.2 hy.2.2.2.2.2
      rcases hv with ⟨rfl, he⟩ | ⟨rfl, he⟩
      · have c19 : Steps p.tables e below (s₁.setTop (entryFrame m #[.ref x, .ref y] 3)) (T18.setTop (mkF m 55 #[.val (.ref x), .val (.ref y), .val (.ref y)] [.int 1])) := Steps.trans g18 (by
          refine XS.ifNo X18.here hexec rfl (hb hbytes d47) rfl (i0_eq_f (by decide)) ?_
          refine iconstV X18.here hexec rfl 1 (hb hbytes d50) (by decide) ?_
          refine XS.goto X18.here hexec rfl (pc0 := 51) rfl (hb hbytes d51) (by decide) rfl ?_
          exact Steps.refl _)
        exact ⟨T18, some (.int 1), _, _, _, X18, rfl, rfl, rfl, (fun h => by cases h), ⟨1, rfl, q18.trans hh16, Or.inl ⟨rfl, iff.mp he⟩⟩, fun fs hl => c19.trans (X18.ireturnOut hexec hret rfl (Or.inr (Or.inl rfl)) (hb hbytes d55) hl)⟩
      · have c19 : Steps p.tables e below (s₁.setTop (entryFrame m #[.ref x, .ref y] 3)) (T18.setTop (mkF m 55 #[.val (.ref x), .val (.ref y), .val (.ref y)] [.int 0])) := Steps.trans g18 (by
          refine XS.ifYes X18.here hexec rfl (pc0 := 47) rfl (hb hbytes d47) rfl (i0_eq_t rfl) (by decide) rfl ?_
          refine iconstV X18.here hexec rfl 0 (hb hbytes d54) (by decide) ?_
          exact Steps.refl _)
        exact ⟨T18, some (.int 0), _, _, _, X18, rfl, rfl, rfl, (fun h => by cases h), ⟨0, rfl, q18.trans hh16, Or.inr ⟨rfl, fun q => he (iff.mpr q)⟩⟩, fun fs hl => c19.trans (X18.ireturnOut hexec hret rfl (Or.inr (Or.inl rfl)) (hb hbytes d55) hl)⟩
    · have c13 : Steps p.tables e below (s₁.setTop (entryFrame m #[.ref x, .ref y] 3)) (T11.setTop (mkF m 55 #[.val (.ref x), .val (.ref y), .val (.ref y)] [.int 0])) := c12.trans (by
        refine XS.icmpYes X11.here hexec rfl (pc0 := 33) rfl (hb hbytes d33) rfl (ii_ne_t hcd) (by decide) rfl ?_
        refine iconstV X11.here hexec rfl 0 (hb hbytes d54) (by decide) ?_
        exact Steps.refl _)
      exact ⟨T11, some (.int 0), _, _, _, X11, rfl, rfl, rfl, (fun h => by cases h), ⟨0, rfl, hh11, Or.inr ⟨rfl, Cod.dif hx.2.2.2.2.1 hy.2.2.2.2.1 hcd⟩⟩, fun fs hl => c13.trans (X11.ireturnOut hexec hret rfl (Or.inr (Or.inl rfl)) (hb hbytes d55) hl)⟩
theorem pays {l : Launch} {R : Room} {p : Program} {e : Env} {below : List Frame} {s : State} {sargs : Array Value} {len W : Nat} (x t : Addr) (V : Cell) (cd : Int32) (n : Nat) (f : Nat → Int32) (y t' : Addr) (V' : Cell) (cd' : Int32) (k : Nat) (g : Nat → Int32) (z : Int32) (htab : tab.before sargs s = true) (hfr : 2 ≤ R.frames) (hlo : W + 28 ≤ R.locals) :
    Back l R p e below s sargs yN len W (fun A₁ a₁ => A₁.cells + 0 ≤ R.cells ∧ A₁.slots + 0 ≤ R.slots ∧ P x t V cd n f y t' V' cd' k g z a₁ A₁.U) (fun A₁ _ v₁ B₁ => Says01 (SameT n f k g) v₁ A₁.U B₁.U ∧ B₁.locs = A₁.locs ++ [] ∧ B₁.cells = A₁.cells + 0 ∧ B₁.slots = A₁.slots + 0) :=
  (law l x t V cd n f y t' V' cd' k g z).pays htab hfr (by omega)
end SEq
end StrChars
namespace StrChars.Road
open Jvm Sem ClassFile Op Lib Jvm.Stand Jvm.Free Jvm.Free.XT
open Jvm.Lib.Cold (StaticIs)
/-- the words of String.equals(Object) -/
abbrev wordsEq : List Jvm.Cond := [.code SEq.yN SEq.yB 3 (some .boolean), .initialized ST, .classLink ST 10 ST, .fieldLink ST 38 ST "COMPACT_STRINGS" "Z", .fieldLink ST 15 ST "coder" "B", .fieldLink ST 9 ST "value" "[B", .methodLink ST 541 LEq.yN, .static LEq.yN, .code LEq.yN LEq.yB 3 (some .boolean), .initialized "java/lang/StringLatin1"]
theorem tabEq_of {a : Array Value} {s : State} (h : ∀ w ∈ wordsEq, w.before a s = true) : SEq.tab.before a s = true := by
  have hl : LEq.tab.before a s = true := unparts (wk h (.code LEq.yN LEq.yB 3 (some .boolean))) (wks h (.initialized LEq.yN.cls :: LEq.site))
  have q := consq hl h
  exact unparts (wk q (.code SEq.yN SEq.yB 3 (some .boolean))) (wks q (.initialized SEq.yN.cls :: SEq.site))
theorem movedEq {Z s : State} {a0 args : Array Value} (hZ : Z.Warmed39 s.vm) (hw : ∀ d ∈ wordsEq, d.before a0 Z = true) : ∀ d ∈ wordsEq, d.before args s = true := fun d hd => by
  have t : ∀ d ∈ wordsEq, (d.onTables && d.keepsFace) = true := by decide +kernel
  exact RoadKit.mv hZ (hw d hd) (t d hd)
/-- the road's facts of a String, as the laws ask it -/
theorem txt_of {Z U : State} {a0 : Array Value} {kI : Nat} (wi : (Jvm.Cond.instantiable ST kI).before a0 Z = true) (al : Z.vm.Alike U.vm) {x t : Addr} {kb : ClassId} {cs : List Int32} {cd N2 : Int32} {vs : List Value} (E : RoadKit.Exa Z U.heap x ST) (V : RoadKit.Fld Z U.heap x ST "value" "[B" (.ref t)) (C : RoadKit.Fld Z U.heap x ST "coder" "B" (.int cd)) (K : RoadKit.Arv Z U.heap t kb .byte N2 vs (.int 0)) (hc : CodA cs cd N2 vs) (hb : ∀ c ∈ cs, ¬ c < 0 ∧ ¬ (65535 : Int32) < c) (l2 : cs.length ≤ 4000) :
    ∃ A, Txt x t A cd cs.length (fun j => cs.getD j 0) U := by
  obtain ⟨A, K1, K2, K3, K4, K5, K6⟩ := K
  have hcod := hc.cod (by omega) K3 K5
  obtain ⟨D, fV, fC, hB, F1, F2, g1, g2, -, -⟩ := strObj wi al E V C
  exact ⟨A, ⟨_, hB.2.2.1, D, hB.1, rfl, by cases q : D.vm <;> first | rfl | exact absurd q (hB.2.1.2 _)⟩, Has.of hB F1 g1, Has.of hB F2 g2, ⟨K1.1, State.isArrayOf_alike al K1.2.1, K1.2.2, by rcases hcod with ⟨-, q, -⟩ | ⟨-, q, -⟩ <;> omega⟩, hcod, fun j hj => by
    have e : cs.getD j 0 = cs[j] := by simp [List.getD_eq_getElem?_getD, hj]
    show ¬ cs.getD j 0 < 0 ∧ ¬ 65535 < cs.getD j 0
    rw [e]; exact hb _ (List.getElem_mem _)⟩
theorem same_list (cs ds : List Int32) : SameT cs.length (fun j => cs.getD j 0) ds.length (fun j => ds.getD j 0) ↔ cs = ds := by
  constructor
  · rintro ⟨e, q⟩
    refine List.ext_getElem e fun j h1 h2 => ?_
    have := q j h1
    simpa [List.getD_eq_getElem?_getD, h1, h2] using this
  · rintro rfl
    exact ⟨rfl, fun _ _ => rfl⟩
/-- **equals(Object) OF TWO SUCH STRINGS**: 1 just where the chars are the same -/
theorem eqW {p : Program} {l : Launch} {e : Env} {R : Room} {s : State} {args : Array Value} {below : List Frame} {len W : Nat} {Z : State} {a0 : Array Value} {h : Heap} (hZ : Z.Warmed39 s.vm) (hw : ∀ d ∈ wordsEq, d.before a0 Z = true) {kI : Nat} (wi : (Jvm.Cond.instantiable ST kI).before a0 Z = true)
    {x t : Addr} {kb : ClassId} {cs : List Int32} {cd N2 : Int32} {vs : List Value} (E : RoadKit.Exa Z h x ST) (V : RoadKit.Fld Z h x ST "value" "[B" (.ref t)) (C : RoadKit.Fld Z h x ST "coder" "B" (.int cd)) (K : RoadKit.Arv Z h t kb .byte N2 vs (.int 0)) (hc : CodA cs cd N2 vs) (hb : ∀ c ∈ cs, ¬ c < 0 ∧ ¬ (65535 : Int32) < c) (l2 : cs.length ≤ 4000)
    {y t' : Addr} {kb' : ClassId} {ds : List Int32} {cd' N2' : Int32} {vs' : List Value} (E' : RoadKit.Exa Z h y ST) (V' : RoadKit.Fld Z h y ST "value" "[B" (.ref t')) (C' : RoadKit.Fld Z h y ST "coder" "B" (.int cd')) (K' : RoadKit.Arv Z h t' kb' .byte N2' vs' (.int 0)) (hc' : CodA ds cd' N2' vs') (hb' : ∀ c ∈ ds, ¬ c < 0 ∧ ¬ (65535 : Int32) < c) (l2' : ds.length ≤ 4000)
    {z : Int32} (S : RoadKit.Sta Z h ST "COMPACT_STRINGS" "Z" (.int z)) (hz : ¬ z = 0) (hfr : 2 ≤ R.frames) (hlo : W + 28 ≤ R.locals) :
    Back l R p e below s args (⟨"java/lang/String", "equals", "(Ljava/lang/Object;)Z"⟩ : MethodName) len W (fun P a => a = #[.ref x, .ref y] ∧ P.U.heap = h ∧ P.cells + 0 ≤ R.cells ∧ P.slots + 0 ≤ R.slots)
      (fun P _ v B => ∃ L, (((v = some (.int 1) ∧ cs = ds) ∨ (v = some (.int 0) ∧ ¬ cs = ds)) ∧ L = [] ∧ B.U.heap = h) ∧ B.locs = P.locs ++ L ∧ B.cells = P.cells + 0 ∧ B.slots = P.slots + 0) := by
  intro m meth c P g ig mk a X hg hsize hdg hW hn hp'
  obtain ⟨rfl, rfl, r1, r2⟩ := hp'
  have al : Z.vm.Alike P.U.vm := hZ.alike.trans X.warmed.alike
  obtain ⟨A, hx⟩ := txt_of wi al E V C K hc hb l2
  obtain ⟨A', hy⟩ := txt_of wi al E' V' C' K' hc' hb' l2'
  obtain ⟨v, B, X', ⟨⟨w, hv, hh, hq⟩, hl, hk, hs⟩, st⟩ := SEq.pays x t A cd cs.length (fun j => cs.getD j 0) y t' A' cd' ds.length (fun j => ds.getD j 0) z (tabEq_of (movedEq hZ hw)) hfr hlo m meth c P g ig mk _ X hg hsize hdg hW hn ⟨r1, r2, rfl, hx, hy, sta_is al S, hz⟩
  refine ⟨v, B, X', ⟨[], ⟨?_, rfl, hh⟩, hl, hk, hs⟩, st⟩
  rcases hq with ⟨rfl, q⟩ | ⟨rfl, q⟩
  · exact Or.inl ⟨hv, (same_list cs ds).mp q⟩
  · exact Or.inr ⟨hv, fun e => q ((same_list cs ds).mpr e)⟩
end StrChars.Road
end Jvm.Pilot.@@N@@

namespace Jvm.Pilot.@@N@@
open Jvm Jvm.ClassFile Sem Op Lib Jvm.Free Jvm.Stand Jvm.LawKit Jvm.RoadKit Bundle Jvm.Pilot.@@N@@.Jvm.D
theorem own_gd {l : List Value} {j : Int32} {n : Nat} {d v : Value} (h : j.toNatClampNeg = n) (e : l.getD n d = v) : l.getD j.toNatClampNeg d = v := by rw [h]; exact e
theorem own_lenK {l : List Value} {z : Int32} {n : Nat} (e : l.length = n) (h : z.toNatClampNeg = n) : l.length = z.toNatClampNeg := by rw [e, h]
theorem own_W {n W : Nat} (h : n = W) : 2 * 0 + n ≤ W := by omega
abbrev own_HW (a0 : Array Value) (Z : State) : Prop := ∀ d ∈ tables_1, d.before a0 Z = true
abbrev DK (b : ByteArray) (n : Nat) (i : Instr) (k : Nat) : Prop := decode b n = .ok (i, k)
section OwnFin
variable {p : Program} {l : Launch} {e : Env} {R : Room} {s : State} {m : MethodId} {args : Array Value} {below : List Frame} {meth : Method} {c : Code} {locs : List Loc} {cells slots dc ds : Nat} {s₀ : State} {F : Option Value → JFrame} {Q : Option Value → Heap → List Loc → Prop}
theorem own_fin {g : JFrame} {rest : List Value} (H : ∃ (v : Option Value) (vm₁ : Vm) (B : Pt), s.WarmedH vm₁ ∧ Stand p l e R s m args below meth c B.U B.locs B.cells B.slots ∧ (∃ L, Q v B.U.heap L ∧ B.locs = locs ++ L ∧ B.cells = cells + dc ∧ B.slots = slots + ds) ∧ Steps p.tables e below s₀ (B.U.setTop { g with pc := g.pc + 3, stack := v.toList ++ rest })) :
    ∃ v T' Lc, Stand p l e R s m args below meth c T' (locs ++ Lc) (cells + dc) (slots + ds) ∧ Q v T'.heap Lc ∧ Steps p.tables e below s₀ (T'.setTop { g with pc := g.pc + 3, stack := v.toList ++ rest }) := by
  obtain ⟨v, _, ⟨T', L, k, n⟩, -, X, ⟨Lc, hQ, h1, h2, h3⟩, st⟩ := H
  obtain rfl : L = _ := h1
  obtain rfl : k = _ := h2
  obtain rfl : n = _ := h3
  exact ⟨v, T', Lc, X, hQ, st⟩
theorem own_finI {g : JFrame} {rest : List Value} (H : ∃ (v : Option Value) (vm₁ : Vm) (B : Pt), s.WarmedH vm₁ ∧ Stand p l e R s m args below meth c B.U B.locs B.cells B.slots ∧ (∃ L, Q v B.U.heap L ∧ B.locs = locs ++ L ∧ B.cells = cells + dc ∧ B.slots = slots + ds) ∧ Steps p.tables e below s₀ (B.U.setTop { g with pc := g.pc + 5, stack := v.toList ++ rest })) :
    ∃ v T' Lc, Stand p l e R s m args below meth c T' (locs ++ Lc) (cells + dc) (slots + ds) ∧ Q v T'.heap Lc ∧ Steps p.tables e below s₀ (T'.setTop { g with pc := g.pc + 5, stack := v.toList ++ rest }) := by
  obtain ⟨v, _, ⟨T', L, k, n⟩, -, X, ⟨Lc, hQ, h1, h2, h3⟩, st⟩ := H
  obtain rfl : L = _ := h1
  obtain rfl : k = _ := h2
  obtain rfl : n = _ := h3
  exact ⟨v, T', Lc, X, hQ, st⟩
theorem own_finT {g : JFrame} {rest : List Value} (H : ∃ (v : Option Value) (vm₁ : Vm) (B : Pt), s.WarmedH vm₁ ∧ Stand p l e R s m args below meth c B.U B.locs B.cells B.slots ∧ (∃ L, Q v B.U.heap L ∧ B.locs = locs ++ L ∧ B.cells = cells + dc ∧ B.slots = slots + ds) ∧ ∀ target, Steps p.tables e below (B.U.setTop { g with pc := g.pc + 3, stack := v.toList ++ rest }) target → Steps p.tables e below s₀ target) :
    ∃ v T' Lc, Stand p l e R s m args below meth c T' (locs ++ Lc) (cells + dc) (slots + ds) ∧ Q v T'.heap Lc ∧ ∀ target, Steps p.tables e below (T'.setTop { g with pc := g.pc + 3, stack := v.toList ++ rest }) target → Steps p.tables e below s₀ target := by
  obtain ⟨v, _, ⟨T', L, k, n⟩, -, X, ⟨Lc, hQ, h1, h2, h3⟩, st⟩ := H
  obtain rfl : L = _ := h1
  obtain rfl : k = _ := h2
  obtain rfl : n = _ := h3
  exact ⟨v, T', Lc, X, hQ, st⟩
end OwnFin
abbrev own_MF (l : Launch) (y : MethodName) (b : ByteArray) (ml : Nat) (r : Option FieldType) (ws : List Jvm.Cond) (R : Room) (Z : State) (h0 : Heap) (as : Array Value) (Q : Option Value → Heap → List Loc → Prop) : Prop :=
  MetFree l y (head1 (Jvm.Cond.code y b ml r :: ws) R) (fun a U => a = as ∧ Z.Warmed39 U.vm ∧ U.heap = h0) (fun _ _ _ _ _ => True) (fun _ U o U' => ∃ v L, o = .returned v ∧ Q v U'.heap L ∧ FrameEnd U o U' L R.cells R.slots)
theorem own_open {l : Launch} {y : MethodName} {b : ByteArray} {ml : Nat} {r : Option FieldType} {ws : List Jvm.Cond} {R : Room} {Z : State} {h0 : Heap} {as : Array Value} {Q : Option Value → Heap → List Loc → Prop} (hp : plainFor y = true) {L0 : Array Slot} (hL : ∀ m, entryFrame m as ml = mkF m 0 L0 [])
    (H : ∀ (p : Program) (e : Env) (s : State) (m : MethodId) (below : List Frame) (meth : Method) (c : Code) (s₁ : State), p.tables.exec = Jvm.exec → c.code = b → c.maxLocals = ml → meth.sig.returnType = r → s.methodNamed? y = some m ∧ s.vm.method? m = some meth → Z.Warmed39 s.vm → s.vm.findClass y.cls = some m.cls → Stand p l e R s m as below meth c s₁ [] 0 0 → s₁.heap = h0 →
      ∃ v T L cs sl, (r = none → v = none) ∧ Stand p l e R s m as below meth c T L cs sl ∧ cs ≤ R.cells ∧ sl ≤ R.slots ∧ Q v T.heap L ∧ ∀ fs, (∀ (f : JFrame) (acts : List Action), f.method = m → f.locked = none → f.entered = [] → (doReturn e (T.setTop f) acts v).1 = T.setFrames fs) → Steps p.tables e below (s₁.setTop (mkF m 0 L0 [])) (T.setFrames fs)) :
    own_MF l y b ml r ws R Z h0 as Q := by
  refine MetFree.of_bodySF hp hisR ?_
  intro p e s m args below meth c s₁ Bd hml hP hK
  obtain ⟨rfl, hZ, hh⟩ := hP
  have e0 : s₁.heap = h0 := by rw [← hh, Bd.state]; rfl
  obtain ⟨v, T, L, cs, sl, hv, X, hc, hs, hQ, st⟩ := H p e s m below meth c s₁ Bd.exec Bd.bytes hml Bd.returns ⟨Bd.named, Bd.method⟩ hZ (findClass_of_methodNamed Bd.named) (Stand.of_body Bd) e0
  obtain ⟨fs, hr, hrun, hended, hW, hsame⟩ := X.leave (v := v) (fun q => hv (Bd.returns ▸ q))
  exact ⟨_, _, castTop (hL m) (st fs hr), hrun, hended, v, L, rfl, hQ, ⟨_, rfl⟩, hW, hsame.mono hc hs⟩
section OwnCall
variable {p : Program} {l : Launch} {e : Env} {R : Room} {s : State} {m : MethodId} {args : Array Value} {below : List Frame} {meth : Method} {c : Code} {T : State} {locs : List Loc} {cells slots : Nat} {Z : State} {a0 : Array Value} {h : Heap} {own : String} {index : Nat} {y : MethodName} {bytes : ByteArray} {maxL : Nat} {ret : Option FieldType} {rm : Room} {argsL rest : List Value} {Q : Option Value → Heap → List Loc → Prop} {W : Nat} {g : JFrame}
theorem own_cS (X : Stand p l e R s m args below meth c T locs cells slots) (hx : p.tables.exec = Jvm.exec) (hZ : Z.Warmed39 s.vm) (hown : s.vm.findClass own = some m.cls) (eT : T.heap = h) (hM : own_MF l y bytes maxL ret [] rm Z h argsL.toArray Q)
    (w1 : (Jvm.Cond.methodLink own index y).before a0 Z = true) (w2 : (Jvm.Cond.static y).before a0 Z = true) (w3 : (Jvm.Cond.initialized y.cls).before a0 Z = true) (w4 : (Jvm.Cond.code y bytes maxL ret).before a0 Z = true) (hy : y.cls ≠ "java/lang/invoke/MethodHandle" ∧ y.cls ≠ "java/lang/invoke/VarHandle")
    (hf : rm.frames + 1 ≤ R.frames) (hl : W + (maxL + 11) + rm.locals ≤ R.locals) (hc : cells + rm.cells ≤ R.cells) (hs : slots + rm.slots ≤ R.slots) (hg : g.method = m) (hsize : g.locals.size = c.maxLocals)
    (hlen : ∀ sig, parseMethodDescriptor y.desc = some sig → argsL.length = sig.parameters.length) (hst : g.stack = argsL.reverse ++ rest) (hW : 2 * g.monitorRoom + (rest.map fun v => v.category).sum ≤ W) (hd : decode c.code g.pc = .ok (.invokestatic index, 3)) :
    ∃ v T' Lc, Stand p l e R s m args below meth c T' (locs ++ Lc) (cells + rm.cells) (slots + rm.slots) ∧ Q v T'.heap Lc ∧ ∀ target, Steps p.tables e below (T'.setTop { g with pc := g.pc + 3, stack := v.toList ++ rest }) target → Steps p.tables e below (T.setTop g) target :=
  own_finT (Jvm.LawKit.callS X hx hown (mvT hZ w1) (mvT hZ w2) (mvT hZ w3) (mvT hZ w4) hy (backOf hM hZ w4 w3 hf hl) hg hsize hlen hst hW hd (fun _ _ => ⟨rfl, eT, hc, hs⟩))
theorem own_cV {C : String} {a : Addr} (X : Stand p l e R s m args below meth c T locs cells slots) (hx : p.tables.exec = Jvm.exec) (hZ : Z.Warmed39 s.vm) (hown : s.vm.findClass own = some m.cls) (eT : T.heap = h) (hM : own_MF l y bytes maxL ret [] rm Z h (.ref a :: argsL).toArray Q) (E : Exa Z h a C)
    (w1 : (Jvm.Cond.methodLink own index y).before a0 Z = true) (w2 : (Jvm.Cond.declares y).before a0 Z = true) (w3 : (Jvm.Cond.selects C y y).before a0 Z = true) (w5 : (Jvm.Cond.instanceMethod y).before a0 Z = true) (w4 : (Jvm.Cond.code y bytes maxL ret).before a0 Z = true) (w6 : (Jvm.Cond.initialized y.cls).before a0 Z = true) (hy : y.cls ≠ "java/lang/invoke/MethodHandle" ∧ y.cls ≠ "java/lang/invoke/VarHandle")
    (hf : rm.frames + 1 ≤ R.frames) (hl : W + (maxL + 11) + rm.locals ≤ R.locals) (hc : cells + rm.cells ≤ R.cells) (hs : slots + rm.slots ≤ R.slots) (hg : g.method = m) (hsize : g.locals.size = c.maxLocals)
    (hlen : ∀ sig, parseMethodDescriptor y.desc = some sig → argsL.length = sig.parameters.length) (hst : g.stack = argsL.reverse ++ .ref a :: rest) (hW : 2 * g.monitorRoom + (rest.map fun v => v.category).sum ≤ W) (hd : decode c.code g.pc = .ok (.invokevirtual index, 3)) :
    ∃ v T' Lc, Stand p l e R s m args below meth c T' (locs ++ Lc) (cells + rm.cells) (slots + rm.slots) ∧ Q v T'.heap Lc ∧ ∀ target, Steps p.tables e below (T'.setTop { g with pc := g.pc + 3, stack := v.toList ++ rest }) target → Steps p.tables e below (T.setTop g) target := by
  obtain ⟨cB, kB, q1, q2, q3⟩ := isOf hZ eT E
  obtain ⟨v, T', Lc, X', hQ, st⟩ := own_fin (X.virtualBack hx hown (mvT hZ w1) (mvT hZ w2) (notFace_of_selects (args := #[]) (mvT hZ w3)) (mvT hZ w3) (mvT hZ w5) hy (backOf hM hZ w4 w6 hf hl) q1 q3 hg hsize (Steps.refl _) hlen hst hW hd (fun _ _ => ⟨rfl, eT, hc, hs⟩))
  exact ⟨v, T', Lc, X', hQ, fun t k => st.trans k⟩
theorem own_cI {C : String} {a : Addr} {count : Nat} {xi : MethodName} (X : Stand p l e R s m args below meth c T locs cells slots) (hx : p.tables.exec = Jvm.exec) (hZ : Z.Warmed39 s.vm) (hown : s.vm.findClass own = some m.cls) (eT : T.heap = h) (hM : own_MF l y bytes maxL ret [] rm Z h (.ref a :: argsL).toArray Q) (E : Exa Z h a C)
    (w1 : (Jvm.Cond.methodLink own index xi).before a0 Z = true) (w2 : (Jvm.Cond.declares xi).before a0 Z = true) (w7 : (Jvm.Cond.interfaceMethod xi.cls xi.cls xi.name xi.desc).before a0 Z = true) (w3 : (Jvm.Cond.selects C xi y).before a0 Z = true) (w5 : (Jvm.Cond.instanceMethod y).before a0 Z = true) (w8 : (Jvm.Cond.publicMethod y).before a0 Z = true) (w9 : (Jvm.Cond.unhidden C xi.name xi.desc).before a0 Z = true) (wa : (Jvm.Cond.castable C xi.cls).before a0 Z = true) (w4 : (Jvm.Cond.code y bytes maxL ret).before a0 Z = true) (w6 : (Jvm.Cond.initialized y.cls).before a0 Z = true) (hy : xi.cls ≠ "java/lang/invoke/MethodHandle" ∧ xi.cls ≠ "java/lang/invoke/VarHandle")
    (hf : rm.frames + 1 ≤ R.frames) (hl : W + (maxL + 11) + rm.locals ≤ R.locals) (hc : cells + rm.cells ≤ R.cells) (hs : slots + rm.slots ≤ R.slots) (hg : g.method = m) (hsize : g.locals.size = c.maxLocals)
    (hlen : ∀ sig, parseMethodDescriptor xi.desc = some sig → argsL.length = sig.parameters.length) (hst : g.stack = argsL.reverse ++ .ref a :: rest) (hW : 2 * g.monitorRoom + (rest.map fun v => v.category).sum ≤ W) (hd : decode c.code g.pc = .ok (.invokeinterface index count, 5)) (h7 : ((Jvm.Cond.interfaceMethod xi.cls xi.cls xi.name xi.desc).onTables && (Jvm.Cond.interfaceMethod xi.cls xi.cls xi.name xi.desc).keepsFace) = true := by first | rfl | simp [Cond.onTables, Cond.keepsFace, Cond.keeps, Cond.steady]) :
    ∃ v T' Lc, Stand p l e R s m args below meth c T' (locs ++ Lc) (cells + rm.cells) (slots + rm.slots) ∧ Q v T'.heap Lc ∧ ∀ target, Steps p.tables e below (T'.setTop { g with pc := g.pc + 5, stack := v.toList ++ rest }) target → Steps p.tables e below (T.setTop g) target := by
  obtain ⟨cB, kB, q1, q2, q3⟩ := isOf hZ eT E
  obtain ⟨v, T', Lc, X', hQ, st⟩ := own_finI (X.interfaceBack hx hown (mvT hZ w1) (mvT hZ w2) (mvT hZ w7 h7) (mvT hZ w3) (mvT hZ w5) (mvT hZ w8) (mvT hZ w9) (mvT hZ wa) hy (backOf hM hZ w4 w6 hf hl) q1 q2 q3 hg hsize (Steps.refl _) hlen hst hW hd (fun _ _ => ⟨rfl, eT, hc, hs⟩))
  exact ⟨v, T', Lc, X', hQ, fun t k => st.trans k⟩
end OwnCall
section OwnStep
variable {p : Program} {l : Launch} {e : Env} {R : Room} {s : State} {m : MethodId} {args : Array Value} {below : List Frame} {meth : Method} {c : Code} {T target : State} {locs : List Loc} {cells slots : Nat} {b : ByteArray} {g : JFrame}
theorem qiN (X : Stand p l e R s m args below meth c T locs cells slots) (hx : p.tables.exec = Jvm.exec) (y : c.code = b) {k : Fin 4} {v : Int32} (d : decode b g.pc = .ok (.iload_n k, 1)) (hr : Steps p.tables e below (T.setTop { g with pc := g.pc + 1, stack := .int v :: g.stack }) target) (hg : g.method = m := by rfl) (hl : g.locals[k.val]? = some (.val (.int v)) := by rfl) : Steps p.tables e below (T.setTop g) target := XS.iloadN X.here hx hg (hb y d) hl hr
theorem qi (X : Stand p l e R s m args below meth c T locs cells slots) (hx : p.tables.exec = Jvm.exec) (y : c.code = b) {k : Nat} {v : Int32} (d : decode b g.pc = .ok (.iload k, 2)) (hr : Steps p.tables e below (T.setTop { g with pc := g.pc + 2, stack := .int v :: g.stack }) target) (hg : g.method = m := by rfl) (hl : g.locals[k]? = some (.val (.int v)) := by rfl) : Steps p.tables e below (T.setTop g) target := XS.iload X.here hx hg (hb y d) hl hr
theorem qaN (X : Stand p l e R s m args below meth c T locs cells slots) (hx : p.tables.exec = Jvm.exec) (y : c.code = b) {k : Fin 4} {v : Value} (d : decode b g.pc = .ok (.aload_n k, 1)) (hr : Steps p.tables e below (T.setTop { g with pc := g.pc + 1, stack := v :: g.stack }) target) (hg : g.method = m := by rfl) (hl : g.locals[k.val]? = some (.val v) := by rfl) (hv : v.isRef = true := by rfl) : Steps p.tables e below (T.setTop g) target := XS.aloadN X.here hx hg (hb y d) hl hv hr
theorem qa (X : Stand p l e R s m args below meth c T locs cells slots) (hx : p.tables.exec = Jvm.exec) (y : c.code = b) {k : Nat} {v : Value} (d : decode b g.pc = .ok (.aload k, 2)) (hr : Steps p.tables e below (T.setTop { g with pc := g.pc + 2, stack := v :: g.stack }) target) (hg : g.method = m := by rfl) (hl : g.locals[k]? = some (.val v) := by rfl) (hv : v.isRef = true := by rfl) : Steps p.tables e below (T.setTop g) target := XS.aload X.here hx hg (hb y d) hl hv hr
theorem qc (X : Stand p l e R s m args below meth c T locs cells slots) (hx : p.tables.exec = Jvm.exec) (y : c.code = b) {i : Int} (d : decode b g.pc = .ok (.iconst i, 1)) (hr : Steps p.tables e below (T.setTop { g with pc := g.pc + 1, stack := .int (Int32.ofInt i) :: g.stack }) target) (hg : g.method = m := by rfl) : Steps p.tables e below (T.setTop g) target := XS.iconst X.here hx hg (hb y d) hr
theorem qb (X : Stand p l e R s m args below meth c T locs cells slots) (hx : p.tables.exec = Jvm.exec) (y : c.code = b) {i : Int} (d : decode b g.pc = .ok (.bipush i, 2)) (hr : Steps p.tables e below (T.setTop { g with pc := g.pc + 2, stack := .int (Int8.ofInt i).toInt32 :: g.stack }) target) (hg : g.method = m := by rfl) : Steps p.tables e below (T.setTop g) target := XS.bipush X.here hx hg (hb y d) hr
theorem qd (X : Stand p l e R s m args below meth c T locs cells slots) (hx : p.tables.exec = Jvm.exec) (y : c.code = b) {x : Value} {rest : List Value} (d : decode b g.pc = .ok (.dup, 1)) (hr : Steps p.tables e below (T.setTop { g with pc := g.pc + 1, stack := x :: x :: rest }) target) (hg : g.method = m := by rfl) (hs : g.stack = x :: rest := by rfl) (hc : x.category = 1 := by rfl) : Steps p.tables e below (T.setTop g) target := XS.dup X.here hx hg (hb y d) hs hc hr
end OwnStep
theorem ww {Z : State} {a0 : Array Value} (hw : ∀ d ∈ tables_1, d.before a0 Z = true) (i : Nat) {d : Jvm.Cond} (h : tables_1[i]? = some d) : d.before a0 Z = true := hw d (List.mem_of_getElem? h)
set_option maxRecDepth 65536
set_option maxHeartbeats 40000000
abbrev cs0 : String := "com/example/nearmiss/nearmiss/ElementParentPathPinLaw"
abbrev cs1 : String := "(ICCCCC)Ljava/lang/String;"
abbrev cs2 : String := "com/example/nearmiss/nearmiss/Element"
abbrev cs3 : String := "(Ljava/lang/String;)Ljava/lang/String;"
abbrev cs4 : String := "jdk/internal/util/Preconditions"
abbrev cs5 : String := "Ljava/util/function/BiFunction;"
abbrev rR0_0_0_0 : Room := { frames := 0, cells := 0, slots := 0, locals := 0 }
abbrev rR1_4_8_12 : Room := { frames := 1, cells := 4, slots := 8, locals := 12 }
abbrev rR2_4_8_29 : Room := { frames := 2, cells := 4, slots := 8, locals := 29 }
abbrev rR3_6_12_43 : Room := { frames := 3, cells := 6, slots := 12, locals := 43 }
abbrev rR1_0_0_13 : Room := { frames := 1, cells := 0, slots := 0, locals := 13 }
abbrev rR2_0_0_28 : Room := { frames := 2, cells := 0, slots := 0, locals := 28 }
abbrev rR3_0_0_42 : Room := { frames := 3, cells := 0, slots := 0, locals := 42 }
abbrev rR4_0_0_55 : Room := { frames := 4, cells := 0, slots := 0, locals := 55 }
abbrev rR4_3_6_66 : Room := { frames := 4, cells := 3, slots := 6, locals := 66 }
abbrev rR4_3_8_66 : Room := { frames := 4, cells := 3, slots := 8, locals := 66 }
abbrev rR1_0_0_15 : Room := { frames := 1, cells := 0, slots := 0, locals := 15 }
abbrev rR1_1_8_24 : Room := { frames := 1, cells := 1, slots := 8, locals := 24 }
abbrev rR2_1_8_40 : Room := { frames := 2, cells := 1, slots := 8, locals := 40 }
abbrev rR1_0_0_12 : Room := { frames := 1, cells := 0, slots := 0, locals := 12 }
abbrev rR3_2_12_56 : Room := { frames := 3, cells := 2, slots := 12, locals := 56 }
abbrev rR4_2_12_70 : Room := { frames := 4, cells := 2, slots := 12, locals := 70 }
abbrev rR5_2_12_86 : Room := { frames := 5, cells := 2, slots := 12, locals := 86 }
abbrev rR4_3_10_66 : Room := { frames := 4, cells := 3, slots := 10, locals := 66 }
abbrev rR4_3_12_66 : Room := { frames := 4, cells := 3, slots := 12, locals := 66 }
abbrev rR4_3_14_66 : Room := { frames := 4, cells := 3, slots := 14, locals := 66 }
abbrev mN0 : MethodName := ⟨cs0, "ch", "(I)C"⟩
abbrev mN1 : MethodName := ⟨"java/lang/String", "<init>", "([CIILjava/lang/Void;)V"⟩
abbrev mN2 : MethodName := ⟨"java/lang/String", "<init>", "([C)V"⟩
abbrev mN3 : MethodName := ⟨cs0, "mk", cs1⟩
abbrev mN4 : MethodName := ⟨"java/lang/String", "coder", "()B"⟩
abbrev mN5 : MethodName := ⟨"java/lang/String", "length", "()I"⟩
abbrev mN6 : MethodName := ⟨"java/lang/String", "isLatin1", "()Z"⟩
abbrev mN7 : MethodName := ⟨"java/lang/StringLatin1", "canEncode", "(I)Z"⟩
abbrev mN8 : MethodName := ⟨"java/lang/Math", "min", "(II)I"⟩
abbrev mN9 : MethodName := ⟨"java/lang/StringLatin1", "lastIndexOf", "([BII)I"⟩
abbrev mN10 : MethodName := ⟨"java/lang/String", "lastIndexOf", "(II)I"⟩
abbrev mN11 : MethodName := ⟨"java/lang/String", "lastIndexOf", "(I)I"⟩
abbrev mN12 : MethodName := ⟨cs2, "parentPath", cs3⟩
abbrev mN13 : MethodName := ⟨cs4, "checkFromToIndex", "(IIILjava/util/function/BiFunction;)I"⟩
abbrev mN14 : MethodName := ⟨"java/lang/String", "checkBoundsBeginEnd", "(III)V"⟩
abbrev mN15 : MethodName := ⟨"java/util/Arrays", "checkLength", "(II)V"⟩
abbrev mN16 : MethodName := ⟨"java/util/Arrays", "copyOfRangeByte", "([BII)[B"⟩
abbrev mN17 : MethodName := ⟨"java/util/Arrays", "copyOfRange", "([BII)[B"⟩
abbrev mN18 : MethodName := ⟨"java/lang/String", "<init>", "([BB)V"⟩
abbrev mN19 : MethodName := ⟨"java/lang/StringLatin1", "newString", "([BII)Ljava/lang/String;"⟩
abbrev mN20 : MethodName := ⟨"java/lang/String", "substring", "(II)Ljava/lang/String;"⟩
abbrev mN21 : MethodName := ⟨"java/lang/String", "equals", "(Ljava/lang/Object;)Z"⟩
abbrev cB1 : ByteArray := method_2_code
abbrev cB2 : ByteArray := method_3_code
abbrev cB3 : ByteArray := jdk_42_method_3_code
abbrev cB4 : ByteArray := jdk_42_method_149_code
abbrev cB6 : ByteArray := prog_6_method_4_code
abbrev cB7 : ByteArray := jdk_42_method_82_code
abbrev cB8 : ByteArray := jdk_42_method_54_code
abbrev cB9 : ByteArray := jdk_42_method_152_code
abbrev cB10 : ByteArray := jdk_42_method_83_code
abbrev cB11 : ByteArray := jdk_42_method_154_code
abbrev cB12 : ByteArray := jdk_43_method_27_code
abbrev cB13 : ByteArray := jdk_43_method_4_code
abbrev cB14 : ByteArray := jdk_29_method_69_code
abbrev cB18 : ByteArray := jdk_42_method_92_code
abbrev cB19 : ByteArray := jdk_42_method_158_code
abbrev cB20 : ByteArray := jdk_41_method_12_code
abbrev cB21 : ByteArray := jdk_43_method_47_code
abbrev cB22 : ByteArray := jdk_65_method_132_code
abbrev cB23 : ByteArray := jdk_65_method_133_code
abbrev cB24 : ByteArray := jdk_65_method_131_code
abbrev cB25 : ByteArray := jdk_42_method_151_code
abbrev lI (x : Int32) : Slot := .val (.int x)
abbrev lR (x : Addr) : Slot := .val (.ref x)
abbrev lV (x : Value) : Slot := .val x
abbrev lU : Slot := .unset
abbrev SG (p : Program) (e : Env) (below : List Frame) (T : State) (f : JFrame) (t : State) : Prop := Steps p.tables e below (T.setTop f) t
abbrev vI0 : Value := .int (0 : Int32)
abbrev vI1 : Value := .int (1 : Int32)
abbrev vI2 : Value := .int (2 : Int32)
abbrev vI3 : Value := .int (3 : Int32)
abbrev vI4 : Value := .int (4 : Int32)
abbrev vI5 : Value := .int (5 : Int32)
abbrev vI6 : Value := .int (6 : Int32)
abbrev vI47 : Value := .int (47 : Int32)
abbrev vI2147483647 : Value := .int (2147483647 : Int32)
def own_at (l : List Value) (j : Nat) : Int32 := match l.getD j (.int 0) with
  | .int x => x
  | _ => 0
theorem own_atN {l : List Value} {j : Int32} {n : Nat} {x y : Int32} (h : j.toNatClampNeg = n) (e : l.getD n (.int 0) = .int x) (hn : ¬ x = y) : ¬ own_at l j.toNatClampNeg = y := by
  rw [h]; unfold own_at; rw [e]; exact hn
theorem own_padZ {Z : State} {h : Heap} {a : Addr} {k : ClassId} {ty : FieldType} {z : Int32} {d : Value} (A : Arv Z h a k ty z [] d) (n : Nat) : Arv Z h a k ty z (List.replicate n d) d := A.pad (pad_rep [] d n)
theorem own_cpAll {Z : State} {h : Heap} {a : Addr} {k : ClassId} {ty : FieldType} {z nn : Int32} {vs : List Value} {d dv : Value} {m : Nat} (hz : nn.toNatClampNeg = z.toNatClampNeg)
    (B : Arv Z h a k ty z ((List.replicate m d).take (0 : Int32).toNatClampNeg ++ ((List.range nn.toNatClampNeg).map fun i => vs.getD ((0 : Int32).toNatClampNeg + i) dv) ++ (List.replicate m d).drop ((0 : Int32).toNatClampNeg + nn.toNatClampNeg)) d) : Arv Z h a k ty z vs dv := by
  obtain ⟨c, A, q1, q2, q3, H, G⟩ := B
  have e0 : (0 : Int32).toNatClampNeg = 0 := rfl
  have key : ∀ i, i < c.slots.size → ((List.replicate m d).take (0 : Int32).toNatClampNeg ++ ((List.range nn.toNatClampNeg).map fun i => vs.getD ((0 : Int32).toNatClampNeg + i) dv) ++ (List.replicate m d).drop ((0 : Int32).toNatClampNeg + nn.toNatClampNeg)).getD i d = vs.getD i dv := fun i hi => by
    rw [q2, ← hz] at hi
    rw [e0, List.take_zero, List.nil_append, List.getD_eq_getElem?_getD, List.getElem?_append_left (by simpa using hi)]
    simp [List.getElem?_range hi]
  exact ⟨c, A, q1, q2, q3, fun i hi => by rw [H i hi, key i hi], fun i hi => by rw [← key i hi]; exact G i hi⟩
theorem own_cpFront {Z : State} {h : Heap} {a : Addr} {k : ClassId} {ty : FieldType} {z nn : Int32} {vs : List Value} {d : Value} (hz : vs.length = nn.toNatClampNeg)
    (B : Arv Z h a k ty z ((List.replicate nn.toNatClampNeg d).take (0 : Int32).toNatClampNeg ++ ((List.range nn.toNatClampNeg).map fun i => vs.getD ((0 : Int32).toNatClampNeg + i) d) ++ (List.replicate nn.toNatClampNeg d).drop ((0 : Int32).toNatClampNeg + nn.toNatClampNeg)) d) : Arv Z h a k ty z vs d := by
  have e0 : (0 : Int32).toNatClampNeg = 0 := rfl
  refine B.pad fun i => ?_
  rw [e0, List.take_zero, List.nil_append, Nat.zero_add, List.drop_eq_nil_of_le (by simp), List.append_nil, List.getD_eq_getElem?_getD, List.getD_eq_getElem?_getD]
  by_cases hi : i < nn.toNatClampNeg
  · simp [List.getElem?_range hi]
  · rw [List.getElem?_eq_none (show vs.length ≤ i by rw [hz]; omega), List.getElem?_eq_none (by rw [List.length_map, List.length_range]; omega)]
theorem own_wordsIn : ∀ d ∈ StrChars.Road.words, d ∈ tables_1 := by decide +kernel
theorem own_ac0 {P : Int32 → Prop} : ∀ c ∈ ([] : List Int32), P c := fun _ h => by cases h
theorem own_acS {P : Int32 → Prop} {a : Int32} {l : List Int32} (h : P a) (t : ∀ c ∈ l, P c) : ∀ c ∈ a :: l, P c := fun c hc => by
  rcases List.mem_cons.mp hc with rfl | hc
  · exact h
  · exact t c hc
theorem own_bs0 : ([] : List Int32).map (fun c => Value.int (c.toInt8.toInt32)) = [] := rfl
theorem own_bsS {c b : Int32} {cs : List Int32} {vs : List Value} (h : c.toInt8.toInt32 = b) (t : cs.map (fun c => Value.int (c.toInt8.toInt32)) = vs) : (c :: cs).map (fun c => Value.int (c.toInt8.toInt32)) = .int b :: vs := by rw [List.map_cons, t, h]
def own_QS (Z : State) (x : Addr) (N : Int32) (bs : List Value) (h : Heap) (n0 : Nat) (v : Option Value) (h' : Heap) (L : List Loc) : Prop := ∃ (b : Addr) (k : ClassId), v = none ∧ Fr n0 L ∧ Keep h h' [x] ∧ Fld Z h' x "java/lang/String" "coder" "B" (.int 0) ∧ Fld Z h' x "java/lang/String" "value" "[B" (.ref b) ∧ h.size ≤ b ∧ Arv Z h' b k .byte N bs (.int 0) ∧ Exa Z h' b "[B" ∧
  ∀ (O n d : String) (w : Value), Fld Z h x O n d w → Jvm.RoadKit.slotOf Z O n d ≠ Jvm.RoadKit.slotOf Z "java/lang/String" "value" "[B" → Jvm.RoadKit.slotOf Z O n d ≠ Jvm.RoadKit.slotOf Z "java/lang/String" "coder" "B" → Fld Z h' x O n d w
theorem own_newStr {p : Program} {l : Launch} {e : Env} {R : Room} {s : State} {args : Array Value} {below : List Frame} {len W : Nat} {Z : State} {a0 : Array Value} {h : Heap} (hZ : Z.Warmed39 s.vm) (hw : own_HW a0 Z) {kI : Nat} (wi : (Jvm.Cond.instantiable "java/lang/String" kI).before a0 Z = true)
    {x b : Addr} {k : ClassId} {N z : Int32} {cs : List Int32} {bs : List Value} {dv v0 c0 : Value} {n n0 : Nat} (hx0 : n0 ≤ x) (E : Exa Z h x "java/lang/String") (V : Fld Z h x "java/lang/String" "value" "[B" v0) (C : Fld Z h x "java/lang/String" "coder" "B" c0) (K : Arv Z h b k .char N (cs.map Value.int) dv) (S : Sta Z h "java/lang/String" "COMPACT_STRINGS" "Z" (.int z)) (hz : ¬ z = 0)
    (hn : cs.length = n) (hlen : N.toNatClampNeg = n) (h0 : 0 < n) (hbig : n ≤ 4000) (hall : ∀ c ∈ cs, ¬ 255 < c) (hb : cs.map (fun c => Value.int (c.toInt8.toInt32)) = bs) (hfr : 4 ≤ R.frames) (hlo : W + 65 ≤ R.locals) :
    Back l R p e below s args (⟨"java/lang/String", "<init>", "([C)V"⟩ : MethodName) len W (fun P a => a = #[.ref x, .ref b] ∧ P.U.heap = h ∧ P.cells + 1 ≤ R.cells ∧ P.slots + n ≤ R.slots)
      (fun P _ v B => ∃ L, own_QS Z x N bs h n0 v B.U.heap L ∧ B.locs = P.locs ++ L ∧ B.cells = P.cells + 1 ∧ B.slots = P.slots + n) := by
  subst hn hb
  refine Back.mono (StrChars.Road.backArv hZ (fun d hd => hw d (own_wordsIn d hd)) wi E V C K S hz hlen h0 (by omega) hall hfr hlo) (fun P a hp => hp) (fun P a v B hp hq => ?_)
  obtain ⟨L, ⟨q1, q2, q3, q4, q5, q6, q7, ⟨kb, v1, v2⟩, q9⟩, hl, hc, hs⟩ := hq
  refine ⟨L, ⟨h.size, kb, q1, fun y hy => by rw [q2 y hy]; exact hx0, q3, q7, q6, Nat.le_refl _, v2, ?_, q9⟩, hl, hc, hs⟩
  obtain ⟨cA, Ar, r1, r2, r3, r4, r5⟩ := v2
  obtain ⟨a1, kA, a2, comp, a3⟩ := Ar.2.1
  refine ⟨cA, kA, Ar.1, by rw [r1]; exact v1, a2, ?_, fun q => ?_⟩
  · cases hv : cA.vm <;> simp_all [VmData.isStatics]
  · rw [a3] at q; cases q
theorem own_trunc {Z : State} {h : Heap} {a : Addr} {k : ClassId} {ty : FieldType} {z : Int32} {ws rest : List Value} {d : Value} (hz : ws.length = z.toNatClampNeg) (A : Arv Z h a k ty z (ws ++ rest) d) : Arv Z h a k ty z ws d := by
  obtain ⟨c, A, q1, q2, q3, H, G⟩ := A
  have key : ∀ i, i < c.slots.size → (ws ++ rest).getD i d = ws.getD i d := fun i hi => by
    rw [List.getD_eq_getElem?_getD, List.getD_eq_getElem?_getD, List.getElem?_append_left (by omega)]
  exact ⟨c, A, q1, q2, q3, fun i hi => by rw [H i hi, key i hi], fun i hi => by rw [← key i hi]; exact G i hi⟩
theorem own_wordsEqIn : ∀ d ∈ StrChars.Road.wordsEq, d ∈ tables_1 := by decide +kernel
theorem own_n32 {n : Nat} (h : n < 2 ^ 31) : (Int32.ofNat n).toNatClampNeg = n := by rw [Int32.toNatClampNeg, Int32.toInt_ofNat_small h]; rfl
theorem own_ofLen {N : Int32} {l : List Int32} {n : Nat} (h : N = Int32.ofNat n) (e : l.length = n) : N = Int32.ofNat l.length := by rw [e]; exact h
def own_QE (r : Int32) (h : Heap) (n0 : Nat) (v : Option Value) (h' : Heap) (L : List Loc) : Prop := v = some (.int r) ∧ Fr n0 L ∧ h' = h
theorem own_eq255 : ∀ k : Nat, k < 256 → (((Int32.ofNat k + (-128 : Int32)) &&& (255 : Int32)).toInt8.toInt32 = Int32.ofNat k + (-128 : Int32)) ∧ ¬ ((Int32.ofNat k + (-128 : Int32)) &&& (255 : Int32)) < 0 ∧ ¬ (255 : Int32) < ((Int32.ofNat k + (-128 : Int32)) &&& (255 : Int32)) := by decide +kernel
theorem own_byteb {b : Int32} (h : fits .byte (.int b) = true) : (b &&& (255 : Int32)).toInt8.toInt32 = b ∧ ¬ (b &&& (255 : Int32)) < 0 ∧ ¬ (255 : Int32) < (b &&& (255 : Int32)) := by
  simp only [fits, Bool.and_eq_true, decide_eq_true_eq, Int32.le_iff_toInt_le, show (-128 : Int32).toInt = -128 from by decide, show (127 : Int32).toInt = 127 from by decide] at h
  have e : b = Int32.ofNat (b.toInt + 128).toNat + (-128 : Int32) := by
    apply Int32.toInt_inj.mp
    rw [Int32.toInt_add, Int32.toInt_ofNat_small (by omega), show (-128 : Int32).toInt = -128 from by decide, Int.bmod_eq_of_le (by omega) (by omega)]; omega
  have := own_eq255 (b.toInt + 128).toNat (by omega)
  rw [← e] at this
  exact this
theorem own_bytesOk {Z : State} {h : Heap} {t : Addr} {kb : ClassId} {N : Int32} {bs : List Int32} (K : Arv Z h t kb .byte N (bs.map Value.int) (.int 0)) (hN : N.toNatClampNeg = bs.length) : ∀ b ∈ bs, (b &&& (255 : Int32)).toInt8.toInt32 = b ∧ ¬ (b &&& (255 : Int32)) < 0 ∧ ¬ (255 : Int32) < (b &&& (255 : Int32)) := fun b hb => by
  obtain ⟨c, A, q1, q2, q3, H, G⟩ := K
  obtain ⟨i, hi, rfl⟩ := List.getElem_of_mem hb
  have := G i (by omega)
  rw [List.getD_eq_getElem?_getD, List.getElem?_map, List.getElem?_eq_getElem hi] at this
  exact own_byteb this
theorem own_mapBack {bs : List Int32} (h : ∀ b ∈ bs, (b &&& (255 : Int32)).toInt8.toInt32 = b) : bs.map Value.int = (bs.map (fun b => b &&& (255 : Int32))).map (fun c => Value.int (c.toInt8.toInt32)) := by
  rw [List.map_map]
  exact List.map_congr_left fun b hb => by simp only [Function.comp]; rw [h b hb]
theorem own_mapInj {bs ds : List Int32} (h : ∀ b ∈ bs, (b &&& (255 : Int32)).toInt8.toInt32 = b) (h' : ∀ b ∈ ds, (b &&& (255 : Int32)).toInt8.toInt32 = b) (e : bs.map (fun b => b &&& (255 : Int32)) = ds.map (fun b => b &&& (255 : Int32))) : bs = ds := by
  have q := own_mapBack h
  rw [e, ← own_mapBack h'] at q
  exact (List.map_inj_right (fun _ _ hxy => by injection hxy)).mp q
theorem own_strEq {p : Program} {l : Launch} {e : Env} {R : Room} {s : State} {args : Array Value} {below : List Frame} {len W : Nat} {Z : State} {a0 : Array Value} {h : Heap} (hZ : Z.Warmed39 s.vm) (hw : own_HW a0 Z) {kI : Nat} (wi : (Jvm.Cond.instantiable "java/lang/String" kI).before a0 Z = true)
    {x t : Addr} {kb : ClassId} {bs : List Int32} {N : Int32} (E : Exa Z h x "java/lang/String") (V : Fld Z h x "java/lang/String" "value" "[B" (.ref t)) (C : Fld Z h x "java/lang/String" "coder" "B" (.int 0)) (K : Arv Z h t kb .byte N (bs.map Value.int) (.int 0)) (hN : N = Int32.ofNat bs.length) (l2 : bs.length ≤ 4000)
    {y t' : Addr} {kb' : ClassId} {ds : List Int32} {N' : Int32} (E' : Exa Z h y "java/lang/String") (V' : Fld Z h y "java/lang/String" "value" "[B" (.ref t')) (C' : Fld Z h y "java/lang/String" "coder" "B" (.int 0)) (K' : Arv Z h t' kb' .byte N' (ds.map Value.int) (.int 0)) (hN' : N' = Int32.ofNat ds.length) (l2' : ds.length ≤ 4000)
    {z : Int32} (S : Sta Z h "java/lang/String" "COMPACT_STRINGS" "Z" (.int z)) (hz : ¬ z = 0) {r : Int32} {n0 : Nat} (hr : (r = 1 ∧ bs = ds) ∨ (r = 0 ∧ ¬ bs = ds)) (hfr : 2 ≤ R.frames) (hlo : W + 28 ≤ R.locals) :
    Back l R p e below s args (⟨"java/lang/String", "equals", "(Ljava/lang/Object;)Z"⟩ : MethodName) len W (fun P a => a = #[.ref x, .ref y] ∧ P.U.heap = h ∧ P.cells + 0 ≤ R.cells ∧ P.slots + 0 ≤ R.slots)
      (fun P _ v B => ∃ L, own_QE r h n0 v B.U.heap L ∧ B.locs = P.locs ++ L ∧ B.cells = P.cells + 0 ∧ B.slots = P.slots + 0) := by
  have up : ∀ {c : Int32}, ¬ (255 : Int32) < c → ¬ (65535 : Int32) < c := fun {c} q q2 => q (by
    rw [Int32.lt_iff_toInt_lt] at q2 ⊢; have e1 : (65535 : Int32).toInt = 65535 := rfl; have e2 : (255 : Int32).toInt = 255 := rfl; omega)
  have ok := own_bytesOk K (by rw [hN]; exact own_n32 (by omega))
  have ok' := own_bytesOk K' (by rw [hN']; exact own_n32 (by omega))
  have im : ∀ {l : List Int32}, (∀ b ∈ l, (b &&& (255 : Int32)).toInt8.toInt32 = b ∧ ¬ (b &&& (255 : Int32)) < 0 ∧ ¬ (255 : Int32) < (b &&& (255 : Int32))) → ∀ c ∈ l.map (fun b => b &&& (255 : Int32)), ¬ c < 0 ∧ ¬ (255 : Int32) < c := fun q c hc => by
    obtain ⟨b, hb, rfl⟩ := List.mem_map.mp hc
    exact (q b hb).2
  refine Back.mono (StrChars.Road.eqW (cs := bs.map (fun b => b &&& (255 : Int32))) (ds := ds.map (fun b => b &&& (255 : Int32))) hZ (fun d hd => hw d (own_wordsEqIn d hd)) wi E V C K (Or.inl ⟨rfl, by rw [List.length_map]; exact hN, own_mapBack (fun b hb => (ok b hb).1), fun c hc => (im ok c hc).2⟩) (fun c hc => ⟨(im ok c hc).1, up (im ok c hc).2⟩) (by rw [List.length_map]; exact l2) E' V' C' K' (Or.inl ⟨rfl, by rw [List.length_map]; exact hN', own_mapBack (fun b hb => (ok' b hb).1), fun c hc => (im ok' c hc).2⟩) (fun c hc => ⟨(im ok' c hc).1, up (im ok' c hc).2⟩) (by rw [List.length_map]; exact l2') S hz hfr hlo) (fun P a hp => hp) (fun P a v B _ hq => ?_)
  obtain ⟨L, ⟨q1, q2, q3⟩, hl, hc, hs⟩ := hq
  refine ⟨L, ⟨?_, by rw [q2]; exact Fr.nil n0, q3⟩, hl, hc, hs⟩
  rcases q1 with ⟨e1, e2⟩ | ⟨e1, e2⟩ <;> rcases hr with ⟨rfl, h2⟩ | ⟨rfl, h2⟩
  · exact e1
  · exact absurd (own_mapInj (fun b hb => (ok b hb).1) (fun b hb => (ok' b hb).1) e2) h2
  · exact absurd (by rw [h2]) e2
  · exact e1
theorem own_eqr {args : Array Value} {Z : State} {a b : Term} {x : Addr} (hb : b.eval args Z none [] Z = some (.ref x)) (h : (Jvm.Cond.eq a b).value args Z none Z [] = some true) : a.eval args Z none [] Z = some (.ref x) := by
  obtain ⟨u, w, e1, e2, k1, k2⟩ := cmp_v (Or.inl h)
  cases hb.symm.trans e2
  have hu : u.isRef = true := by cases u <;> simp [Kin, Value.isRef] at k1 k2 ⊢
  have := gotT (eq_R e1 e2 hu rfl) h
  rw [e1, this]
theorem own_len {args : Array Value} {Z : State} {t : Term} {x : Addr} {cl : Cell} {ty : FieldType} {n : Int32} (h : (Jvm.Cond.eq (.length t) (.int n)).value args Z none Z [] = some true) (ht : t.eval args Z none [] Z = some (.ref x)) (A : Arr Z Z.heap x cl ty) : cl.slots.size < 2 ^ 31 ∧ cl.slots.size.toInt32 = n := by
  have e1 := eqv_i (y := n) rfl h
  have ha := Arr.fin (Vm.Alike.refl _) A
  have hl : cl.slots.size < 2 ^ 31 := by
    by_cases q : cl.slots.size < 2 ^ 31
    · exact q
    · simp [Term.eval, ht, ha, q] at e1
  rw [len_f ht ha hl] at e1
  exact ⟨hl, by simpa using e1⟩
theorem own_all {args : Array Value} {Z : State} {t : Term} {a : Addr} {c : Cell} {ty : FieldType} {K : String} {B : Jvm.Cond} (et : ∀ idx, t.eval args Z none idx Z = some (.ref a)) (A : Arr Z Z.heap a c ty)
    (h : (Jvm.Cond.all t (.and (.exactly (.elem t (.index 0)) K) B)).value args Z none Z [] = some true) : ∀ j : Int32, ¬ (j < 0 ∨ c.slots.size ≤ j.toNatClampNeg) → ∃ r : Addr, c.slots[j.toNatClampNeg]? = some (.ref r) := fun j hj => by
  have nn : ¬ j < 0 := fun x => hj (Or.inl x)
  obtain ⟨u1, -⟩ := and_e (Cond.all_elim (et []) (A.fin (Vm.Alike.refl _)) h j.toNatClampNeg (Nat.lt_of_not_le fun x => hj (Or.inr x)))
  obtain ⟨box, eb⟩ := exa_v u1
  exact ⟨box, (elem_f (et _) (idx_at nn) (A.fin (Vm.Alike.refl _)) nn).symm.trans eb⟩
theorem own_size {c : Cell} {n : Int32} {k : Nat} (h : c.slots.size < 2 ^ 31 ∧ c.slots.size.toInt32 = n) (hn : n.toNatClampNeg = k) : c.slots.size = k := by
  have e := len_toInt h.1
  rw [h.2] at e
  rw [← hn, Int32.toNatClampNeg, e]; rfl
theorem own_EW {Z : State} {a0 : Array Value} (hw : own_HW a0 Z) : EW Z a0 consts_1 := (EW.cons (ww hw 22 rfl) (by decide) EW.nil)
theorem own_and255 (x : Int32) : ∃ k : Nat, k < 256 ∧ x &&& (255 : Int32) = Int32.ofNat k := by
  have h : (x &&& 255).toInt = (x.toBitVec &&& 255#32).toInt := rfl
  have h2 : (x.toBitVec &&& 255#32).toNat = x.toBitVec.toNat % 256 := by rw [BitVec.toNat_and]; exact Nat.and_two_pow_sub_one_eq_mod x.toBitVec.toNat 8
  have h3 := Nat.mod_lt x.toBitVec.toNat (show 0 < 256 by decide)
  have h4 : (x.toBitVec &&& 255#32).toInt = ((x.toBitVec &&& 255#32).toNat : Int) := BitVec.toInt_eq_toNat_of_lt (by omega)
  refine ⟨x.toBitVec.toNat % 256, h3, ?_⟩
  apply Int32.toInt_inj.mp
  rw [h, h4, h2, Int32.toInt_ofNat_small (by omega)]
theorem own_andmax (x : Int32) : 0 ≤ (x &&& (2147483647 : Int32)).toInt := by
  have h : (x &&& 2147483647).toInt = (x.toBitVec &&& 2147483647#32).toInt := rfl
  have h2 : (x.toBitVec &&& 2147483647#32).toNat = x.toBitVec.toNat % 2147483648 := by rw [BitVec.toNat_and]; exact Nat.and_two_pow_sub_one_eq_mod x.toBitVec.toNat 31
  have h3 := Nat.mod_lt x.toBitVec.toNat (show 0 < 2147483648 by decide)
  have h4 : (x.toBitVec &&& 2147483647#32).toInt = ((x.toBitVec &&& 2147483647#32).toNat : Int) := BitVec.toInt_eq_toNat_of_lt (by omega)
  rw [h, h4]; omega
theorem own_mod6 (x : Int32) : ((x &&& (2147483647 : Int32)) % (6 : Int32)) = (0 : Int32) ∨ ((x &&& (2147483647 : Int32)) % (6 : Int32)) = (1 : Int32) ∨ ((x &&& (2147483647 : Int32)) % (6 : Int32)) = (2 : Int32) ∨ ((x &&& (2147483647 : Int32)) % (6 : Int32)) = (3 : Int32) ∨ ((x &&& (2147483647 : Int32)) % (6 : Int32)) = (4 : Int32) ∨ ((x &&& (2147483647 : Int32)) % (6 : Int32)) = (5 : Int32) := by
  have h0 := own_andmax x
  have hm : ((x &&& (2147483647 : Int32)) % (6 : Int32)).toInt = (x &&& (2147483647 : Int32)).toInt % 6 := by
    rw [Int32.toInt_mod]; exact Int.tmod_eq_emod_of_nonneg h0
  generalize (x &&& (2147483647 : Int32)) % (6 : Int32) = r at hm ⊢
  have key : ∀ k : Int32, r.toInt = k.toInt → r = k := fun k hk => Int32.toInt_inj.mp hk
  have : r.toInt = 0 ∨ r.toInt = 1 ∨ r.toInt = 2 ∨ r.toInt = 3 ∨ r.toInt = 4 ∨ r.toInt = 5 := by omega
  rcases this with q | q | q | q | q | q
  · exact Or.inl (key 0 q)
  · exact Or.inr (Or.inl (key 1 q))
  · exact Or.inr (Or.inr (Or.inl (key 2 q)))
  · exact Or.inr (Or.inr (Or.inr (Or.inl (key 3 q))))
  · exact Or.inr (Or.inr (Or.inr (Or.inr (Or.inl (key 4 q)))))
  · exact Or.inr (Or.inr (Or.inr (Or.inr (Or.inr (key 5 q)))))
theorem own_c256 : ∀ k : Nat, k < 256 → (¬ ((255 : Int32) < nar .char (Int32.ofNat k)) ∧ ¬ (nar .char (Int32.ofNat k) < (0 : Int32))) ∧ ((nar .char (Int32.ofNat k)).toInt8.toInt32 = (47 : Int32) ↔ Int32.ofNat k = (47 : Int32)) := by decide +kernel
theorem own_chx (x : Int32) : ∃ c : Int32, (nar .char (if (x &&& (1 : Int32)) = (0 : Int32) then ((((x.toUInt32 >>> ((1 : Int32) &&& 31).toUInt32).toInt32) &&& (255 : Int32)).toUInt32.toUInt16.toUInt32.toInt32) else (47 : Int32))) = c ∧ ¬ ((255 : Int32) < nar .char c) ∧ ¬ (nar .char c < (0 : Int32)) ∧ ((nar .char c).toInt8.toInt32 = (47 : Int32) ↔ c = (47 : Int32)) := by
  suffices h : ∃ k : Nat, k < 256 ∧ (nar .char (if (x &&& (1 : Int32)) = (0 : Int32) then ((((x.toUInt32 >>> ((1 : Int32) &&& 31).toUInt32).toInt32) &&& (255 : Int32)).toUInt32.toUInt16.toUInt32.toInt32) else (47 : Int32))) = Int32.ofNat k by
    obtain ⟨k, hk, e⟩ := h
    obtain ⟨⟨a, b⟩, c⟩ := own_c256 k hk
    exact ⟨_, e, a, b, c⟩
  by_cases h : (x &&& (1 : Int32)) = (0 : Int32)
  · obtain ⟨k, hk, e⟩ := own_and255 ((x.toUInt32 >>> ((1 : Int32) &&& 31).toUInt32).toInt32)
    refine ⟨k, hk, ?_⟩
    rw [if_pos h, i2c_mask, ← e]
    exact i2c_mask _
  · exact ⟨47, by decide, by rw [if_neg h]; decide⟩
abbrev own_MH (l : Launch) (y : MethodName) (b : ByteArray) (ml : Nat) (r : Option FieldType) (ws : List Jvm.Cond) (R : Room) (Z : State) (h0 : Heap) (as : Array Value) (Q : Option Value → Heap → List Loc → Prop) : Prop :=
  MetFree l y (head1 (Jvm.Cond.code y b ml r :: ws) R) (fun a U => a = as ∧ Z.Warmed39 U.vm ∧ U.heap = h0 ∧ CHv Z consts_1 U.vm h0) (fun _ _ _ _ _ => True) (fun _ U o U' => ∃ v L, o = .returned v ∧ Q v U'.heap L ∧ CHr Z consts_1 U.vm U.heap U'.vm U'.heap ∧ ReturnedEndW U o U' L R.cells R.slots)
theorem own_openH {l : Launch} {y : MethodName} {b : ByteArray} {ml : Nat} {r : Option FieldType} {ws : List Jvm.Cond} {R : Room} {Z : State} {a0 : Array Value} {h0 : Heap} {as : Array Value} {Q : Option Value → Heap → List Loc → Prop} (hEL : EW Z a0 consts_1) (hp : plainFor y = true) {L0 : Array Slot} (hL : ∀ m, entryFrame m as ml = mkF m 0 L0 [])
    (H : ∀ (p : Program) (e : Env) (s : State) (m : MethodId) (below : List Frame) (meth : Method) (c : Code) (s₁ : State), p.tables.exec = Jvm.exec → c.code = b → c.maxLocals = ml → meth.sig.returnType = r → s.methodNamed? y = some m ∧ s.vm.method? m = some meth → Z.Warmed39 s.vm → s.vm.findClass y.cls = some m.cls → Stand p l e R s m as below meth c s₁ [] 0 0 → s₁.heap = h0 → CHr Z consts_1 s.vm h0 s.vm h0 →
      ∃ v T L cs sl vm1 n h', (r = none → v = none) ∧ Stand p l e R (s.setVm vm1) m as below meth c T L cs sl ∧ cs ≤ R.cells ∧ sl ≤ R.slots ∧ s.Since vm1 n ∧ n ≤ T.heap.size ∧ Z.Warmed39 vm1 ∧ T.heap = h' ∧ CHr Z consts_1 s.vm h0 vm1 h' ∧ Q v T.heap L ∧ ∀ fs, (∀ (f : JFrame) (acts : List Action), f.method = m → f.locked = none → f.entered = [] → (doReturn e (T.setTop f) acts v).1 = T.setFrames fs) → Steps p.tables e below (s₁.setTop (mkF m 0 L0 [])) (T.setFrames fs)) :
    own_MH l y b ml r ws R Z h0 as Q := by
  refine MetFree.of_bodySF hp hisR ?_
  intro p e s m args below meth c s₁ Bd hml hP hK
  obtain ⟨rfl, hZ, hh, hC⟩ := hP
  have e0 : s₁.heap = h0 := by rw [← hh, Bd.state]; rfl
  obtain ⟨v, T, L, cs, sl, vm1, n, h', hv, X, hc, hs, hS, hn, hZ1, eT, R1, hQ, st⟩ := H p e s m below meth c s₁ Bd.exec Bd.bytes hml Bd.returns ⟨Bd.named, Bd.method⟩ hZ (findClass_of_methodNamed Bd.named) (Stand.of_body Bd) e0 (CHr.refl hC)
  obtain ⟨fs, hr, hrun, hended, hend⟩ := leaveW (s := s) (vm₁ := vm1) X hS hn (v := v) (fun q => hv (Bd.returns ▸ q))
  have hCR : CHr Z consts_1 s.vm s.heap T.vm T.heap := by rw [hh, eT]; exact CHr.trans R1 (CHv.at (s := s) (vm0 := vm1) X hZ1 hEL R1.1)
  exact ⟨_, _, castTop (hL m) (st fs hr), hrun, hended, v, L, rfl, hQ, hCR, hend.1, hend.2.1, hend.2.2.1, hend.2.2.2.mono hc hs⟩
theorem d1_0 : DK cB1 0 (.iload_n 0) 1 := by decide +kernel
theorem d1_1 : DK cB1 1 (.iconst 1) 1 := by decide +kernel
theorem d1_2 : DK cB1 2 (.iand) 1 := by decide +kernel
theorem d1_3 : DK cB1 3 (.ifCond .eq 8) 3 := by decide +kernel
theorem d1_11 : DK cB1 11 (.iload_n 0) 1 := by decide +kernel
theorem d1_12 : DK cB1 12 (.iconst 1) 1 := by decide +kernel
theorem d1_13 : DK cB1 13 (.iushr) 1 := by decide +kernel
theorem d1_14 : DK cB1 14 (.sipush 255) 3 := by decide +kernel
theorem d1_17 : DK cB1 17 (.iand) 1 := by decide +kernel
theorem d1_18 : DK cB1 18 (.i2c) 1 := by decide +kernel
theorem d1_6 : DK cB1 6 (.bipush 47) 2 := by decide +kernel
theorem d1_8 : DK cB1 8 (.goto 11) 3 := by decide +kernel
theorem d1_19 : DK cB1 19 (.ireturn) 1 := by decide +kernel
theorem pn_com_example_nearmiss_nearmiss_ElementParentPathPinLaw : plainName cs0 = true := by first | (simp [plainName, overriddenIn]; done) | decide +kernel
def Q1_1 (Z : State) (x0 : Int32) (h0 : Heap) (n0 : Nat) (v : Option Value) (h : Heap) (L : List Loc) : Prop := v = some (.int (nar .char (if (x0 &&& (1 : Int32)) = (0 : Int32) then ((((x0.toUInt32 >>> ((1 : Int32) &&& 31).toUInt32).toInt32) &&& (255 : Int32)).toUInt32.toUInt16.toUInt32.toInt32) else (47 : Int32)))) ∧ Fr n0 L ∧ h = h0
theorem rm1_1 (l : Launch) (Z : State) (a0 : Array Value) (hw : own_HW a0 Z) (ws : List Jvm.Cond) (x0 : Int32) (h0 : Heap) (n0 : Nat) (O0 : Old Z n0 h0) :
    own_MF l mN0 method_2_code 1 (some .char) ws rR0_0_0_0 Z h0 #[(.int x0)] (Q1_1 Z x0 h0 n0) := by
  refine own_open (plainFor_of_name pn_com_example_nearmiss_nearmiss_ElementParentPathPinLaw) (L0 := #[lI x0]) (fun _ => by first | (simp [entryFrame, mkF, argsToLocals, Value.category]; done) | rfl) ?_
  intro p e s m below meth c s₁ hx hby hml hret hnn hZ hown X0 e0
  have N0 := Fr.nil n0
  have dm1 : ∀ t, Steps p.tables e below (s₁.setTop (mkF m 19 #[lI x0] [(.int (if (x0 &&& (1 : Int32)) = (0 : Int32) then ((((x0.toUInt32 >>> ((1 : Int32) &&& 31).toUInt32).toInt32) &&& (255 : Int32)).toUInt32.toUInt16.toUInt32.toInt32) else (47 : Int32)))])) t → Steps p.tables e below (s₁.setTop (mkF m 3 #[lI x0] [(.int (x0 &&& (1 : Int32)))])) t := by
    intro t kk
    by_cases hd : (x0 &&& (1 : Int32)) = (0 : Int32)
    · show SG p e below s₁ (mkF m 3 #[lI x0] [(.int (x0 &&& (1 : Int32)))]) _
      refine XS.ifYes X0.here hx rfl (pc0 := 3) (pc' := 11) rfl (hb hby d1_3) rfl ((if0 _ _).trans (teq hd).1) (by decide) (by decide) ?_
      show SG p e below s₁ (mkF m 11 #[lI x0] []) _
      refine qiN X0 hx hby d1_11 ?_
      refine qc X0 hx hby d1_12 ?_
      refine XS.iushr X0.here hx rfl (hb hby d1_13) rfl ?_
      refine XS.sipush X0.here hx rfl (hb hby d1_14) ?_
      refine XS.iand X0.here hx rfl (hb hby d1_17) rfl ?_
      refine XS.i2c X0.here hx rfl (hb hby d1_18) rfl ?_
      simp only [if_pos hd] at kk
      exact kk
    · show SG p e below s₁ (mkF m 3 #[lI x0] [(.int (x0 &&& (1 : Int32)))]) _
      refine XS.ifNo X0.here hx rfl (hb hby d1_3) rfl ((if0 _ _).trans (feq hd).1) ?_
      refine qb X0 hx hby d1_6 ?_
      refine XS.goto X0.here hx rfl (pc0 := 8) (pc' := 19) rfl (hb hby d1_8) (by decide) (by decide) ?_
      simp only [if_neg hd] at kk
      exact kk
  refine ⟨some (.int (nar .char (if (x0 &&& (1 : Int32)) = (0 : Int32) then ((((x0.toUInt32 >>> ((1 : Int32) &&& 31).toUInt32).toInt32) &&& (255 : Int32)).toUInt32.toUInt16.toUInt32.toInt32) else (47 : Int32)))), _, _, _, _, nofun, X0, by decide, by decide, ?_, fun fs hr => ?_⟩
  · rw [e0]; exact ⟨rfl, N0, rfl⟩
  · show SG p e below s₁ (mkF m 0 #[lI x0] []) _
    refine qiN X0 hx hby d1_0 ?_
    refine qc X0 hx hby d1_1 ?_
    refine XS.iand X0.here hx rfl (hb hby d1_2) rfl ?_
    show SG p e below s₁ (mkF m 3 #[lI x0] [(.int (x0 &&& (1 : Int32)))]) _
    refine dm1 _ ?_
    show SG p e below s₁ (mkF m 19 #[lI x0] [(.int (if (x0 &&& (1 : Int32)) = (0 : Int32) then ((((x0.toUInt32 >>> ((1 : Int32) &&& 31).toUInt32).toInt32) &&& (255 : Int32)).toUInt32.toUInt16.toUInt32.toInt32) else (47 : Int32)))]) _
    exact retN X0 hx (t := .char) hret (by simp) (hb hby d1_19) hr
theorem pd__I_C : parseMethodDescriptor "(I)C" = some ⟨[.int], some .char⟩ := by decide +kernel
theorem d2_0 : DK cB2 0 (.iload_n 0) 1 := by decide +kernel
theorem d2_1 : DK cB2 1 (.ifCond .gt 14) 3 := by decide +kernel
theorem d2_4 : DK cB2 4 (.new 7) 3 := by decide +kernel
theorem d2_7 : DK cB2 7 (.dup) 1 := by decide +kernel
theorem d2_8 : DK cB2 8 (.iconst 0) 1 := by decide +kernel
theorem d2_9 : DK cB2 9 (.newarray .char) 2 := by decide +kernel
theorem d2_11 : DK cB2 11 (.invokespecial 9) 3 := by decide +kernel
theorem d3_0 : DK cB3 0 (.aload_n 0) 1 := by decide +kernel
theorem d3_1 : DK cB3 1 (.aload_n 1) 1 := by decide +kernel
theorem d3_2 : DK cB3 2 (.iconst 0) 1 := by decide +kernel
theorem d3_3 : DK cB3 3 (.aload_n 1) 1 := by decide +kernel
theorem d3_4 : DK cB3 4 (.arraylength) 1 := by decide +kernel
theorem d3_5 : DK cB3 5 (.aconst_null) 1 := by decide +kernel
theorem d3_6 : DK cB3 6 (.invokespecial 27) 3 := by decide +kernel
theorem d4_0 : DK cB4 0 (.aload_n 0) 1 := by decide +kernel
theorem d4_1 : DK cB4 1 (.invokespecial 1) 3 := by decide +kernel
theorem d4_4 : DK cB4 4 (.iload_n 3) 1 := by decide +kernel
theorem d4_5 : DK cB4 5 (.ifCond .ne 22) 3 := by decide +kernel
theorem d4_8 : DK cB4 8 (.aload_n 0) 1 := by decide +kernel
theorem d4_9 : DK cB4 9 (.ldc 7) 2 := by decide +kernel
theorem own_str : ∀ a ∈ Bundle.stringAtoms, a ∈ tables_1 := by decide +kernel
theorem d4_11 : DK cB4 11 (.getfield 9) 3 := by decide +kernel
theorem d4_14 : DK cB4 14 (.putfield 9) 3 := by decide +kernel
section OwnSafe
variable {p : Program} {l : Launch} {e : Env} {R : Room} {s : State} {args : Array Value} {below : List Frame} {Z : State} {a0 : Array Value} {EL : List (String × Nat)} {h : Heap} {vm0 : Vm}
theorem own_backSafe {y : MethodName} {bytes : ByteArray} {maxL : Nat} {ret : Option FieldType} {rm : Room} {len W : Nat} {as' : Array Value} {Q : Option Value → Heap → List Loc → Prop} {xs : List Addr}
    (hM : MetFree l y (head1 [Jvm.Cond.code y bytes maxL ret] rm) (fun a U => a = as' ∧ Z.Warmed39 U.vm ∧ U.heap = h ∧ CHv Z EL U.vm h ∧ ∀ x ∈ xs, Safe Z EL U.vm h x) (fun _ _ _ _ _ => True) (fun _ U o U' => ∃ v L, o = .returned v ∧ Q v U'.heap L ∧ CHr Z EL U.vm U.heap U'.vm U'.heap ∧ ReturnedEndW U o U' L rm.cells rm.slots))
    (hZ : Z.Warmed39 vm0) (wc : (Jvm.Cond.code y bytes maxL ret).before a0 Z = true) (wz : (Jvm.Cond.initialized y.cls).before a0 Z = true) (hf : rm.frames + 1 ≤ R.frames) (hl : W + (maxL + 11) + rm.locals ≤ R.locals) (hEL : EW Z a0 EL) (H : CHv Z EL vm0 h) (hxs : ∀ x ∈ xs, x < h.size ∧ Safe Z EL vm0 h x) :
    BackS l R p e below (s.setVm vm0) args y len W (fun A a => a = as' ∧ A.U.heap = h ∧ A.cells + rm.cells ≤ R.cells ∧ A.slots + rm.slots ≤ R.slots)
      (fun A _ v B => ∃ L, Q v B.U.heap L ∧ B.locs = A.locs ++ L ∧ B.cells = A.cells + rm.cells ∧ B.slots = A.slots + rm.slots ∧ CHr Z EL vm0 h B.U.vm B.U.heap) := by
  refine BackS.of_freeW (bytes := bytes) (maxL := maxL) (ret := ret) (E := fun _ first o t L k n => k = rm.cells ∧ n = rm.slots ∧ (∃ v, o = .returned v ∧ Q v t.heap L) ∧ CHr Z EL first.vm first.heap t.vm t.heap) hM hf hl ?_ ?_ (fun _ _ _ _ _ _ _ _ _ => trivial) ?_ ?_
  · intro m meth c A a Y hp
    have hU : Z.Warmed39 A.U.vm := wtrans (s := s.setVm vm0) hZ Y.warmed
    exact ⟨by show (Jvm.Cond.and _ .tt).before a A.U = true; rw [Cond.before_and, mv hU wc]; rfl, mv hU wc, mv hU wz, hp.2.2.1, hp.2.2.2⟩
  · intro m meth c A a g mk Y hp
    exact ⟨hp.1, wtrans (s := s.setVm vm0) hZ Y.warmed, hp.2.1, (CHv.at Y hZ hEL H).1, fun x hx => CHr.safe (CHv.at Y hZ hEL H) (hxs x hx).1 (hxs x hx).2⟩
  · intro _ _ _ _ ⟨v, L, h1, h2, h3, h4⟩
    exact ⟨L, _, _, h4, rfl, rfl, ⟨v, h1, h2⟩, h3⟩
  · intro m meth c A a g mk v t L k n Y hp _ _ ⟨e1, e2, ⟨v', e3, e4⟩, e5⟩
    cases e3; subst e1 e2
    refine ⟨L, e4, rfl, rfl, rfl, (CHv.at Y hZ hEL H).trans ?_⟩
    rw [← hp.2.1]; exact e5
end OwnSafe
theorem d4_17 : DK cB4 17 (.aload_n 0) 1 := by decide +kernel
theorem d4_18 : DK cB4 18 (.ldc 7) 2 := by decide +kernel
theorem d4_20 : DK cB4 20 (.getfield 15) 3 := by decide +kernel
theorem d4_23 : DK cB4 23 (.putfield 15) 3 := by decide +kernel
theorem d4_26 : DK cB4 26 (.return_) 1 := by decide +kernel
theorem pn_java_lang_String : plainName "java/lang/String" = true := by first | (simp [plainName, overriddenIn]; done) | decide +kernel
def Q4_1 (Z : State) (r0 r1 : Addr) (h0 : Heap) (n0 : Nat) (v : Option Value) (h : Heap) (L : List Loc) : Prop := ∃ (b3 : Addr) (k3 : ClassId), v = none ∧ Fr n0 L ∧ Keep h0 h [r0] ∧ Fld Z h r0 "java/lang/String" "value" "[B" (.ref b3) ∧ Fld Z h r0 "java/lang/String" "coder" "B" vI0 ∧ True ∧ Arv Z h b3 k3 .byte (0 : Int32) [] vI0
theorem rm4_1 (l : Launch) (Z : State) (a0 : Array Value) (hw : own_HW a0 Z) (ws : List Jvm.Cond) (r0 r1 : Addr) (h0 : Heap) (n0 : Nat) (O0 : Old Z n0 h0) (f6 : Exa Z h0 r0 "java/lang/String") (f8 : Fld Z h0 r0 "java/lang/String" "value" "[B" .null) (g10 : n0 ≤ r0) (l12 : r0 < h0.size) (f25 : Fld Z h0 r0 "java/lang/String" "coder" "B" vI0) :
    MetFree l mN1 (head1 (Jvm.Cond.code mN1 jdk_42_method_149_code 6 none :: ws) rR1_4_8_12) (fun a U => a = #[(.ref r0), (.ref r1), vI0, vI0, .null] ∧ Z.Warmed39 U.vm ∧ U.heap = h0 ∧ CHv Z consts_1 U.vm h0 ∧ ∀ x ∈ [r0], Safe Z consts_1 U.vm h0 x) (fun _ _ _ _ _ => True) (fun _ U o U' => ∃ v L, o = .returned v ∧ Q4_1 Z r0 r1 h0 n0 v U'.heap L ∧ CHr Z consts_1 U.vm U.heap U'.vm U'.heap ∧ ReturnedEndW U o U' L rR1_4_8_12.cells rR1_4_8_12.slots) := by
  refine MetFree.of_bodySF (plainFor_of_name pn_java_lang_String) hisR ?_
  intro p e s m args below meth c s₁ Bd hml0 hP hK
  obtain ⟨rfl, hZ, hh, hC, hSf⟩ := hP
  have hx := Bd.exec
  have hby := Bd.bytes
  have hml : c.maxLocals = 6 := hml0
  have hown : s.vm.findClass "java/lang/String" = some m.cls := findClass_of_methodNamed Bd.named
  have hnm := (name_of_methodNamed Bd.named Bd.method).1
  have X0 : Stand p l e rR1_4_8_12 s m #[(.ref r0), (.ref r1), vI0, vI0, .null] below meth c s₁ [] 0 0 := Stand.of_body Bd
  have e0 : s₁.heap = h0 := by rw [← hh, Bd.state]; rfl
  have N0 := Fr.nil n0; have w := @ww Z a0 hw
  have pre0 : ∀ t, Steps p.tables e below (s₁.setTop (mkF m 0 #[lR r0, lR r1, lV vI0, lV vI0, .val .null, lU] [])) t → Steps p.tables e below (s₁.setTop (entryFrame m #[(.ref r0), (.ref r1), vI0, vI0, .null] 6)) t := fun t k => castTop (by first | (simp [entryFrame, mkF, argsToLocals, Value.category]; done) | rfl) k
  have hEL : EW Z a0 consts_1 := own_EW hw
  have R0 := CHr.refl hC
  obtain ⟨T1, X1, e1, st1⟩ := initO X0 hx hZ hown (w 19 rfl) (w 20 rfl) (w 21 rfl) e0 (g := (mkF m 1 #[lR r0, lR r1, lV vI0, lV vI0, .val .null, lU] [(.ref r0)])) rfl (by rw [hml]; rfl) rfl (hb hby d4_1) (by decide) (W := 0) (own_W rfl) (by decide)
  have hS2 := (State.WarmedH.refl s).since 0
  have hstr : ∀ a ∈ Bundle.stringAtoms, a.before a0 Z = true := fun a q => hw a (own_str a q)
  obtain ⟨a3, T3, h3, kk3, b3, k3, X3, e3, E3, hS3, hk3, hZ3, ho3, EE3, C3, F3, V3, l3, m3, CR3, -, ne3, st3⟩ := ldcCH (s := s) (vm0 := s.vm) X1 hx hZ hown (w 22 rfl) hstr e1 hS2 (Nat.zero_le _) hEL (by simp [consts_1]) R0.1 (vs := []) (z := (0 : Int32)) ⟨by decide, by decide⟩ (by decide) rfl (g := (mkF m 9 #[lR r0, lR r1, lV vI0, lV vI0, .val .null, lU] [(.ref r0)])) rfl (hb hby d4_9) (n := 0) (by decide) (by decide) (by decide) (by decide)
  have R4 := CHr.trans R0 CR3
  obtain ⟨T5, X5, e5, st5⟩ := getF X3 hx hZ3 ho3 (host := "") (Or.inl (w 28 rfl)) Via.refl e3 F3 (g := (mkF m 11 #[lR r0, lR r1, lV vI0, lV vI0, .val .null, lU] [(.ref a3), (.ref r0)])) rfl rfl (hb hby d4_11)
  have f7 := (f6.ext E3)
  have f9 := (f8.ext E3)
  obtain ⟨T11, h11, X11, e11, W11, st11⟩ := putF X5 hx hZ3 ho3 (host := "") (Or.inl (w 28 rfl)) Via.refl e5 f9 f7 (Or.inr ⟨(w 24 rfl), rfl, hnm⟩) (w 9 rfl) (ty := (.array .byte)) (by decide) rfl rfl (g := (mkF m 14 #[lR r0, lR r1, lV vI0, lV vI0, .val .null, lU] [(.ref b3), (.ref r0)])) rfl rfl (hb hby d4_14)
  have Fw11 := f9.same W11
  have sf13 := (CHr.safe CR3 l12 (hSf _ (List.mem_of_getElem? (i := 0) rfl)))
  have sf14 := sf13
  have R15 := CHr.trans R4 (CHr.wr W11 sf14 R4.1)
  have N11 := Fr.snoc X11 N0 g10
  have zs17 := (Nat.le_of_eq W11.size.symm)
  obtain ⟨a16, T16, h16, kk16, b16, k16, X16, e16, E16, hS16, hk16, hZ16, ho16, EE16, C16, F16, V16, l16, m16, CR16, -, ne16, st16⟩ := ldcCH (s := s) (vm0 := T3.vm) X11 hx hZ3 ho3 (w 22 rfl) hstr e11 hS3 (Nat.le_trans hk3 zs17) hEL (by simp [consts_1]) R15.1 (vs := []) (z := (0 : Int32)) ⟨by decide, by decide⟩ (by decide) rfl (g := (mkF m 18 #[lR r0, lR r1, lV vI0, lV vI0, .val .null, lU] [(.ref r0)])) rfl (hb hby d4_18) (n := 0) (by decide) (by decide) (by decide) (by decide)
  have R18 := CHr.trans R15 CR16
  have zs19 := E3.1
  have zs20 := Nat.le_trans zs19 (Nat.le_of_eq W11.size.symm)
  have sf21 := (CHr.safe CR16 (Nat.lt_of_lt_of_le l12 zs20) (Safe.wr W11 sf14 R4.1 sf13))
  have nl22 := ne16 _ sf21
  obtain ⟨T23, X23, e23, st23⟩ := getF X16 hx hZ16 ho16 (host := "") (Or.inl (w 29 rfl)) Via.refl e16 C16 (g := (mkF m 20 #[lR r0, lR r1, lV vI0, lV vI0, .val .null, lU] [(.ref a16), (.ref r0)])) rfl rfl (hb hby d4_20)
  have f24 := ((f7.wr W11).ext E16)
  have f26 := (((f25.ext E3).other W11 (Or.inr (slot_ne (Or.inr (w 25 rfl)) (Or.inr (w 24 rfl)) (by decide) (t := .byte) (t' := (.array .byte)) (by decide) (by decide)))).ext E16)
  obtain ⟨T27, h27, X27, e27, W27, st27⟩ := putFN X23 hx hZ16 ho16 (w 29 rfl) Via.refl e23 f26 f24 (Or.inr ⟨(w 25 rfl), rfl, hnm⟩) (w 9 rfl) (ty := .byte) (v' := vI0) (by decide) rfl (by decide) (g := (mkF m 23 #[lR r0, lR r1, lV vI0, lV vI0, .val .null, lU] [vI0, (.ref r0)])) rfl rfl (hb hby d4_23)
  have Fw27 := f26.same W27
  have sf28 := sf21
  have R29 := CHr.trans R18 (CHr.wr W27 sf28 R18.1)
  have N27 := Fr.snoc X27 N11 g10
  have f30 := ((Fw11.ext E16).other W27 (Or.inr (slot_ne (Or.inr (w 24 rfl)) (Or.inr (w 25 rfl)) (by decide) (t := (.array .byte)) (t' := .byte) (by decide) (by decide))))
  have nl31 := ne3 _ (CHr.safe CR3 l12 (hSf _ (List.mem_of_getElem? (i := 0) rfl)))
  have f32 := (((V3.other W11 (Ne.symm nl31.2)).ext E16).other W27 (Ne.symm nl31.2))
  have kp33 : Keep h0 h3 [r0] := (Keep.refl h0 [r0]).ext E3
  have kp34 : Keep h0 h11 [r0] := kp33.wr W11 (Or.inl (List.mem_of_getElem? (i := 0) rfl))
  have kp35 : Keep h0 h16 [r0] := kp34.ext E16
  have kp36 : Keep h0 h27 [r0] := kp35.wr W27 (Or.inl (List.mem_of_getElem? (i := 0) rfl))
  have zs37 := (Nat.le_of_eq W27.size.symm)
  obtain ⟨fs, hr, hrun, hended, hend⟩ := leaveW (s := s) (vm₁ := T16.vm) X27 hS16 (by rw [e27]; exact (Nat.le_trans hk16 zs37)) (v := none) (fun _ => rfl)
  have hCR : CHr Z consts_1 s.vm s.heap T27.vm T27.heap := by rw [hh, e27]; exact CHr.trans R29 (CHv.at (s := s) (vm0 := T16.vm) X27 hZ16 hEL R29.1)
  refine ⟨_, _, pre0 _ ?_, hrun, hended, _, _, rfl, ?_, hCR, hend.1, hend.2.1, hend.2.2.1, hend.2.2.2.mono (by decide) (by decide)⟩
  · show SG p e below s₁ (mkF m 0 #[lR r0, lR r1, lV vI0, lV vI0, .val .null, lU] []) _
    refine qaN X0 hx hby d4_0 ?_
    refine st1 _ ?_
    show SG p e below T1 (mkF m 4 #[lR r0, lR r1, lV vI0, lV vI0, .val .null, lU] []) _
    refine qiN X1 hx hby d4_4 ?_
    refine XS.ifNo X1.here hx rfl (hb hby d4_5) rfl ((if0 _ _).trans (teq (rfl : (0 : Int32) = (0 : Int32))).2) ?_
    refine qaN X1 hx hby d4_8 ?_
    refine st3 _ ?_
    show SG p e below T3 (mkF m 11 #[lR r0, lR r1, lV vI0, lV vI0, .val .null, lU] [(.ref a3), (.ref r0)]) _
    refine st5 _ ?_
    show SG p e below T5 (mkF m 14 #[lR r0, lR r1, lV vI0, lV vI0, .val .null, lU] [(.ref b3), (.ref r0)]) _
    refine st11 _ ?_
    show SG p e below T11 (mkF m 17 #[lR r0, lR r1, lV vI0, lV vI0, .val .null, lU] []) _
    refine qaN X11 hx hby d4_17 ?_
    refine st16 _ ?_
    show SG p e below T16 (mkF m 20 #[lR r0, lR r1, lV vI0, lV vI0, .val .null, lU] [(.ref a16), (.ref r0)]) _
    refine st23 _ ?_
    show SG p e below T23 (mkF m 23 #[lR r0, lR r1, lV vI0, lV vI0, .val .null, lU] [vI0, (.ref r0)]) _
    refine st27 _ ?_
    show SG p e below T27 (mkF m 26 #[lR r0, lR r1, lV vI0, lV vI0, .val .null, lU] []) _
    exact X27.returnOut hx Bd.returns (hb hby d4_26) hr
  · show Q4_1 Z r0 r1 h0 n0 _ T27.heap _
    rw [e27]
    exact ⟨b3, k3, rfl, N27, kp36, f30, Fw27, trivial, f32⟩
theorem pd___CIILjava_lang_Void__V : parseMethodDescriptor "([CIILjava/lang/Void;)V" = some ⟨[(.array .char), .int, .int, (.object "java/lang/Void")], none⟩ := by decide +kernel
theorem d3_9 : DK cB3 9 (.return_) 1 := by decide +kernel
def Q3_1 (Z : State) (r0 r1 : Addr) (c2 : ClassId) (h0 : Heap) (n0 : Nat) (v : Option Value) (h : Heap) (L : List Loc) : Prop := ∃ (b9_0 : Addr) (k9_0 : ClassId), v = none ∧ Fr n0 L ∧ Keep h0 h [r0] ∧ Fld Z h r0 "java/lang/String" "value" "[B" (.ref b9_0) ∧ Fld Z h r0 "java/lang/String" "coder" "B" vI0 ∧ True ∧ Arv Z h b9_0 k9_0 .byte (0 : Int32) [] vI0
theorem rm3_1 (l : Launch) (Z : State) (a0 : Array Value) (hw : own_HW a0 Z) (ws : List Jvm.Cond) (r0 r1 : Addr) (c2 : ClassId) (h0 : Heap) (n0 : Nat) (O0 : Old Z n0 h0) (f1 : Arv Z h0 r1 c2 .char (0 : Int32) [] vI0) (f3 : Exa Z h0 r0 "java/lang/String") (f4 : Fld Z h0 r0 "java/lang/String" "value" "[B" .null) (g5 : n0 ≤ r0) (l6 : r0 < h0.size) (f7 : Fld Z h0 r0 "java/lang/String" "coder" "B" vI0) :
    MetFree l mN2 (head1 (Jvm.Cond.code mN2 jdk_42_method_3_code 2 none :: ws) rR2_4_8_29) (fun a U => a = #[(.ref r0), (.ref r1)] ∧ Z.Warmed39 U.vm ∧ U.heap = h0 ∧ CHv Z consts_1 U.vm h0 ∧ ∀ x ∈ [r0], Safe Z consts_1 U.vm h0 x) (fun _ _ _ _ _ => True) (fun _ U o U' => ∃ v L, o = .returned v ∧ Q3_1 Z r0 r1 c2 h0 n0 v U'.heap L ∧ CHr Z consts_1 U.vm U.heap U'.vm U'.heap ∧ ReturnedEndW U o U' L rR2_4_8_29.cells rR2_4_8_29.slots) := by
  refine MetFree.of_bodySF (plainFor_of_name pn_java_lang_String) hisR ?_
  intro p e s m args below meth c s₁ Bd hml0 hP hK
  obtain ⟨rfl, hZ, hh, hC, hSf⟩ := hP
  have hx := Bd.exec
  have hby := Bd.bytes
  have hml : c.maxLocals = 2 := hml0
  have hown : s.vm.findClass "java/lang/String" = some m.cls := findClass_of_methodNamed Bd.named
  have X0 : Stand p l e rR2_4_8_29 s m #[(.ref r0), (.ref r1)] below meth c s₁ [] 0 0 := Stand.of_body Bd
  have e0 : s₁.heap = h0 := by rw [← hh, Bd.state]; rfl
  have N0 := Fr.nil n0; have w := @ww Z a0 hw
  have pre0 : ∀ t, Steps p.tables e below (s₁.setTop (mkF m 0 #[lR r0, lR r1] [])) t → Steps p.tables e below (s₁.setTop (entryFrame m #[(.ref r0), (.ref r1)] 2)) t := fun t k => castTop (by first | (simp [entryFrame, mkF, argsToLocals, Value.category]; done) | rfl) k
  have hEL : EW Z a0 consts_1 := own_EW hw
  have R0 := CHr.refl hC
  obtain ⟨clq2, Arq2, qq2, Sq2, Nq2, Hq2, Gq2⟩ := id f1
  have hS8 := (State.WarmedH.refl s).since 0
  obtain ⟨_, _, ⟨T9, L9, k9, n9⟩, -, X9, hs9, hg9, ⟨Lc9, hQ9, l9, y9, z9, cr9⟩, st9⟩ := X0.specialBackS hx (y := mN1) rfl hown (mvT hZ (w 15 rfl)) (mvT hZ (w 16 rfl)) (mvT hZ (w 18 rfl)) (by decide) (own_backSafe (s := s) (vm0 := s.vm) (W := 0) (rm4_1 l Z a0 hw [] r0 r1 h0 n0 O0 f3 f4 g5 l6 f7) hZ (w 18 rfl) (w 10 rfl) (by decide) (by decide) hEL R0.1 (allS ⟨l6, (hSf _ (List.mem_of_getElem? (i := 0) rfl))⟩ all0)) (g := (mkF m 6 #[lR r0, lR r1] [.null, vI0, vI0, (.ref r1), (.ref r0)])) rfl (by rw [hml]; rfl) (Steps.refl _) (a := r0) (argsL := [(.ref r1), vI0, vI0, .null]) (rest := []) (lenOf pd___CIILjava_lang_Void__V rfl) rfl (own_W rfl) (hb hby d3_6) (fun _ _ => ⟨rfl, e0, (by decide : 0 + 4 ≤ _), (by decide : 0 + 8 ≤ _)⟩)
  dsimp only [Pt.U, Pt.locs, Pt.cells, Pt.slots] at X9 l9 y9 z9 st9 hQ9 hs9 hg9 cr9
  subst l9 y9 z9
  obtain ⟨X9, hS9, hZ9, ho9⟩ := rebS (s := s) (vm0 := s.vm) hS8 (by rw [e0]; exact (Nat.zero_le _)) X9 hs9 hg9 hZ hown
  obtain ⟨b9_0, k9_0, rfl, N9q, K9, f10, f11, f12, f13⟩ := hQ9
  have N9 := Fr.app N0 N9q
  have R14 := CHr.trans R0 cr9
  have kp15 : Keep h0 T9.heap [r0] := (Keep.refl h0 [r0]).trans K9 (allS (Or.inl (List.mem_of_getElem? (i := 0) rfl)) all0)
  obtain ⟨fs, hr, hrun, hended, hend⟩ := leaveW (s := s) (vm₁ := T9.vm) X9 hS9 ((Nat.le_refl _)) (v := none) (fun _ => rfl)
  have hCR : CHr Z consts_1 s.vm s.heap T9.vm T9.heap := by rw [hh]; exact CHr.trans R14 (CHv.at (s := s) (vm0 := T9.vm) X9 hZ9 hEL R14.1)
  refine ⟨_, _, pre0 _ ?_, hrun, hended, _, _, rfl, ?_, hCR, hend.1, hend.2.1, hend.2.2.1, hend.2.2.2.mono (by decide) (by decide)⟩
  · show SG p e below s₁ (mkF m 0 #[lR r0, lR r1] []) _
    refine qaN X0 hx hby d3_0 ?_
    refine qaN X0 hx hby d3_1 ?_
    refine qc X0 hx hby d3_2 ?_
    refine qaN X0 hx hby d3_3 ?_
    refine X0.arraylength hx (by rw [e0]; exact Arq2.1) (State.isArrayOf_alike hZ.alike Arq2.2.1) (g := (mkF m 4 #[lR r0, lR r1] [(.ref r1), vI0, (.ref r1), (.ref r0)])) rfl rfl (hb hby d3_4) _ ?_
    rw [len_of Sq2 Nq2]
    show SG p e below s₁ (mkF m 5 #[lR r0, lR r1] [vI0, vI0, (.ref r1), (.ref r0)]) _
    refine XS.aconstNull X0.here hx rfl (hb hby d3_5) ?_
    refine st9.trans ?_
    show SG p e below T9 (mkF m 9 #[lR r0, lR r1] []) _
    exact X9.returnOut hx Bd.returns (hb hby d3_9) hr
  · show Q3_1 Z r0 r1 c2 h0 n0 _ T9.heap _
    exact ⟨b9_0, k9_0, rfl, N9, kp15, f10, f11, trivial, f13⟩
theorem pd___C_V : parseMethodDescriptor "([C)V" = some ⟨[(.array .char)], none⟩ := by decide +kernel
theorem d2_14 : DK cB2 14 (.areturn) 1 := by decide +kernel
def Q2_1 (Z : State) (x0 x1 : Int32) (x2 x3 x4 : Int32) (h0 : Heap) (n0 : Nat) (v : Option Value) (h : Heap) (L : List Loc) : Prop := ∃ (b1 b19_0 : Addr) (k19_0 : ClassId), v = some (.ref b1) ∧ Fr n0 L ∧ Keep h0 h [] ∧ h0.size ≤ b1 ∧ Exa Z h b1 "java/lang/String" ∧ Fld Z h b1 "java/lang/String" "value" "[B" (.ref b19_0) ∧ Fld Z h b1 "java/lang/String" "coder" "B" vI0 ∧ True ∧ Arv Z h b19_0 k19_0 .byte (0 : Int32) [] vI0
theorem rm2_1 (l : Launch) (Z : State) (a0 : Array Value) (hw : own_HW a0 Z) (ws : List Jvm.Cond) (x0 x1 : Int32) (x2 x3 x4 : Int32) (h0 : Heap) (n0 : Nat) (O0 : Old Z n0 h0) :
    own_MH l mN3 method_3_code 6 (some (.object "java/lang/String")) ws rR3_6_12_43 Z h0 #[vI0, (.int x0), (.int x1), (.int x2), (.int x3), (.int x4)] (Q2_1 Z x0 x1 x2 x3 x4 h0 n0) := by
  have hEL : EW Z a0 consts_1 := own_EW hw
  refine own_openH hEL (plainFor_of_name pn_com_example_nearmiss_nearmiss_ElementParentPathPinLaw) (L0 := #[lV vI0, lI x0, lI x1, lI x2, lI x3, lI x4]) (fun _ => by first | (simp [entryFrame, mkF, argsToLocals, Value.category]; done) | rfl) ?_
  intro p e s m below meth c s₁ hx hby hml hret hnn hZ hown X0 e0 R0
  have N0 := Fr.nil n0; have w := @ww Z a0 hw
  obtain ⟨T1, h1, X1, e1, E1, A1, D1, -, st1⟩ := newO X0 hx hZ hown (w 8 rfl) (w 9 rfl) (w 10 rfl) e0 (g := (mkF m 4 #[lV vI0, lI x0, lI x1, lI x2, lI x3, lI x4] [])) rfl (hb hby d2_4) (by decide) (by decide)
  obtain ⟨b1, g1⟩ : ∃ z, z = h0.size := ⟨_, rfl⟩
  have sf2 : Safe Z consts_1 s.vm h0 b1 := Safe.new (Nat.le_of_eq g1.symm)
  rw [← g1] at A1 D1 st1
  have R3 := CHr.trans R0 (CHr.ext E1 R0.1)
  have f4 : Fld Z h1 b1 "java/lang/String" "value" "[B" .null := D1 (Or.inr (w 24 rfl)) (ty := (.array .byte)) (by decide)
  have f5 : Fld Z h1 b1 "java/lang/String" "coder" "B" vI0 := D1 (Or.inr (w 25 rfl)) (ty := .byte) (by decide)
  obtain ⟨T6, h6, k6, X6, e6, E6, A6, B6, st6⟩ := newPE X1 hx hZ (w 11 rfl) e1 (g := (mkF m 9 #[lV vI0, lI x0, lI x1, lI x2, lI x3, lI x4] [vI0, (.ref b1), (.ref b1)])) rfl (hb hby d2_9) rfl (by decide) (cap := 0) (by decide) (by decide) (by decide) (by decide) (ad := "[C") rfl
  obtain ⟨b6, g6⟩ : ∃ z, z = h1.size := ⟨_, rfl⟩
  have sf7 : Safe Z consts_1 s.vm h1 b6 := Safe.new (Nat.le_of_eq g6.symm)
  rw [← g6] at A6 B6 st6
  have R8 := CHr.trans R3 (CHr.ext E6 R3.1)
  have V6 : Arv Z h6 b6 k6 .char (0 : Int32) [] vI0 := (Arv.new A6 (by decide)).pad (pad_rep [] vI0 0)
  have f9 := (A1.ext E6)
  have f10 := (f4.ext E6)
  have zz11 : n0 ≤ h0.size := by rw [← O0.1]; exact O0.2.1
  have g12 := Nat.le_trans zz11 (Nat.le_of_eq g1.symm)
  have zs13 := E6.1
  have f14 := (f5.ext E6)
  have o15 := Old.ext O0 E1
  have o16 := Old.ext o15 E6
  have hS17 := (State.WarmedH.refl s).since 0
  have sf18 := (Safe.ext E6 R3.1 (Safe.ext E1 R0.1 sf2))
  obtain ⟨_, _, ⟨T19, L19, k19, n19⟩, -, X19, hs19, hg19, ⟨Lc19, hQ19, l19, y19, z19, cr19⟩, st19⟩ := X6.specialBackS hx (y := mN2) rfl hown (mvT hZ (w 12 rfl)) (mvT hZ (w 13 rfl)) (mvT hZ (w 14 rfl)) (by decide) (own_backSafe (s := s) (vm0 := s.vm) (W := 1) (rm3_1 l Z a0 hw [] b1 b6 k6 h6 n0 o16 V6 f9 f10 g12 (Nat.lt_of_lt_of_le A1.lt zs13) f14) hZ (w 14 rfl) (w 10 rfl) (by decide) (by decide) hEL R8.1 (allS ⟨(Nat.lt_of_lt_of_le A1.lt zs13), sf18⟩ all0)) (g := (mkF m 11 #[lV vI0, lI x0, lI x1, lI x2, lI x3, lI x4] [(.ref b6), (.ref b1), (.ref b1)])) rfl (by rw [hml]; rfl) (Steps.refl _) (a := b1) (argsL := [(.ref b6)]) (rest := [(.ref b1)]) (lenOf pd___C_V rfl) rfl (own_W rfl) (hb hby d2_11) (fun _ _ => ⟨rfl, e6, (by decide : 2 + 4 ≤ _), (by decide : 4 + 8 ≤ _)⟩)
  dsimp only [Pt.U, Pt.locs, Pt.cells, Pt.slots] at X19 l19 y19 z19 st19 hQ19 hs19 hg19 cr19
  subst l19 y19 z19
  obtain ⟨X19, hS19, hZ19, ho19⟩ := rebS (s := s) (vm0 := s.vm) hS17 (by rw [e6]; exact (Nat.zero_le _)) X19 hs19 hg19 hZ hown
  obtain ⟨b19_0, k19_0, rfl, N19q, K19, f20, f21, f22, f23⟩ := hQ19
  have N19 := Fr.app N0 N19q
  have R24 := CHr.trans R8 cr19
  have f25 := (f9.keep K19)
  have kp26 : Keep h0 h1 [] := (Keep.refl h0 []).ext E1
  have kp27 : Keep h0 h6 [] := kp26.ext E6
  have kp28 : Keep h0 T19.heap [] := kp27.trans K19 (allS (Or.inr (Nat.le_of_eq g1.symm)) all0)
  refine ⟨some (.ref b1), _, _, _, _, _, _, _, nofun, X19, by decide, by decide, hS19, ((Nat.le_refl _)), hZ19, rfl, R24, ?_, fun fs hr => ?_⟩
  · exact ⟨b1, b19_0, k19_0, rfl, N19, kp28, (Nat.le_of_eq g1.symm), f25, f20, f21, trivial, f23⟩
  · show SG p e below s₁ (mkF m 0 #[lV vI0, lI x0, lI x1, lI x2, lI x3, lI x4] []) _
    refine qiN X0 hx hby d2_0 ?_
    refine XS.ifNo X0.here hx rfl (hb hby d2_1) rfl ((if0 _ _).trans (flt (by decide : ¬ ((0 : Int32) < (0 : Int32)))).2.2.1) ?_
    refine st1 _ ?_
    show SG p e below T1 (mkF m 7 #[lV vI0, lI x0, lI x1, lI x2, lI x3, lI x4] [(.ref b1)]) _
    refine qd X1 hx hby d2_7 ?_
    refine qc X1 hx hby d2_8 ?_
    refine st6 _ ?_
    show SG p e below T6 (mkF m 11 #[lV vI0, lI x0, lI x1, lI x2, lI x3, lI x4] [(.ref b6), (.ref b1), (.ref b1)]) _
    refine st19.trans ?_
    show SG p e below T19 (mkF m 14 #[lV vI0, lI x0, lI x1, lI x2, lI x3, lI x4] [(.ref b1)]) _
    exact retOut X19 hx (i := .areturn) hret rfl (Or.inr (Or.inr (Or.inr (Or.inr ⟨rfl, rfl, rfl⟩)))) (hb hby d2_14) hr
theorem pd__ICCCCC_Ljava_lang_String_ : parseMethodDescriptor cs1 = some ⟨[.int, .char, .char, .char, .char, .char], some (.object "java/lang/String")⟩ := by decide +kernel
theorem d6_0 : DK cB6 0 (.aload_n 0) 1 := by decide +kernel
theorem d6_1 : DK cB6 1 (.bipush 47) 2 := by decide +kernel
theorem d6_3 : DK cB6 3 (.invokevirtual 26) 3 := by decide +kernel
theorem d7_0 : DK cB7 0 (.aload_n 0) 1 := by decide +kernel
theorem d7_1 : DK cB7 1 (.iload_n 1) 1 := by decide +kernel
theorem d7_2 : DK cB7 2 (.aload_n 0) 1 := by decide +kernel
theorem d7_3 : DK cB7 3 (.invokevirtual 505) 3 := by decide +kernel
theorem d8_0 : DK cB8 0 (.aload_n 0) 1 := by decide +kernel
theorem d8_1 : DK cB8 1 (.getfield 9) 3 := by decide +kernel
theorem d8_4 : DK cB8 4 (.arraylength) 1 := by decide +kernel
theorem d8_5 : DK cB8 5 (.aload_n 0) 1 := by decide +kernel
theorem d8_6 : DK cB8 6 (.invokevirtual 335) 3 := by decide +kernel
theorem d9_0 : DK cB9 0 (.getstatic 38) 3 := by decide +kernel
theorem d9_3 : DK cB9 3 (.ifCond .eq 10) 3 := by decide +kernel
theorem d9_6 : DK cB9 6 (.aload_n 0) 1 := by decide +kernel
theorem d9_7 : DK cB9 7 (.getfield 15) 3 := by decide +kernel
theorem d9_10 : DK cB9 10 (.goto 4) 3 := by decide +kernel
theorem d9_14 : DK cB9 14 (.ireturn) 1 := by decide +kernel
def Q9_1 (Z : State) (r0 : Addr) (x1 x2 : Int32) (h0 : Heap) (n0 : Nat) (v : Option Value) (h : Heap) (L : List Loc) : Prop := v = some (.int (nar .byte x2)) ∧ Fr n0 L ∧ h = h0
theorem rm9_1 (l : Launch) (Z : State) (a0 : Array Value) (hw : own_HW a0 Z) (ws : List Jvm.Cond) (r0 : Addr) (x1 x2 : Int32) (h0 : Heap) (n0 : Nat) (O0 : Old Z n0 h0) (f1 : Sta Z Z.heap "java/lang/String" "COMPACT_STRINGS" "Z" (.int x1)) (hc4 : ¬ (x1 = (0 : Int32))) (f5 : Fld Z h0 r0 "java/lang/String" "coder" "B" (.int x2)) :
    own_MF l mN4 jdk_42_method_152_code 1 (some .byte) ws rR0_0_0_0 Z h0 #[(.ref r0)] (Q9_1 Z r0 x1 x2 h0 n0) := by
  refine own_open (plainFor_of_name pn_java_lang_String) (L0 := #[lR r0]) (fun _ => by first | (simp [entryFrame, mkF, argsToLocals, Value.category]; done) | rfl) ?_
  intro p e s m below meth c s₁ hx hby hml hret hnn hZ hown X0 e0
  have N0 := Fr.nil n0
  have f2 := f1.ext O0.2
  obtain ⟨T3, X3, e3, st3⟩ := getS2 X0 hx hZ hown (host := "") (Or.inl (ww hw 49 rfl)) Via.refl e0 f2 (g := (mkF m 0 #[lR r0] [])) rfl (hb hby d9_0)
  obtain ⟨T6, X6, e6, st6⟩ := getF X3 hx hZ hown (host := "") (Or.inl (ww hw 29 rfl)) Via.refl e3 f5 (g := (mkF m 7 #[lR r0] [(.ref r0)])) rfl rfl (hb hby d9_7)
  refine ⟨some (.int (nar .byte x2)), _, _, _, _, nofun, X6, by decide, by decide, ?_, fun fs hr => ?_⟩
  · rw [e6]; exact ⟨rfl, N0, rfl⟩
  · show SG p e below s₁ (mkF m 0 #[lR r0] []) _
    refine st3 _ ?_
    show SG p e below T3 (mkF m 3 #[lR r0] [(.int x1)]) _
    refine XS.ifNo X3.here hx rfl (hb hby d9_3) rfl ((if0 _ _).trans (feq hc4).1) ?_
    refine qaN X3 hx hby d9_6 ?_
    refine st6 _ ?_
    show SG p e below T6 (mkF m 10 #[lR r0] [(.int x2)]) _
    refine XS.goto X6.here hx rfl (pc0 := 10) (pc' := 14) rfl (hb hby d9_10) (by decide) (by decide) ?_
    show SG p e below T6 (mkF m 14 #[lR r0] [(.int x2)]) _
    exact retN X6 hx (t := .byte) hret (by simp) (hb hby d9_14) hr
theorem pd___B : parseMethodDescriptor "()B" = some ⟨[], some .byte⟩ := by decide +kernel
theorem d8_9 : DK cB8 9 (.ishr) 1 := by decide +kernel
theorem d8_10 : DK cB8 10 (.ireturn) 1 := by decide +kernel
def Q8_1 (Z : State) (r0 r1 : Addr) (x2 : Int32) (c3 : ClassId) (t4 : List Value) (x5 x6 : Int32) (h0 : Heap) (n0 : Nat) (v : Option Value) (h : Heap) (L : List Loc) : Prop := v = some (.int (x2 >>> ((nar .byte x6) &&& 31))) ∧ Fr n0 L ∧ h = h0
theorem rm8_1 (l : Launch) (Z : State) (a0 : Array Value) (hw : own_HW a0 Z) (ws : List Jvm.Cond) (r0 r1 : Addr) (x2 : Int32) (c3 : ClassId) (t4 : List Value) (x5 x6 : Int32) (h0 : Heap) (n0 : Nat) (O0 : Old Z n0 h0) (f1 : Fld Z h0 r0 "java/lang/String" "value" "[B" (.ref r1)) (f3 : Arv Z h0 r1 c3 .byte x2 t4 vI0) (f5 : Exa Z h0 r0 "java/lang/String") (f6 : Sta Z Z.heap "java/lang/String" "COMPACT_STRINGS" "Z" (.int x5)) (hc7 : ¬ (x5 = (0 : Int32))) (f8 : Fld Z h0 r0 "java/lang/String" "coder" "B" (.int x6)) :
    own_MF l mN5 jdk_42_method_54_code 1 (some .int) ws rR1_0_0_13 Z h0 #[(.ref r0)] (Q8_1 Z r0 r1 x2 c3 t4 x5 x6 h0 n0) := by
  refine own_open (plainFor_of_name pn_java_lang_String) (L0 := #[lR r0]) (fun _ => by first | (simp [entryFrame, mkF, argsToLocals, Value.category]; done) | rfl) ?_
  intro p e s m below meth c s₁ hx hby hml hret hnn hZ hown X0 e0
  have N0 := Fr.nil n0; have w := @ww Z a0 hw
  obtain ⟨T2, X2, e2, st2⟩ := getF X0 hx hZ hown (host := "") (Or.inl (w 28 rfl)) Via.refl e0 f1 (g := (mkF m 1 #[lR r0] [(.ref r0)])) rfl rfl (hb hby d8_1)
  obtain ⟨clq4, Arq4, qq4, Sq4, Nq4, Hq4, Gq4⟩ := id f3
  obtain ⟨_, T9, Lc9, X9, hQ9, st9⟩ := own_cV X2 hx hZ hown e2 (rm9_1 l Z a0 hw [] r0 x5 x6 h0 n0 O0 f6 hc7 f8) f5 (w 44 rfl) (w 45 rfl) (w 47 rfl) (w 46 rfl) (w 48 rfl) (w 10 rfl) (by decide) (W := 1) (by decide) (by decide) (by decide) (by decide) (g := (mkF m 6 #[lR r0] [(.ref r0), (.int x2)])) rfl (by rw [hml]; rfl) (argsL := []) (rest := [(.int x2)]) (lenOf pd___B rfl) rfl (own_W rfl) (hb hby d8_6)
  obtain ⟨rfl, N9q, E9⟩ := hQ9
  have N9 := Fr.app N0 N9q
  refine ⟨some (.int (x2 >>> ((nar .byte x6) &&& 31))), _, _, _, _, nofun, X9, by decide, by decide, ?_, fun fs hr => ?_⟩
  · rw [E9]; exact ⟨rfl, N9, rfl⟩
  · show SG p e below s₁ (mkF m 0 #[lR r0] []) _
    refine qaN X0 hx hby d8_0 ?_
    refine st2 _ ?_
    show SG p e below T2 (mkF m 4 #[lR r0] [(.ref r1)]) _
    refine X2.arraylength hx (by rw [e2]; exact Arq4.1) (State.isArrayOf_alike hZ.alike Arq4.2.1) (g := (mkF m 4 #[lR r0] [(.ref r1)])) rfl rfl (hb hby d8_4) _ ?_
    rw [len_of Sq4 Nq4]
    show SG p e below T2 (mkF m 5 #[lR r0] [(.int x2)]) _
    refine qaN X2 hx hby d8_5 ?_
    refine st9 _ ?_
    show SG p e below T9 (mkF m 9 #[lR r0] [(.int (nar .byte x6)), (.int x2)]) _
    refine XS.ishr X9.here hx rfl (hb hby d8_9) rfl ?_
    exact retOut X9 hx (i := .ireturn) hret rfl (Or.inl ⟨rfl, Or.inl rfl, _, rfl⟩) (hb hby d8_10) hr
theorem pd___I : parseMethodDescriptor "()I" = some ⟨[], some .int⟩ := by decide +kernel
theorem d7_6 : DK cB7 6 (.iconst 1) 1 := by decide +kernel
theorem d7_7 : DK cB7 7 (.isub) 1 := by decide +kernel
theorem d7_8 : DK cB7 8 (.invokevirtual 641) 3 := by decide +kernel
theorem d10_0 : DK cB10 0 (.aload_n 0) 1 := by decide +kernel
theorem d10_1 : DK cB10 1 (.invokevirtual 492) 3 := by decide +kernel
theorem d11_0 : DK cB11 0 (.getstatic 38) 3 := by decide +kernel
theorem d11_3 : DK cB11 3 (.ifCond .eq 14) 3 := by decide +kernel
theorem d11_6 : DK cB11 6 (.aload_n 0) 1 := by decide +kernel
theorem d11_7 : DK cB11 7 (.getfield 15) 3 := by decide +kernel
theorem d11_10 : DK cB11 10 (.ifCond .ne 7) 3 := by decide +kernel
theorem d11_13 : DK cB11 13 (.iconst 1) 1 := by decide +kernel
theorem d11_14 : DK cB11 14 (.goto 4) 3 := by decide +kernel
theorem d11_18 : DK cB11 18 (.ireturn) 1 := by decide +kernel
def Q11_1 (Z : State) (r0 : Addr) (x1 x2 : Int32) (h0 : Heap) (n0 : Nat) (v : Option Value) (h : Heap) (L : List Loc) : Prop := v = some vI1 ∧ Fr n0 L ∧ h = h0
theorem rm11_1 (l : Launch) (Z : State) (a0 : Array Value) (hw : own_HW a0 Z) (ws : List Jvm.Cond) (r0 : Addr) (x1 x2 : Int32) (h0 : Heap) (n0 : Nat) (O0 : Old Z n0 h0) (f1 : Sta Z Z.heap "java/lang/String" "COMPACT_STRINGS" "Z" (.int x1)) (hc4 : ¬ (x1 = (0 : Int32))) (f5 : Fld Z h0 r0 "java/lang/String" "coder" "B" (.int x2)) (hc7 : x2 = (0 : Int32)) :
    own_MF l mN6 jdk_42_method_154_code 1 (some .boolean) ws rR0_0_0_0 Z h0 #[(.ref r0)] (Q11_1 Z r0 x1 x2 h0 n0) := by
  refine own_open (plainFor_of_name pn_java_lang_String) (L0 := #[lR r0]) (fun _ => by first | (simp [entryFrame, mkF, argsToLocals, Value.category]; done) | rfl) ?_
  intro p e s m below meth c s₁ hx hby hml hret hnn hZ hown X0 e0
  have N0 := Fr.nil n0
  have f2 := f1.ext O0.2
  obtain ⟨T3, X3, e3, st3⟩ := getS2 X0 hx hZ hown (host := "") (Or.inl (ww hw 49 rfl)) Via.refl e0 f2 (g := (mkF m 0 #[lR r0] [])) rfl (hb hby d11_0)
  obtain ⟨T6, X6, e6, st6⟩ := getF X3 hx hZ hown (host := "") (Or.inl (ww hw 29 rfl)) Via.refl e3 f5 (g := (mkF m 7 #[lR r0] [(.ref r0)])) rfl rfl (hb hby d11_7)
  refine ⟨some vI1, _, _, _, _, nofun, X6, by decide, by decide, ?_, fun fs hr => ?_⟩
  · rw [e6]; exact ⟨rfl, N0, rfl⟩
  · show SG p e below s₁ (mkF m 0 #[lR r0] []) _
    refine st3 _ ?_
    show SG p e below T3 (mkF m 3 #[lR r0] [(.int x1)]) _
    refine XS.ifNo X3.here hx rfl (hb hby d11_3) rfl ((if0 _ _).trans (feq hc4).1) ?_
    refine qaN X3 hx hby d11_6 ?_
    refine st6 _ ?_
    show SG p e below T6 (mkF m 10 #[lR r0] [(.int x2)]) _
    refine XS.ifNo X6.here hx rfl (hb hby d11_10) rfl ((if0 _ _).trans (teq hc7).2) ?_
    refine qc X6 hx hby d11_13 ?_
    refine XS.goto X6.here hx rfl (pc0 := 14) (pc' := 18) rfl (hb hby d11_14) (by decide) (by decide) ?_
    show SG p e below T6 (mkF m 18 #[lR r0] [vI1]) _
    exact retN X6 hx (t := .boolean) hret (by simp) (hb hby d11_18) hr
theorem pd___Z : parseMethodDescriptor "()Z" = some ⟨[], some .boolean⟩ := by decide +kernel
theorem d10_4 : DK cB10 4 (.ifCond .eq 15) 3 := by decide +kernel
theorem d10_7 : DK cB10 7 (.aload_n 0) 1 := by decide +kernel
theorem d10_8 : DK cB10 8 (.getfield 9) 3 := by decide +kernel
theorem d10_11 : DK cB10 11 (.iload_n 1) 1 := by decide +kernel
theorem d10_12 : DK cB10 12 (.iload_n 2) 1 := by decide +kernel
theorem d10_13 : DK cB10 13 (.invokestatic 644) 3 := by decide +kernel
theorem d12_0 : DK cB12 0 (.iload_n 1) 1 := by decide +kernel
theorem d12_1 : DK cB12 1 (.invokestatic 88) 3 := by decide +kernel
theorem d13_0 : DK cB13 0 (.iload_n 0) 1 := by decide +kernel
theorem d13_1 : DK cB13 1 (.ifCond .lt 14) 3 := by decide +kernel
theorem d13_4 : DK cB13 4 (.iload_n 0) 1 := by decide +kernel
theorem d13_5 : DK cB13 5 (.sipush 255) 3 := by decide +kernel
theorem d13_8 : DK cB13 8 (.if_icmp .gt 7) 3 := by decide +kernel
theorem d13_11 : DK cB13 11 (.iconst 1) 1 := by decide +kernel
theorem d13_12 : DK cB13 12 (.goto 4) 3 := by decide +kernel
theorem d13_16 : DK cB13 16 (.ireturn) 1 := by decide +kernel
theorem pn_java_lang_StringLatin1 : plainName "java/lang/StringLatin1" = true := by first | (simp [plainName, overriddenIn]; done) | decide +kernel
def Q13_1 (Z : State)  (h0 : Heap) (n0 : Nat) (v : Option Value) (h : Heap) (L : List Loc) : Prop := v = some vI1 ∧ Fr n0 L ∧ h = h0
theorem rm13_1 (l : Launch) (Z : State) (a0 : Array Value) (hw : own_HW a0 Z) (ws : List Jvm.Cond)  (h0 : Heap) (n0 : Nat) (O0 : Old Z n0 h0) :
    own_MF l mN7 jdk_43_method_4_code 1 (some .boolean) ws rR0_0_0_0 Z h0 #[vI47] (Q13_1 Z  h0 n0) := by
  refine own_open (plainFor_of_name pn_java_lang_StringLatin1) (L0 := #[lV vI47]) (fun _ => by first | (simp [entryFrame, mkF, argsToLocals, Value.category]; done) | rfl) ?_
  intro p e s m below meth c s₁ hx hby hml hret hnn hZ hown X0 e0
  have N0 := Fr.nil n0
  refine ⟨some vI1, _, _, _, _, nofun, X0, by decide, by decide, ?_, fun fs hr => ?_⟩
  · rw [e0]; exact ⟨rfl, N0, rfl⟩
  · show SG p e below s₁ (mkF m 0 #[lV vI47] []) _
    refine qiN X0 hx hby d13_0 ?_
    refine XS.ifNo X0.here hx rfl (hb hby d13_1) rfl ((if0 _ _).trans (flt (by decide : ¬ ((47 : Int32) < (0 : Int32)))).1) ?_
    refine qiN X0 hx hby d13_4 ?_
    refine XS.sipush X0.here hx rfl (hb hby d13_5) ?_
    refine XS.icmpNo X0.here hx rfl (hb hby d13_8) rfl (flt (by decide : ¬ ((255 : Int32) < (47 : Int32)))).2.2.1 ?_
    refine qc X0 hx hby d13_11 ?_
    refine XS.goto X0.here hx rfl (pc0 := 12) (pc' := 16) rfl (hb hby d13_12) (by decide) (by decide) ?_
    show SG p e below s₁ (mkF m 16 #[lV vI47] [vI1]) _
    exact retN X0 hx (t := .boolean) hret (by simp) (hb hby d13_16) hr
theorem pd__I_Z : parseMethodDescriptor "(I)Z" = some ⟨[.int], some .boolean⟩ := by decide +kernel
theorem d12_4 : DK cB12 4 (.ifCond .ne 5) 3 := by decide +kernel
theorem d12_9 : DK cB12 9 (.iload_n 2) 1 := by decide +kernel
theorem d12_10 : DK cB12 10 (.aload_n 0) 1 := by decide +kernel
theorem d12_11 : DK cB12 11 (.arraylength) 1 := by decide +kernel
theorem d12_12 : DK cB12 12 (.iconst 1) 1 := by decide +kernel
theorem d12_13 : DK cB12 13 (.isub) 1 := by decide +kernel
theorem d12_14 : DK cB12 14 (.invokestatic 38) 3 := by decide +kernel
theorem d14_0 : DK cB14 0 (.iload_n 0) 1 := by decide +kernel
theorem d14_1 : DK cB14 1 (.iload_n 1) 1 := by decide +kernel
theorem d14_2 : DK cB14 2 (.if_icmp .gt 7) 3 := by decide +kernel
theorem d14_5 : DK cB14 5 (.iload_n 0) 1 := by decide +kernel
theorem d14_6 : DK cB14 6 (.goto 4) 3 := by decide +kernel
theorem d14_10 : DK cB14 10 (.ireturn) 1 := by decide +kernel
def Q14_1 (Z : State) (x0 x1 : Int32) (h0 : Heap) (n0 : Nat) (v : Option Value) (h : Heap) (L : List Loc) : Prop := v = some (.int x0) ∧ Fr n0 L ∧ h = h0
theorem rm14_1 (l : Launch) (Z : State) (a0 : Array Value) (hw : own_HW a0 Z) (ws : List Jvm.Cond) (x0 x1 : Int32) (h0 : Heap) (n0 : Nat) (O0 : Old Z n0 h0) (hc1 : ¬ (x1 < x0)) :
    own_MF l mN8 jdk_29_method_69_code 2 (some .int) ws rR0_0_0_0 Z h0 #[(.int x0), (.int x1)] (Q14_1 Z x0 x1 h0 n0) := by
  refine own_open (Jvm.Free.JP.mathPlain rfl (by decide +kernel)) (L0 := #[lI x0, lI x1]) (fun _ => by first | (simp [entryFrame, mkF, argsToLocals, Value.category]; done) | rfl) ?_
  intro p e s m below meth c s₁ hx hby hml hret hnn hZ hown X0 e0
  have N0 := Fr.nil n0
  refine ⟨some (.int x0), _, _, _, _, nofun, X0, by decide, by decide, ?_, fun fs hr => ?_⟩
  · rw [e0]; exact ⟨rfl, N0, rfl⟩
  · show SG p e below s₁ (mkF m 0 #[lI x0, lI x1] []) _
    refine qiN X0 hx hby d14_0 ?_
    refine qiN X0 hx hby d14_1 ?_
    refine XS.icmpNo X0.here hx rfl (hb hby d14_2) rfl (flt hc1).2.2.1 ?_
    refine qiN X0 hx hby d14_5 ?_
    refine XS.goto X0.here hx rfl (pc0 := 6) (pc' := 10) rfl (hb hby d14_6) (by decide) (by decide) ?_
    show SG p e below s₁ (mkF m 10 #[lI x0, lI x1] [(.int x0)]) _
    exact retOut X0 hx (i := .ireturn) hret rfl (Or.inl ⟨rfl, Or.inl rfl, _, rfl⟩) (hb hby d14_10) hr
theorem pd__II_I : parseMethodDescriptor "(II)I" = some ⟨[.int, .int], some .int⟩ := by decide +kernel
theorem d12_17 : DK cB12 17 (.istore_n 3) 1 := by decide +kernel
theorem d12_18 : DK cB12 18 (.iload_n 3) 1 := by decide +kernel
theorem d12_19 : DK cB12 19 (.ifCond .lt 19) 3 := by decide +kernel
theorem d12_22 : DK cB12 22 (.aload_n 0) 1 := by decide +kernel
theorem d12_23 : DK cB12 23 (.iload_n 3) 1 := by decide +kernel
theorem d12_24 : DK cB12 24 (.baload) 1 := by decide +kernel
theorem d12_25 : DK cB12 25 (.iload_n 1) 1 := by decide +kernel
theorem d12_26 : DK cB12 26 (.i2b) 1 := by decide +kernel
theorem d12_27 : DK cB12 27 (.if_icmp .ne 5) 3 := by decide +kernel
theorem d12_32 : DK cB12 32 (.iinc 3 (-1)) 3 := by decide +kernel
theorem d12_35 : DK cB12 35 (.goto (-17)) 3 := by decide +kernel
theorem own_off0 {x : Int32} : x + Int32.ofNat 0 = x := Int32.add_zero x
theorem own_offS {x : Int32} {j : Nat} : (x + Int32.ofNat (j + 1)) + (-1 : Int32) = x + Int32.ofNat j := by rw [Int32.ofNat_add, ← Int32.add_assoc, Int32.add_assoc, show (Int32.ofNat 1 + (-1 : Int32)) = 0 from rfl, Int32.add_zero]
theorem d12_38 : DK cB12 38 (.iconst (-1)) 1 := by decide +kernel
theorem d12_39 : DK cB12 39 (.ireturn) 1 := by decide +kernel
def Q12_1 (Z : State) (r0 : Addr) (x1 x2 : Int32) (c3 : ClassId) (t4 : List Value) (w5 : Nat) (x6 : Int32) (h0 : Heap) (n0 : Nat) (v : Option Value) (h : Heap) (L : List Loc) : Prop := v = some (.int (-1 : Int32)) ∧ Fr n0 L ∧ h = h0
theorem rm12_1 (l : Launch) (Z : State) (a0 : Array Value) (hw : own_HW a0 Z) (ws : List Jvm.Cond) (r0 : Addr) (x1 x2 : Int32) (c3 : ClassId) (t4 : List Value) (w5 : Nat) (x6 : Int32) (h0 : Heap) (n0 : Nat) (O0 : Old Z n0 h0) (f2 : Arv Z h0 r0 c3 .byte x2 t4 vI0) (hc4 : ¬ ((x2 - (1 : Int32)) < x1)) (hc6 : x1 = (x6 + Int32.ofNat w5)) (hT8 : ∀ j : Nat, j < w5 → (¬ ((x6 + Int32.ofNat (j + 1)) < (0 : Int32))) ∧ (t4.getD ((x6 + Int32.ofNat (j + 1))).toNatClampNeg vI0 = (.int (own_at t4 ((x6 + Int32.ofNat (j + 1))).toNatClampNeg))) ∧ (¬ ((x6 + Int32.ofNat (j + 1)) < (0 : Int32))) ∧ ((x6 + Int32.ofNat (j + 1)) < x2) ∧ (¬ ((x6 + Int32.ofNat (j + 1)) < (0 : Int32))) ∧ ((x6 + Int32.ofNat (j + 1)) < x2) ∧ (¬ ((own_at t4 ((x6 + Int32.ofNat (j + 1))).toNatClampNeg) = (47 : Int32)))) (hc10 : x6 < (0 : Int32)) :
    own_MF l mN9 jdk_43_method_27_code 4 (some .int) ws rR1_0_0_13 Z h0 #[(.ref r0), vI47, (.int x1)] (Q12_1 Z r0 x1 x2 c3 t4 w5 x6 h0 n0) := by
  refine own_open (plainFor_of_name pn_java_lang_StringLatin1) (L0 := #[lR r0, lV vI47, lI x1, lU]) (fun _ => by first | (simp [entryFrame, mkF, argsToLocals, Value.category]; done) | rfl) ?_
  intro p e s m below meth c s₁ hx hby hml hret hnn hZ hown X0 e0
  have N0 := Fr.nil n0; have w := @ww Z a0 hw
  obtain ⟨_, T1, Lc1, X1, hQ1, st1⟩ := own_cS X0 hx hZ hown e0 (rm13_1 l Z a0 hw [] h0 n0 O0) (w 64 rfl) (w 65 rfl) (w 62 rfl) (w 66 rfl) (by decide) (W := 0) (by decide) (by decide) (by decide) (by decide) (g := (mkF m 1 #[lR r0, lV vI47, lI x1, lU] [vI47])) rfl (by rw [hml]; rfl) (argsL := [vI47]) (rest := []) (lenOf pd__I_Z rfl) rfl (own_W rfl) (hb hby d12_1)
  obtain ⟨rfl, N1q, E1⟩ := hQ1
  have N1 := Fr.app N0 N1q
  obtain ⟨clq3, Arq3, qq3, Sq3, Nq3, Hq3, Gq3⟩ := id f2
  obtain ⟨_, T5, Lc5, X5, hQ5, st5⟩ := own_cS X1 hx hZ hown E1 (rm14_1 l Z a0 hw [] x1 (x2 - (1 : Int32)) h0 n0 O0 hc4) (w 67 rfl) (w 68 rfl) (w 69 rfl) (w 70 rfl) (by decide) (W := 0) (by decide) (by decide) (by decide) (by decide) (g := (mkF m 14 #[lR r0, lV vI47, lI x1, lU] [(.int (x2 - (1 : Int32))), (.int x1)])) rfl (by rw [hml]; rfl) (argsL := [(.int x1), (.int (x2 - (1 : Int32)))]) (rest := []) (lenOf pd__II_I rfl) rfl (own_W rfl) (hb hby d12_14)
  obtain ⟨rfl, N5q, E5⟩ := hQ5
  have N5 := Fr.app N1 N5q
  obtain ⟨clq7, Arq7, qq7, Sq7, Nq7, Hq7, Gq7⟩ := id f2
  have tn9 : ∀ j : Nat, j ≤ w5 → ∀ t, Steps p.tables e below (T5.setTop (mkF m 18 #[lR r0, lV vI47, .val (.int (x6 + Int32.ofNat w5)), lI x6] [])) t → Steps p.tables e below (T5.setTop (mkF m 18 #[lR r0, lV vI47, .val (.int (x6 + Int32.ofNat w5)), .val (.int (x6 + Int32.ofNat j))] [])) t := by
    intro j
    induction j with
    | zero => intro _ t kk; rw [own_off0]; exact kk
    | succ j ih =>
      intro hj t kk
      obtain ⟨tc0, tc1, tc2, tc3, tc4, tc5, tc6⟩ := hT8 j hj
      show SG p e below T5 (mkF m 18 #[lR r0, lV vI47, .val (.int (x6 + Int32.ofNat w5)), .val (.int (x6 + Int32.ofNat (j + 1)))] []) _
      refine qiN X5 hx hby d12_18 ?_
      refine XS.ifNo X5.here hx rfl (hb hby d12_19) rfl ((if0 _ _).trans (flt tc0).1) ?_
      refine qaN X5 hx hby d12_22 ?_
      refine qiN X5 hx hby d12_23 ?_
      refine X5.baloadBytes hx (j := (x6 + Int32.ofNat (j + 1))) (v := (.int (own_at t4 ((x6 + Int32.ofNat (j + 1))).toNatClampNeg))) (by rw [E5]; exact Arq7.1) (State.isArrayOf_alike hZ.alike Arq7.2.1) Arq7.2.2 (inb_of Sq7 ⟨tc2, tc3⟩) (Has.at Hq7 (inb_of Sq7 ⟨tc4, tc5⟩) tc1) (g := (mkF m 24 #[lR r0, lV vI47, .val (.int (x6 + Int32.ofNat w5)), .val (.int (x6 + Int32.ofNat (j + 1)))] [(.int (x6 + Int32.ofNat (j + 1))), (.ref r0)])) rfl rfl (hb hby d12_24) _ ?_
      show SG p e below T5 (mkF m 25 #[lR r0, lV vI47, .val (.int (x6 + Int32.ofNat w5)), .val (.int (x6 + Int32.ofNat (j + 1)))] [(.int (own_at t4 ((x6 + Int32.ofNat (j + 1))).toNatClampNeg))]) _
      refine qiN X5 hx hby d12_25 ?_
      refine XS.i2b X5.here hx rfl (hb hby d12_26) rfl ?_
      refine XS.icmpYes X5.here hx rfl (pc0 := 27) (pc' := 32) rfl (hb hby d12_27) rfl (feq tc6).2 (by decide) (by decide) ?_
      show SG p e below T5 (mkF m 32 #[lR r0, lV vI47, .val (.int (x6 + Int32.ofNat w5)), .val (.int (x6 + Int32.ofNat (j + 1)))] []) _
      refine XS.iinc X5.here hx rfl (hb hby d12_32) rfl (l' := #[lR r0, lV vI47, .val (.int (x6 + Int32.ofNat w5)), .val (.int ((x6 + Int32.ofNat (j + 1)) + (-1 : Int32)))]) rfl ?_
      refine XS.goto X5.here hx rfl (pc0 := 35) (pc' := 18) rfl (hb hby d12_35) (by decide) (by decide) ?_
      show SG p e below T5 (mkF m 18 #[lR r0, lV vI47, .val (.int (x6 + Int32.ofNat w5)), .val (.int ((x6 + Int32.ofNat (j + 1)) + (-1 : Int32)))] []) _
      rw [own_offS]
      exact ih (Nat.le_of_succ_le hj) t kk
  refine ⟨some (.int (-1 : Int32)), _, _, _, _, nofun, X5, by decide, by decide, ?_, fun fs hr => ?_⟩
  · rw [E5]; exact ⟨rfl, N5, rfl⟩
  · show SG p e below s₁ (mkF m 0 #[lR r0, lV vI47, lI x1, lU] []) _
    refine qiN X0 hx hby d12_0 ?_
    refine st1 _ ?_
    show SG p e below T1 (mkF m 4 #[lR r0, lV vI47, lI x1, lU] [vI1]) _
    refine XS.ifYes X1.here hx rfl (pc0 := 4) (pc' := 9) rfl (hb hby d12_4) rfl ((if0 _ _).trans (feq (by decide : ¬ ((1 : Int32) = (0 : Int32)))).2) (by decide) (by decide) ?_
    show SG p e below T1 (mkF m 9 #[lR r0, lV vI47, lI x1, lU] []) _
    refine qiN X1 hx hby d12_9 ?_
    refine qaN X1 hx hby d12_10 ?_
    refine X1.arraylength hx (by rw [E1]; exact Arq3.1) (State.isArrayOf_alike hZ.alike Arq3.2.1) (g := (mkF m 11 #[lR r0, lV vI47, lI x1, lU] [(.ref r0), (.int x1)])) rfl rfl (hb hby d12_11) _ ?_
    rw [len_of Sq3 Nq3]
    show SG p e below T1 (mkF m 12 #[lR r0, lV vI47, lI x1, lU] [(.int x2), (.int x1)]) _
    refine qc X1 hx hby d12_12 ?_
    refine XS.isub X1.here hx rfl (hb hby d12_13) rfl ?_
    refine st5 _ ?_
    show SG p e below T5 (mkF m 17 #[lR r0, lV vI47, lI x1, lU] [(.int x1)]) _
    refine XS.istoreN X5.here hx rfl (hb hby d12_17) rfl (l' := #[lR r0, lV vI47, lI x1, lI x1]) rfl ?_
    show SG p e below T5 (mkF m 18 #[lR r0, lV vI47, lI x1, lI x1] []) _
    rw [hc6]
    refine tn9 w5 (Nat.le_refl _) _ ?_
    show SG p e below T5 (mkF m 18 #[lR r0, lV vI47, .val (.int (x6 + Int32.ofNat w5)), lI x6] []) _
    refine qiN X5 hx hby d12_18 ?_
    refine XS.ifYes X5.here hx rfl (pc0 := 19) (pc' := 38) rfl (hb hby d12_19) rfl ((if0 _ _).trans (tlt hc10).1) (by decide) (by decide) ?_
    show SG p e below T5 (mkF m 38 #[lR r0, lV vI47, .val (.int (x6 + Int32.ofNat w5)), lI x6] []) _
    refine qc X5 hx hby d12_38 ?_
    exact retOut X5 hx (i := .ireturn) hret rfl (Or.inl ⟨rfl, Or.inl rfl, _, rfl⟩) (hb hby d12_39) hr
theorem pd___BII_I : parseMethodDescriptor "([BII)I" = some ⟨[(.array .byte), .int, .int], some .int⟩ := by decide +kernel
theorem d10_16 : DK cB10 16 (.goto 12) 3 := by decide +kernel
theorem d10_28 : DK cB10 28 (.ireturn) 1 := by decide +kernel
def Q10_1 (Z : State) (r0 : Addr) (x1 x2 x3 : Int32) (r4 : Addr) (x5 : Int32) (c6 : ClassId) (t7 : List Value) (w8 : Nat) (x9 : Int32) (h0 : Heap) (n0 : Nat) (v : Option Value) (h : Heap) (L : List Loc) : Prop := v = some (.int (-1 : Int32)) ∧ Fr n0 L ∧ h = h0
theorem rm10_1 (l : Launch) (Z : State) (a0 : Array Value) (hw : own_HW a0 Z) (ws : List Jvm.Cond) (r0 : Addr) (x1 x2 x3 : Int32) (r4 : Addr) (x5 : Int32) (c6 : ClassId) (t7 : List Value) (w8 : Nat) (x9 : Int32) (h0 : Heap) (n0 : Nat) (O0 : Old Z n0 h0) (f1 : Exa Z h0 r0 "java/lang/String") (f2 : Sta Z Z.heap "java/lang/String" "COMPACT_STRINGS" "Z" (.int x2)) (hc3 : ¬ (x2 = (0 : Int32))) (f4 : Fld Z h0 r0 "java/lang/String" "coder" "B" (.int x3)) (hc5 : x3 = (0 : Int32)) (f7 : Fld Z h0 r0 "java/lang/String" "value" "[B" (.ref r4)) (f9 : Arv Z h0 r4 c6 .byte x5 t7 vI0) (hc10 : ¬ ((x5 - (1 : Int32)) < x1)) (hc11 : x1 = (x9 + Int32.ofNat w8)) (hT12 : ∀ j : Nat, j < w8 → (¬ ((x9 + Int32.ofNat (j + 1)) < (0 : Int32))) ∧ (t7.getD ((x9 + Int32.ofNat (j + 1))).toNatClampNeg vI0 = (.int (own_at t7 ((x9 + Int32.ofNat (j + 1))).toNatClampNeg))) ∧ (¬ ((x9 + Int32.ofNat (j + 1)) < (0 : Int32))) ∧ ((x9 + Int32.ofNat (j + 1)) < x5) ∧ (¬ ((x9 + Int32.ofNat (j + 1)) < (0 : Int32))) ∧ ((x9 + Int32.ofNat (j + 1)) < x5) ∧ (¬ ((own_at t7 ((x9 + Int32.ofNat (j + 1))).toNatClampNeg) = (47 : Int32)))) (hc13 : x9 < (0 : Int32)) :
    own_MF l mN10 jdk_42_method_83_code 3 (some .int) ws rR2_0_0_28 Z h0 #[(.ref r0), vI47, (.int x1)] (Q10_1 Z r0 x1 x2 x3 r4 x5 c6 t7 w8 x9 h0 n0) := by
  refine own_open (plainFor_of_name pn_java_lang_String) (L0 := #[lR r0, lV vI47, lI x1]) (fun _ => by first | (simp [entryFrame, mkF, argsToLocals, Value.category]; done) | rfl) ?_
  intro p e s m below meth c s₁ hx hby hml hret hnn hZ hown X0 e0
  have N0 := Fr.nil n0; have w := @ww Z a0 hw
  obtain ⟨_, T6, Lc6, X6, hQ6, st6⟩ := own_cV X0 hx hZ hown e0 (rm11_1 l Z a0 hw [] r0 x2 x3 h0 n0 O0 f2 hc3 f4 hc5) f1 (w 55 rfl) (w 56 rfl) (w 58 rfl) (w 57 rfl) (w 59 rfl) (w 10 rfl) (by decide) (W := 0) (by decide) (by decide) (by decide) (by decide) (g := (mkF m 1 #[lR r0, lV vI47, lI x1] [(.ref r0)])) rfl (by rw [hml]; rfl) (argsL := []) (rest := []) (lenOf pd___Z rfl) rfl (own_W rfl) (hb hby d10_1)
  obtain ⟨rfl, N6q, E6⟩ := hQ6
  have N6 := Fr.app N0 N6q
  obtain ⟨T8, X8, e8, st8⟩ := getF X6 hx hZ hown (host := "") (Or.inl (w 28 rfl)) Via.refl E6 f7 (g := (mkF m 8 #[lR r0, lV vI47, lI x1] [(.ref r0)])) rfl rfl (hb hby d10_8)
  obtain ⟨_, T14, Lc14, X14, hQ14, st14⟩ := own_cS X8 hx hZ hown e8 (rm12_1 l Z a0 hw [] r4 x1 x5 c6 t7 w8 x9 h0 n0 O0 f9 hc10 hc11 hT12 hc13) (w 60 rfl) (w 61 rfl) (w 62 rfl) (w 63 rfl) (by decide) (W := 0) (by decide) (by decide) (by decide) (by decide) (g := (mkF m 13 #[lR r0, lV vI47, lI x1] [(.int x1), vI47, (.ref r4)])) rfl (by rw [hml]; rfl) (argsL := [(.ref r4), vI47, (.int x1)]) (rest := []) (lenOf pd___BII_I rfl) rfl (own_W rfl) (hb hby d10_13)
  obtain ⟨rfl, N14q, E14⟩ := hQ14
  have N14 := Fr.app N6 N14q
  refine ⟨some (.int (-1 : Int32)), _, _, _, _, nofun, X14, by decide, by decide, ?_, fun fs hr => ?_⟩
  · rw [E14]; exact ⟨rfl, N14, rfl⟩
  · show SG p e below s₁ (mkF m 0 #[lR r0, lV vI47, lI x1] []) _
    refine qaN X0 hx hby d10_0 ?_
    refine st6 _ ?_
    show SG p e below T6 (mkF m 4 #[lR r0, lV vI47, lI x1] [vI1]) _
    refine XS.ifNo X6.here hx rfl (hb hby d10_4) rfl ((if0 _ _).trans (feq (by decide : ¬ ((1 : Int32) = (0 : Int32)))).1) ?_
    refine qaN X6 hx hby d10_7 ?_
    refine st8 _ ?_
    show SG p e below T8 (mkF m 11 #[lR r0, lV vI47, lI x1] [(.ref r4)]) _
    refine qiN X8 hx hby d10_11 ?_
    refine qiN X8 hx hby d10_12 ?_
    refine st14 _ ?_
    show SG p e below T14 (mkF m 16 #[lR r0, lV vI47, lI x1] [(.int (-1 : Int32))]) _
    refine XS.goto X14.here hx rfl (pc0 := 16) (pc' := 28) rfl (hb hby d10_16) (by decide) (by decide) ?_
    show SG p e below T14 (mkF m 28 #[lR r0, lV vI47, lI x1] [(.int (-1 : Int32))]) _
    exact retOut X14 hx (i := .ireturn) hret rfl (Or.inl ⟨rfl, Or.inl rfl, _, rfl⟩) (hb hby d10_28) hr
theorem d7_11 : DK cB7 11 (.ireturn) 1 := by decide +kernel
def Q7_1 (Z : State) (r0 r1 : Addr) (x2 : Int32) (c3 : ClassId) (t4 : List Value) (x5 x6 : Int32) (w7 : Nat) (x8 : Int32) (h0 : Heap) (n0 : Nat) (v : Option Value) (h : Heap) (L : List Loc) : Prop := v = some (.int (-1 : Int32)) ∧ Fr n0 L ∧ h = h0
theorem rm7_1 (l : Launch) (Z : State) (a0 : Array Value) (hw : own_HW a0 Z) (ws : List Jvm.Cond) (r0 r1 : Addr) (x2 : Int32) (c3 : ClassId) (t4 : List Value) (x5 x6 : Int32) (w7 : Nat) (x8 : Int32) (h0 : Heap) (n0 : Nat) (O0 : Old Z n0 h0) (f1 : Exa Z h0 r0 "java/lang/String") (f2 : Fld Z h0 r0 "java/lang/String" "value" "[B" (.ref r1)) (f3 : Arv Z h0 r1 c3 .byte x2 t4 vI0) (f4 : Sta Z Z.heap "java/lang/String" "COMPACT_STRINGS" "Z" (.int x5)) (hc5 : ¬ (x5 = (0 : Int32))) (f6 : Fld Z h0 r0 "java/lang/String" "coder" "B" (.int x6)) (hc8 : x6 = (0 : Int32)) (hc9 : ¬ ((x2 - (1 : Int32)) < ((x2 >>> ((nar .byte x6) &&& 31)) - (1 : Int32)))) (hc10 : ((x2 >>> ((nar .byte x6) &&& 31)) - (1 : Int32)) = (x8 + Int32.ofNat w7)) (hT11 : ∀ j : Nat, j < w7 → (¬ ((x8 + Int32.ofNat (j + 1)) < (0 : Int32))) ∧ (t4.getD ((x8 + Int32.ofNat (j + 1))).toNatClampNeg vI0 = (.int (own_at t4 ((x8 + Int32.ofNat (j + 1))).toNatClampNeg))) ∧ (¬ ((x8 + Int32.ofNat (j + 1)) < (0 : Int32))) ∧ ((x8 + Int32.ofNat (j + 1)) < x2) ∧ (¬ ((x8 + Int32.ofNat (j + 1)) < (0 : Int32))) ∧ ((x8 + Int32.ofNat (j + 1)) < x2) ∧ (¬ ((own_at t4 ((x8 + Int32.ofNat (j + 1))).toNatClampNeg) = (47 : Int32)))) (hc12 : x8 < (0 : Int32)) :
    own_MF l mN11 jdk_42_method_82_code 2 (some .int) ws rR3_0_0_42 Z h0 #[(.ref r0), vI47] (Q7_1 Z r0 r1 x2 c3 t4 x5 x6 w7 x8 h0 n0) := by
  refine own_open (plainFor_of_name pn_java_lang_String) (L0 := #[lR r0, lV vI47]) (fun _ => by first | (simp [entryFrame, mkF, argsToLocals, Value.category]; done) | rfl) ?_
  intro p e s m below meth c s₁ hx hby hml hret hnn hZ hown X0 e0
  have N0 := Fr.nil n0; have w := @ww Z a0 hw
  obtain ⟨_, T7, Lc7, X7, hQ7, st7⟩ := own_cV X0 hx hZ hown e0 (rm8_1 l Z a0 hw [] r0 r1 x2 c3 t4 x5 x6 h0 n0 O0 f2 f3 f1 f4 hc5 f6) f1 (w 39 rfl) (w 40 rfl) (w 42 rfl) (w 41 rfl) (w 43 rfl) (w 10 rfl) (by decide) (W := 2) (by decide) (by decide) (by decide) (by decide) (g := (mkF m 3 #[lR r0, lV vI47] [(.ref r0), vI47, (.ref r0)])) rfl (by rw [hml]; rfl) (argsL := []) (rest := [vI47, (.ref r0)]) (lenOf pd___I rfl) rfl (own_W rfl) (hb hby d7_3)
  obtain ⟨rfl, N7q, E7⟩ := hQ7
  have N7 := Fr.app N0 N7q
  obtain ⟨_, T13, Lc13, X13, hQ13, st13⟩ := own_cV X7 hx hZ hown E7 (rm10_1 l Z a0 hw [] r0 ((x2 >>> ((nar .byte x6) &&& 31)) - (1 : Int32)) x5 x6 r1 x2 c3 t4 w7 x8 h0 n0 O0 f1 f4 hc5 f6 hc8 f2 f3 hc9 hc10 hT11 hc12) f1 (w 50 rfl) (w 51 rfl) (w 53 rfl) (w 52 rfl) (w 54 rfl) (w 10 rfl) (by decide) (W := 0) (by decide) (by decide) (by decide) (by decide) (g := (mkF m 8 #[lR r0, lV vI47] [(.int ((x2 >>> ((nar .byte x6) &&& 31)) - (1 : Int32))), vI47, (.ref r0)])) rfl (by rw [hml]; rfl) (argsL := [vI47, (.int ((x2 >>> ((nar .byte x6) &&& 31)) - (1 : Int32)))]) (rest := []) (lenOf pd__II_I rfl) rfl (own_W rfl) (hb hby d7_8)
  obtain ⟨rfl, N13q, E13⟩ := hQ13
  have N13 := Fr.app N7 N13q
  refine ⟨some (.int (-1 : Int32)), _, _, _, _, nofun, X13, by decide, by decide, ?_, fun fs hr => ?_⟩
  · rw [E13]; exact ⟨rfl, N13, rfl⟩
  · show SG p e below s₁ (mkF m 0 #[lR r0, lV vI47] []) _
    refine qaN X0 hx hby d7_0 ?_
    refine qiN X0 hx hby d7_1 ?_
    refine qaN X0 hx hby d7_2 ?_
    refine st7 _ ?_
    show SG p e below T7 (mkF m 6 #[lR r0, lV vI47] [(.int (x2 >>> ((nar .byte x6) &&& 31))), vI47, (.ref r0)]) _
    refine qc X7 hx hby d7_6 ?_
    refine XS.isub X7.here hx rfl (hb hby d7_7) rfl ?_
    refine st13 _ ?_
    show SG p e below T13 (mkF m 11 #[lR r0, lV vI47] [(.int (-1 : Int32))]) _
    exact retOut X13 hx (i := .ireturn) hret rfl (Or.inl ⟨rfl, Or.inl rfl, _, rfl⟩) (hb hby d7_11) hr
theorem pd__I_I : parseMethodDescriptor "(I)I" = some ⟨[.int], some .int⟩ := by decide +kernel
theorem d6_6 : DK cB6 6 (.istore_n 1) 1 := by decide +kernel
theorem d6_7 : DK cB6 7 (.iload_n 1) 1 := by decide +kernel
theorem d6_8 : DK cB6 8 (.ifCond .le 12) 3 := by decide +kernel
theorem d6_20 : DK cB6 20 (.aconst_null) 1 := by decide +kernel
theorem d6_21 : DK cB6 21 (.areturn) 1 := by decide +kernel
theorem pn_com_example_nearmiss_nearmiss_Element : plainName cs2 = true := by first | (simp [plainName, overriddenIn]; done) | decide +kernel
def Q6_1 (Z : State) (r0 r1 : Addr) (x2 : Int32) (c3 : ClassId) (t4 : List Value) (x5 x6 : Int32) (w7 : Nat) (x8 : Int32) (h0 : Heap) (n0 : Nat) (v : Option Value) (h : Heap) (L : List Loc) : Prop := v = some .null ∧ Fr n0 L ∧ h = h0
theorem rm6_1 (l : Launch) (Z : State) (a0 : Array Value) (hw : own_HW a0 Z) (ws : List Jvm.Cond) (r0 r1 : Addr) (x2 : Int32) (c3 : ClassId) (t4 : List Value) (x5 x6 : Int32) (w7 : Nat) (x8 : Int32) (h0 : Heap) (n0 : Nat) (O0 : Old Z n0 h0) (f1 : Exa Z h0 r0 "java/lang/String") (f2 : Fld Z h0 r0 "java/lang/String" "value" "[B" (.ref r1)) (f3 : Arv Z h0 r1 c3 .byte x2 t4 vI0) (f4 : Sta Z Z.heap "java/lang/String" "COMPACT_STRINGS" "Z" (.int x5)) (hc5 : ¬ (x5 = (0 : Int32))) (f6 : Fld Z h0 r0 "java/lang/String" "coder" "B" (.int x6)) (hc7 : x6 = (0 : Int32)) (hc8 : ¬ ((x2 - (1 : Int32)) < ((x2 >>> ((nar .byte x6) &&& 31)) - (1 : Int32)))) (hc9 : ((x2 >>> ((nar .byte x6) &&& 31)) - (1 : Int32)) = (x8 + Int32.ofNat w7)) (hT10 : ∀ j : Nat, j < w7 → (¬ ((x8 + Int32.ofNat (j + 1)) < (0 : Int32))) ∧ (t4.getD ((x8 + Int32.ofNat (j + 1))).toNatClampNeg vI0 = (.int (own_at t4 ((x8 + Int32.ofNat (j + 1))).toNatClampNeg))) ∧ (¬ ((x8 + Int32.ofNat (j + 1)) < (0 : Int32))) ∧ ((x8 + Int32.ofNat (j + 1)) < x2) ∧ (¬ ((x8 + Int32.ofNat (j + 1)) < (0 : Int32))) ∧ ((x8 + Int32.ofNat (j + 1)) < x2) ∧ (¬ ((own_at t4 ((x8 + Int32.ofNat (j + 1))).toNatClampNeg) = (47 : Int32)))) (hc11 : x8 < (0 : Int32)) :
    own_MF l mN12 prog_6_method_4_code 2 (some (.object "java/lang/String")) ws rR4_0_0_55 Z h0 #[(.ref r0)] (Q6_1 Z r0 r1 x2 c3 t4 x5 x6 w7 x8 h0 n0) := by
  refine own_open (plainFor_of_name pn_com_example_nearmiss_nearmiss_Element) (L0 := #[lR r0, lU]) (fun _ => by first | (simp [entryFrame, mkF, argsToLocals, Value.category]; done) | rfl) ?_
  intro p e s m below meth c s₁ hx hby hml hret hnn hZ hown X0 e0
  have N0 := Fr.nil n0; have w := @ww Z a0 hw
  obtain ⟨_, T12, Lc12, X12, hQ12, st12⟩ := own_cV X0 hx hZ hown e0 (rm7_1 l Z a0 hw [] r0 r1 x2 c3 t4 x5 x6 w7 x8 h0 n0 O0 f1 f2 f3 f4 hc5 f6 hc7 hc8 hc9 hT10 hc11) f1 (w 34 rfl) (w 35 rfl) (w 37 rfl) (w 36 rfl) (w 38 rfl) (w 10 rfl) (by decide) (W := 0) (by decide) (by decide) (by decide) (by decide) (g := (mkF m 3 #[lR r0, lU] [vI47, (.ref r0)])) rfl (by rw [hml]; rfl) (argsL := [vI47]) (rest := []) (lenOf pd__I_I rfl) rfl (own_W rfl) (hb hby d6_3)
  obtain ⟨rfl, N12q, E12⟩ := hQ12
  have N12 := Fr.app N0 N12q
  refine ⟨some .null, _, _, _, _, nofun, X12, by decide, by decide, ?_, fun fs hr => ?_⟩
  · rw [E12]; exact ⟨rfl, N12, rfl⟩
  · show SG p e below s₁ (mkF m 0 #[lR r0, lU] []) _
    refine qaN X0 hx hby d6_0 ?_
    refine qb X0 hx hby d6_1 ?_
    refine st12 _ ?_
    show SG p e below T12 (mkF m 6 #[lR r0, lU] [(.int (-1 : Int32))]) _
    refine XS.istoreN X12.here hx rfl (hb hby d6_6) rfl (l' := #[lR r0, .val (.int (-1 : Int32))]) rfl ?_
    refine qiN X12 hx hby d6_7 ?_
    refine XS.ifYes X12.here hx rfl (pc0 := 8) (pc' := 20) rfl (hb hby d6_8) rfl ((if0 _ _).trans (flt (by decide : ¬ ((0 : Int32) < (-1 : Int32)))).2.2.2) (by decide) (by decide) ?_
    show SG p e below T12 (mkF m 20 #[lR r0, .val (.int (-1 : Int32))] []) _
    refine XS.aconstNull X12.here hx rfl (hb hby d6_20) ?_
    exact retOut X12 hx (i := .areturn) hret rfl (Or.inr (Or.inr (Or.inr (Or.inr ⟨rfl, rfl, rfl⟩)))) (hb hby d6_21) hr
theorem pd__Ljava_lang_String__Ljava_lang_String_ : parseMethodDescriptor cs3 = some ⟨[(.object "java/lang/String")], some (.object "java/lang/String")⟩ := by decide +kernel
def Q0_1 (Z : State) (x0 x1 : Int32) (x2 x3 : Int32) (x4 x5 : Int32) (x6 x7 : Int32) (x8 x9 : Int32) (x10 x11 : Int32) (h0 : Heap) (n0 : Nat) (v : Option Value) (h : Heap) (L : List Loc) : Prop := v = some vI1 ∧ Fr n0 L
theorem rm0_1 (l : Launch) (Z : State) (a0 : Array Value) (hw : own_HW a0 Z) (ws : List Jvm.Cond) (x0 x1 : Int32) (x2 x3 : Int32) (x4 x5 : Int32) (x6 x7 : Int32) (x8 x9 : Int32) (x10 x11 : Int32) (h0 : Heap) (n0 : Nat) (O0 : Old Z n0 h0) (hc2 : ((x0 &&& (2147483647 : Int32)) % (6 : Int32)) = (0 : Int32)) (hq4 : (nar .char (if (x1 &&& (1 : Int32)) = (0 : Int32) then ((((x1.toUInt32 >>> ((1 : Int32) &&& 31).toUInt32).toInt32) &&& (255 : Int32)).toUInt32.toUInt16.toUInt32.toInt32) else (47 : Int32))) = x6) (hq6 : (nar .char (if (x2 &&& (1 : Int32)) = (0 : Int32) then ((((x2.toUInt32 >>> ((1 : Int32) &&& 31).toUInt32).toInt32) &&& (255 : Int32)).toUInt32.toUInt16.toUInt32.toInt32) else (47 : Int32))) = x7) (hq8 : (nar .char (if (x3 &&& (1 : Int32)) = (0 : Int32) then ((((x3.toUInt32 >>> ((1 : Int32) &&& 31).toUInt32).toInt32) &&& (255 : Int32)).toUInt32.toUInt16.toUInt32.toInt32) else (47 : Int32))) = x8) (hq10 : (nar .char (if (x4 &&& (1 : Int32)) = (0 : Int32) then ((((x4.toUInt32 >>> ((1 : Int32) &&& 31).toUInt32).toInt32) &&& (255 : Int32)).toUInt32.toUInt16.toUInt32.toInt32) else (47 : Int32))) = x9) (hq12 : (nar .char (if (x5 &&& (1 : Int32)) = (0 : Int32) then ((((x5.toUInt32 >>> ((1 : Int32) &&& 31).toUInt32).toInt32) &&& (255 : Int32)).toUInt32.toUInt16.toUInt32.toInt32) else (47 : Int32))) = x10) (f21 : Sta Z Z.heap "java/lang/String" "COMPACT_STRINGS" "Z" (.int x11)) (hc22 : ¬ (x11 = (0 : Int32))) :
    own_MH l x code maxLocals ret ws room_1 Z h0 #[(.int x0), (.int x1), (.int x2), (.int x3), (.int x4), (.int x5)] (Q0_1 Z x0 x1 x2 x3 x4 x5 x6 x7 x8 x9 x10 x11 h0 n0) := by
  have hEL : EW Z a0 consts_1 := own_EW hw
  refine own_openH hEL (plainFor_of_name pn_com_example_nearmiss_nearmiss_ElementParentPathPinLaw) (L0 := #[lI x0, lI x1, lI x2, lI x3, lI x4, lI x5, lU, lU, lU, lU, lU, lU, lU, lU, lU, lU]) (fun _ => by first | (simp [entryFrame, mkF, argsToLocals, Value.category, maxLocals]; done) | rfl) ?_
  intro p e s m below meth c s₁ hx hby hml hret hnn hZ hown X0 e0 R0
  have N0 := Fr.nil n0; have w := @ww Z a0 hw
  have hS1 := (State.WarmedH.refl s).since 0
  obtain ⟨_, T3, Lc3, X3, hQ3, st3⟩ := own_cS X0 hx hZ hown e0 (rm1_1 l Z a0 hw [] x1 h0 n0 O0) (w 1 rfl) (w 2 rfl) (w 3 rfl) (w 4 rfl) (by decide) (W := 0) (by decide) (by decide) (by decide) (by decide) (g := (mkF m 10 #[lI x0, lI x1, lI x2, lI x3, lI x4, lI x5, lV vI0, lU, lU, lU, lU, lU, lU, lU, lU, lU] [(.int x1)])) rfl (by rw [hml]; rfl) (argsL := [(.int x1)]) (rest := []) (lenOf pd__I_C rfl) rfl (own_W rfl) (hb hby at_10)
  obtain ⟨rfl, N3q, E3⟩ := hQ3
  have N3 := Fr.app N0 N3q
  obtain ⟨_, T5, Lc5, X5, hQ5, st5⟩ := own_cS X3 hx hZ hown E3 (rm1_1 l Z a0 hw [] x2 h0 n0 O0) (w 1 rfl) (w 2 rfl) (w 3 rfl) (w 4 rfl) (by decide) (W := 0) (by decide) (by decide) (by decide) (by decide) (g := (mkF m 16 #[lI x0, lI x1, lI x2, lI x3, lI x4, lI x5, lV vI0, lI x6, lU, lU, lU, lU, lU, lU, lU, lU] [(.int x2)])) rfl (by rw [hml]; rfl) (argsL := [(.int x2)]) (rest := []) (lenOf pd__I_C rfl) rfl (own_W rfl) (hb hby at_16)
  obtain ⟨rfl, N5q, E5⟩ := hQ5
  have N5 := Fr.app N3 N5q
  obtain ⟨_, T7, Lc7, X7, hQ7, st7⟩ := own_cS X5 hx hZ hown E5 (rm1_1 l Z a0 hw [] x3 h0 n0 O0) (w 1 rfl) (w 2 rfl) (w 3 rfl) (w 4 rfl) (by decide) (W := 0) (by decide) (by decide) (by decide) (by decide) (g := (mkF m 22 #[lI x0, lI x1, lI x2, lI x3, lI x4, lI x5, lV vI0, lI x6, lI x7, lU, lU, lU, lU, lU, lU, lU] [(.int x3)])) rfl (by rw [hml]; rfl) (argsL := [(.int x3)]) (rest := []) (lenOf pd__I_C rfl) rfl (own_W rfl) (hb hby at_22)
  obtain ⟨rfl, N7q, E7⟩ := hQ7
  have N7 := Fr.app N5 N7q
  obtain ⟨_, T9, Lc9, X9, hQ9, st9⟩ := own_cS X7 hx hZ hown E7 (rm1_1 l Z a0 hw [] x4 h0 n0 O0) (w 1 rfl) (w 2 rfl) (w 3 rfl) (w 4 rfl) (by decide) (W := 0) (by decide) (by decide) (by decide) (by decide) (g := (mkF m 29 #[lI x0, lI x1, lI x2, lI x3, lI x4, lI x5, lV vI0, lI x6, lI x7, lI x8, lU, lU, lU, lU, lU, lU] [(.int x4)])) rfl (by rw [hml]; rfl) (argsL := [(.int x4)]) (rest := []) (lenOf pd__I_C rfl) rfl (own_W rfl) (hb hby at_29)
  obtain ⟨rfl, N9q, E9⟩ := hQ9
  have N9 := Fr.app N7 N9q
  obtain ⟨_, T11, Lc11, X11, hQ11, st11⟩ := own_cS X9 hx hZ hown E9 (rm1_1 l Z a0 hw [] x5 h0 n0 O0) (w 1 rfl) (w 2 rfl) (w 3 rfl) (w 4 rfl) (by decide) (W := 0) (by decide) (by decide) (by decide) (by decide) (g := (mkF m 36 #[lI x0, lI x1, lI x2, lI x3, lI x4, lI x5, lV vI0, lI x6, lI x7, lI x8, lI x9, lU, lU, lU, lU, lU] [(.int x5)])) rfl (by rw [hml]; rfl) (argsL := [(.int x5)]) (rest := []) (lenOf pd__I_C rfl) rfl (own_W rfl) (hb hby at_36)
  obtain ⟨rfl, N11q, E11⟩ := hQ11
  have N11 := Fr.app N9 N11q
  obtain ⟨_, _, ⟨T13, L13, k13, n13⟩, -, X13, hs13, hg13, ⟨Lc13, hQ13, l13, y13, z13, cr13⟩, st13⟩ := callSS X11 hx (y := mN3) hown (mvT hZ (w 5 rfl)) (mvT hZ (w 6 rfl)) (mvT hZ (w 3 rfl)) (mvT hZ (w 7 rfl)) (by decide) (backOfSH (s := s) (vm0 := s.vm) (W := 0) (rm2_1 l Z a0 hw [] x6 x7 x8 x9 x10 h0 n0 O0) hZ (w 7 rfl) (w 3 rfl) (by decide) (by decide) hEL R0.1) (g := (mkF m 53 #[lI x0, lI x1, lI x2, lI x3, lI x4, lI x5, lV vI0, lI x6, lI x7, lI x8, lI x9, lI x10, lU, lU, lU, lU] [(.int x10), (.int x9), (.int x8), (.int x7), (.int x6), vI0])) rfl (by rw [hml]; rfl) (argsL := [vI0, (.int x6), (.int x7), (.int x8), (.int x9), (.int x10)]) (rest := []) (lenOf pd__ICCCCC_Ljava_lang_String_ rfl) rfl (own_W rfl) (hb hby at_53) (fun _ _ => ⟨rfl, E11, (by decide : 0 + 6 ≤ _), (by decide : 0 + 12 ≤ _)⟩)
  dsimp only [Pt.U, Pt.locs, Pt.cells, Pt.slots] at X13 l13 y13 z13 st13 hQ13 hs13 hg13 cr13
  subst l13 y13 z13
  obtain ⟨X13, hS13, hZ13, ho13⟩ := rebS (s := s) (vm0 := s.vm) hS1 (by rw [E11]; exact (Nat.zero_le _)) X13 hs13 hg13 hZ hown
  obtain ⟨b13_0, b13_1, k13_0, rfl, N13q, K13, f14, f15, f16, f17, f18, f19⟩ := hQ13
  have N13 := Fr.app N11 N13q
  have R20 := CHr.trans R0 cr13
  have o23 := Old.keep O0 K13 all0
  obtain ⟨_, T24, Lc24, X24, hQ24, st24⟩ := own_cS X13 hx hZ13 ho13 rfl (rm6_1 l Z a0 hw [] b13_0 b13_1 (0 : Int32) k13_0 ([]) x11 (0 : Int32) 0 (-1 : Int32) T13.heap n0 o23 f15 f16 f19 f21 hc22 f17 (by decide) (by decide) (by decide) (fun j hj => absurd hj (Nat.not_lt_zero j)) (by decide)) (w 30 rfl) (w 31 rfl) (w 32 rfl) (w 33 rfl) (by decide) (W := 0) (by decide) (by decide) (by decide) (by decide) (g := (mkF m 142 #[lI x0, lI x1, lI x2, lI x3, lI x4, lI x5, lV vI0, lI x6, lI x7, lI x8, lI x9, lI x10, lR b13_0, .val (.int (-1 : Int32)), lU, lU] [(.ref b13_0)])) rfl (by rw [hml]; rfl) (argsL := [(.ref b13_0)]) (rest := []) (lenOf pd__Ljava_lang_String__Ljava_lang_String_ rfl) rfl (own_W rfl) (hb hby at_142)
  obtain ⟨rfl, N24q, E24⟩ := hQ24
  have N24 := Fr.app N13 N24q
  refine ⟨some vI1, _, _, _, _, _, _, _, nofun, X24, by decide, by decide, hS13, (by rw [E24]; exact (Nat.le_refl _)), hZ13, E24, R20, ?_, fun fs hr => ?_⟩
  · rw [E24]; exact ⟨rfl, N24⟩
  · show SG p e below s₁ (mkF m 0 #[lI x0, lI x1, lI x2, lI x3, lI x4, lI x5, lU, lU, lU, lU, lU, lU, lU, lU, lU, lU] []) _
    refine qiN X0 hx hby at_0 ?_
    refine X0.ldcInt hx hown (mvT hZ (w 0 rfl)) (g := (mkF m 1 #[lI x0, lI x1, lI x2, lI x3, lI x4, lI x5, lU, lU, lU, lU, lU, lU, lU, lU, lU, lU] [(.int x0)])) rfl (hb hby at_1) _ ?_
    show SG p e below s₁ (mkF m 3 #[lI x0, lI x1, lI x2, lI x3, lI x4, lI x5, lU, lU, lU, lU, lU, lU, lU, lU, lU, lU] [vI2147483647, (.int x0)]) _
    refine XS.iand X0.here hx rfl (hb hby at_3) rfl ?_
    refine qb X0 hx hby at_4 ?_
    refine iremM (g := (mkF m 6 #[lI x0, lI x1, lI x2, lI x3, lI x4, lI x5, lU, lU, lU, lU, lU, lU, lU, lU, lU, lU] [vI6, (.int (x0 &&& (2147483647 : Int32)))])) X0 hx rfl (hb hby at_6) rfl (by decide : ¬ ((6 : Int32) = (0 : Int32))) ?_
    show SG p e below s₁ (mkF m 7 #[lI x0, lI x1, lI x2, lI x3, lI x4, lI x5, lU, lU, lU, lU, lU, lU, lU, lU, lU, lU] [(.int ((x0 &&& (2147483647 : Int32)) % (6 : Int32)))]) _
    rw [hc2]
    show SG p e below s₁ (mkF m 7 #[lI x0, lI x1, lI x2, lI x3, lI x4, lI x5, lU, lU, lU, lU, lU, lU, lU, lU, lU, lU] [vI0]) _
    refine XS.istore X0.here hx rfl (hb hby at_7) rfl (l' := #[lI x0, lI x1, lI x2, lI x3, lI x4, lI x5, lV vI0, lU, lU, lU, lU, lU, lU, lU, lU, lU]) rfl ?_
    refine qiN X0 hx hby at_9 ?_
    refine st3 _ ?_
    show SG p e below T3 (mkF m 13 #[lI x0, lI x1, lI x2, lI x3, lI x4, lI x5, lV vI0, lU, lU, lU, lU, lU, lU, lU, lU, lU] [(.int (nar .char (if (x1 &&& (1 : Int32)) = (0 : Int32) then ((((x1.toUInt32 >>> ((1 : Int32) &&& 31).toUInt32).toInt32) &&& (255 : Int32)).toUInt32.toUInt16.toUInt32.toInt32) else (47 : Int32))))]) _
    rw [hq4]
    show SG p e below T3 (mkF m 13 #[lI x0, lI x1, lI x2, lI x3, lI x4, lI x5, lV vI0, lU, lU, lU, lU, lU, lU, lU, lU, lU] [(.int x6)]) _
    refine XS.istore X3.here hx rfl (hb hby at_13) rfl (l' := #[lI x0, lI x1, lI x2, lI x3, lI x4, lI x5, lV vI0, lI x6, lU, lU, lU, lU, lU, lU, lU, lU]) rfl ?_
    refine qiN X3 hx hby at_15 ?_
    refine st5 _ ?_
    show SG p e below T5 (mkF m 19 #[lI x0, lI x1, lI x2, lI x3, lI x4, lI x5, lV vI0, lI x6, lU, lU, lU, lU, lU, lU, lU, lU] [(.int (nar .char (if (x2 &&& (1 : Int32)) = (0 : Int32) then ((((x2.toUInt32 >>> ((1 : Int32) &&& 31).toUInt32).toInt32) &&& (255 : Int32)).toUInt32.toUInt16.toUInt32.toInt32) else (47 : Int32))))]) _
    rw [hq6]
    show SG p e below T5 (mkF m 19 #[lI x0, lI x1, lI x2, lI x3, lI x4, lI x5, lV vI0, lI x6, lU, lU, lU, lU, lU, lU, lU, lU] [(.int x7)]) _
    refine XS.istore X5.here hx rfl (hb hby at_19) rfl (l' := #[lI x0, lI x1, lI x2, lI x3, lI x4, lI x5, lV vI0, lI x6, lI x7, lU, lU, lU, lU, lU, lU, lU]) rfl ?_
    refine qiN X5 hx hby at_21 ?_
    refine st7 _ ?_
    show SG p e below T7 (mkF m 25 #[lI x0, lI x1, lI x2, lI x3, lI x4, lI x5, lV vI0, lI x6, lI x7, lU, lU, lU, lU, lU, lU, lU] [(.int (nar .char (if (x3 &&& (1 : Int32)) = (0 : Int32) then ((((x3.toUInt32 >>> ((1 : Int32) &&& 31).toUInt32).toInt32) &&& (255 : Int32)).toUInt32.toUInt16.toUInt32.toInt32) else (47 : Int32))))]) _
    rw [hq8]
    show SG p e below T7 (mkF m 25 #[lI x0, lI x1, lI x2, lI x3, lI x4, lI x5, lV vI0, lI x6, lI x7, lU, lU, lU, lU, lU, lU, lU] [(.int x8)]) _
    refine XS.istore X7.here hx rfl (hb hby at_25) rfl (l' := #[lI x0, lI x1, lI x2, lI x3, lI x4, lI x5, lV vI0, lI x6, lI x7, lI x8, lU, lU, lU, lU, lU, lU]) rfl ?_
    refine qi X7 hx hby at_27 ?_
    refine st9 _ ?_
    show SG p e below T9 (mkF m 32 #[lI x0, lI x1, lI x2, lI x3, lI x4, lI x5, lV vI0, lI x6, lI x7, lI x8, lU, lU, lU, lU, lU, lU] [(.int (nar .char (if (x4 &&& (1 : Int32)) = (0 : Int32) then ((((x4.toUInt32 >>> ((1 : Int32) &&& 31).toUInt32).toInt32) &&& (255 : Int32)).toUInt32.toUInt16.toUInt32.toInt32) else (47 : Int32))))]) _
    rw [hq10]
    show SG p e below T9 (mkF m 32 #[lI x0, lI x1, lI x2, lI x3, lI x4, lI x5, lV vI0, lI x6, lI x7, lI x8, lU, lU, lU, lU, lU, lU] [(.int x9)]) _
    refine XS.istore X9.here hx rfl (hb hby at_32) rfl (l' := #[lI x0, lI x1, lI x2, lI x3, lI x4, lI x5, lV vI0, lI x6, lI x7, lI x8, lI x9, lU, lU, lU, lU, lU]) rfl ?_
    refine qi X9 hx hby at_34 ?_
    refine st11 _ ?_
    show SG p e below T11 (mkF m 39 #[lI x0, lI x1, lI x2, lI x3, lI x4, lI x5, lV vI0, lI x6, lI x7, lI x8, lI x9, lU, lU, lU, lU, lU] [(.int (nar .char (if (x5 &&& (1 : Int32)) = (0 : Int32) then ((((x5.toUInt32 >>> ((1 : Int32) &&& 31).toUInt32).toInt32) &&& (255 : Int32)).toUInt32.toUInt16.toUInt32.toInt32) else (47 : Int32))))]) _
    rw [hq12]
    show SG p e below T11 (mkF m 39 #[lI x0, lI x1, lI x2, lI x3, lI x4, lI x5, lV vI0, lI x6, lI x7, lI x8, lI x9, lU, lU, lU, lU, lU] [(.int x10)]) _
    refine XS.istore X11.here hx rfl (hb hby at_39) rfl (l' := #[lI x0, lI x1, lI x2, lI x3, lI x4, lI x5, lV vI0, lI x6, lI x7, lI x8, lI x9, lI x10, lU, lU, lU, lU]) rfl ?_
    refine qi X11 hx hby at_41 ?_
    refine qi X11 hx hby at_43 ?_
    refine qi X11 hx hby at_45 ?_
    refine qi X11 hx hby at_47 ?_
    refine qi X11 hx hby at_49 ?_
    refine qi X11 hx hby at_51 ?_
    refine st13.trans ?_
    show SG p e below T13 (mkF m 56 #[lI x0, lI x1, lI x2, lI x3, lI x4, lI x5, lV vI0, lI x6, lI x7, lI x8, lI x9, lI x10, lU, lU, lU, lU] [(.ref b13_0)]) _
    refine XS.astore X13.here hx rfl (hb hby at_56) rfl rfl (l' := #[lI x0, lI x1, lI x2, lI x3, lI x4, lI x5, lV vI0, lI x6, lI x7, lI x8, lI x9, lI x10, lR b13_0, lU, lU, lU]) rfl ?_
    refine qc X13 hx hby at_58 ?_
    refine XS.istore X13.here hx rfl (hb hby at_59) rfl (l' := #[lI x0, lI x1, lI x2, lI x3, lI x4, lI x5, lV vI0, lI x6, lI x7, lI x8, lI x9, lI x10, lR b13_0, .val (.int (-1 : Int32)), lU, lU]) rfl ?_
    refine qi X13 hx hby at_61 ?_
    refine XS.ifYes X13.here hx rfl (pc0 := 63) (pc' := 76) rfl (hb hby at_63) rfl ((if0 _ _).trans (flt (by decide : ¬ ((0 : Int32) < (0 : Int32)))).2.2.2) (by decide) (by decide) ?_
    show SG p e below T13 (mkF m 76 #[lI x0, lI x1, lI x2, lI x3, lI x4, lI x5, lV vI0, lI x6, lI x7, lI x8, lI x9, lI x10, lR b13_0, .val (.int (-1 : Int32)), lU, lU] []) _
    refine qi X13 hx hby at_76 ?_
    refine qc X13 hx hby at_78 ?_
    refine XS.icmpYes X13.here hx rfl (pc0 := 79) (pc' := 92) rfl (hb hby at_79) rfl (flt (by decide : ¬ ((1 : Int32) < (0 : Int32)))).2.2.2 (by decide) (by decide) ?_
    show SG p e below T13 (mkF m 92 #[lI x0, lI x1, lI x2, lI x3, lI x4, lI x5, lV vI0, lI x6, lI x7, lI x8, lI x9, lI x10, lR b13_0, .val (.int (-1 : Int32)), lU, lU] []) _
    refine qi X13 hx hby at_92 ?_
    refine qc X13 hx hby at_94 ?_
    refine XS.icmpYes X13.here hx rfl (pc0 := 95) (pc' := 108) rfl (hb hby at_95) rfl (flt (by decide : ¬ ((2 : Int32) < (0 : Int32)))).2.2.2 (by decide) (by decide) ?_
    show SG p e below T13 (mkF m 108 #[lI x0, lI x1, lI x2, lI x3, lI x4, lI x5, lV vI0, lI x6, lI x7, lI x8, lI x9, lI x10, lR b13_0, .val (.int (-1 : Int32)), lU, lU] []) _
    refine qi X13 hx hby at_108 ?_
    refine qc X13 hx hby at_110 ?_
    refine XS.icmpYes X13.here hx rfl (pc0 := 111) (pc' := 124) rfl (hb hby at_111) rfl (flt (by decide : ¬ ((3 : Int32) < (0 : Int32)))).2.2.2 (by decide) (by decide) ?_
    show SG p e below T13 (mkF m 124 #[lI x0, lI x1, lI x2, lI x3, lI x4, lI x5, lV vI0, lI x6, lI x7, lI x8, lI x9, lI x10, lR b13_0, .val (.int (-1 : Int32)), lU, lU] []) _
    refine qi X13 hx hby at_124 ?_
    refine qc X13 hx hby at_126 ?_
    refine XS.icmpYes X13.here hx rfl (pc0 := 127) (pc' := 140) rfl (hb hby at_127) rfl (flt (by decide : ¬ ((4 : Int32) < (0 : Int32)))).2.2.2 (by decide) (by decide) ?_
    show SG p e below T13 (mkF m 140 #[lI x0, lI x1, lI x2, lI x3, lI x4, lI x5, lV vI0, lI x6, lI x7, lI x8, lI x9, lI x10, lR b13_0, .val (.int (-1 : Int32)), lU, lU] []) _
    refine qa X13 hx hby at_140 ?_
    refine st24 _ ?_
    show SG p e below T24 (mkF m 145 #[lI x0, lI x1, lI x2, lI x3, lI x4, lI x5, lV vI0, lI x6, lI x7, lI x8, lI x9, lI x10, lR b13_0, .val (.int (-1 : Int32)), lU, lU] [.null]) _
    refine XS.astore X24.here hx rfl (hb hby at_145) rfl rfl (l' := #[lI x0, lI x1, lI x2, lI x3, lI x4, lI x5, lV vI0, lI x6, lI x7, lI x8, lI x9, lI x10, lR b13_0, .val (.int (-1 : Int32)), .val .null, lU]) rfl ?_
    refine qi X24 hx hby at_147 ?_
    refine XS.ifNo X24.here hx rfl (hb hby at_149) rfl ((if0 _ _).trans (flt (by decide : ¬ ((0 : Int32) < (-1 : Int32)))).2.2.1) ?_
    refine qa X24 hx hby at_152 ?_
    refine XS.ifnonnullNo X24.here hx rfl (hb hby at_154) rfl ?_
    refine qc X24 hx hby at_157 ?_
    refine XS.goto X24.here hx rfl (pc0 := 158) (pc' := 162) rfl (hb hby at_158) (by decide) (by decide) ?_
    show SG p e below T24 (mkF m 162 #[lI x0, lI x1, lI x2, lI x3, lI x4, lI x5, lV vI0, lI x6, lI x7, lI x8, lI x9, lI x10, lR b13_0, .val (.int (-1 : Int32)), .val .null, lU] [vI1]) _
    exact retN X24 hx (t := .boolean) hret (by simp) (hb hby at_162) hr
theorem d2_15 : DK cB2 15 (.iload_n 0) 1 := by decide +kernel
theorem d2_16 : DK cB2 16 (.iconst 1) 1 := by decide +kernel
theorem d2_17 : DK cB2 17 (.if_icmp .ne 18) 3 := by decide +kernel
theorem d2_20 : DK cB2 20 (.new 7) 3 := by decide +kernel
theorem d2_23 : DK cB2 23 (.dup) 1 := by decide +kernel
theorem d2_24 : DK cB2 24 (.iconst 1) 1 := by decide +kernel
theorem d2_25 : DK cB2 25 (.newarray .char) 2 := by decide +kernel
theorem d2_27 : DK cB2 27 (.dup) 1 := by decide +kernel
theorem d2_28 : DK cB2 28 (.iconst 0) 1 := by decide +kernel
theorem d2_29 : DK cB2 29 (.iload_n 1) 1 := by decide +kernel
theorem d2_30 : DK cB2 30 (.castore) 1 := by decide +kernel
section OwnSt
variable {p : Program} {l : Launch} {e : Env} {R : Room} {s : State} {m : MethodId} {args : Array Value} {below : List Frame} {meth : Method} {c : Code} {T : State} {locs : List Loc} {cells slots : Nat} {Z : State} {h h0 : Heap} {a : Addr} {k : ClassId} {z j x : Int32} {vs : List Value} {d : Value}
theorem own_stC (X : Stand p l e R s m args below meth c T locs cells slots) (hx : p.tables.exec = Jvm.exec) (hZ : Z.Warmed39 s.vm) (eT : T.heap = h) (K : Keep h0 h [a]) (V : Arv Z h a k .char z vs d) {n0 : Nat} (N : Fr n0 locs) (ge : n0 ≤ a) (i : Nat) (hj : j.toNatClampNeg = i) (hi : i < vs.length) (q : ¬ j < 0 ∧ j < z)
    {g : JFrame} (hg : g.method = m) {rest : List Value} (hs : g.stack = .int x :: .int j :: .ref a :: rest) (hd : decode c.code g.pc = .ok (.castore, 1)) :
    ∃ T' h' L, Stand p l e R s m args below meth c T' L cells slots ∧ T'.heap = h' ∧ Fr n0 L ∧ Keep h0 h' [a] ∧ Arv Z h' a k .char z (vs.set i (.int (nar .char x))) d ∧ ∀ target, Steps p.tables e below (T'.setTop { g with pc := g.pc + 1, stack := rest }) target → Steps p.tables e below (T.setTop g) target := by
  obtain ⟨cl, Ar, q1, S, Nz, H, G⟩ := V
  obtain ⟨T', h', X', e', W, st⟩ := stC X hx hZ eT Ar (inb_of S q) hg hs hd
  exact ⟨T', h', _, X', e', Fr.snoc X' N ge, K.wr W (Or.inl (List.mem_singleton.mpr rfl)), Arv.set Ar q1 S Nz H G (fits_nar_char _) W i hj hi, st⟩
end OwnSt
theorem d2_31 : DK cB2 31 (.invokespecial 9) 3 := by decide +kernel
theorem d2_34 : DK cB2 34 (.areturn) 1 := by decide +kernel
def Q2_2 (Z : State) (x0 x1 : Int32) (x2 x3 : Int32) (x4 x5 : Int32) (h0 : Heap) (n0 : Nat) (v : Option Value) (h : Heap) (L : List Loc) : Prop := ∃ (b1 b23_0 : Addr) (k23_0 : ClassId), v = some (.ref b1) ∧ Fr n0 L ∧ Keep h0 h [] ∧ h0.size ≤ b1 ∧ Exa Z h b1 "java/lang/String" ∧ Fld Z h b1 "java/lang/String" "coder" "B" vI0 ∧ Fld Z h b1 "java/lang/String" "value" "[B" (.ref b23_0) ∧ h0.size ≤ b23_0 ∧ Arv Z h b23_0 k23_0 .byte (1 : Int32) [(.int ((nar .char x0).toInt8.toInt32))] vI0 ∧ Exa Z h b23_0 "[B" ∧ b1 ≠ b23_0
theorem rm2_2 (l : Launch) (Z : State) (a0 : Array Value) (hw : own_HW a0 Z) (ws : List Jvm.Cond) (x0 x1 : Int32) (x2 x3 : Int32) (x4 x5 : Int32) (h0 : Heap) (n0 : Nat) (O0 : Old Z n0 h0) (f15 : Sta Z Z.heap "java/lang/String" "COMPACT_STRINGS" "Z" (.int x5)) (hc19 : ¬ (x5 = (0 : Int32))) (hc22 : ¬ ((255 : Int32) < (nar .char x0))) :
    own_MF l mN3 method_3_code 6 (some (.object "java/lang/String")) ws rR4_3_6_66 Z h0 #[vI1, (.int x0), (.int x1), (.int x2), (.int x3), (.int x4)] (Q2_2 Z x0 x1 x2 x3 x4 x5 h0 n0) := by
  refine own_open (plainFor_of_name pn_com_example_nearmiss_nearmiss_ElementParentPathPinLaw) (L0 := #[lV vI1, lI x0, lI x1, lI x2, lI x3, lI x4]) (fun _ => by first | (simp [entryFrame, mkF, argsToLocals, Value.category]; done) | rfl) ?_
  intro p e s m below meth c s₁ hx hby hml hret hnn hZ hown X0 e0
  have N0 := Fr.nil n0; have w := @ww Z a0 hw
  obtain ⟨T1, h1, X1, e1, E1, A1, D1, -, st1⟩ := newO X0 hx hZ hown (w 8 rfl) (w 9 rfl) (w 10 rfl) e0 (g := (mkF m 20 #[lV vI1, lI x0, lI x1, lI x2, lI x3, lI x4] [])) rfl (hb hby d2_20) (by decide) (by decide)
  obtain ⟨b1, g1⟩ : ∃ z, z = h0.size := ⟨_, rfl⟩
  rw [← g1] at A1 D1 st1
  have f2 : Fld Z h1 b1 "java/lang/String" "value" "[B" .null := D1 (Or.inr (w 24 rfl)) (ty := (.array .byte)) (by decide)
  have f3 : Fld Z h1 b1 "java/lang/String" "coder" "B" vI0 := D1 (Or.inr (w 25 rfl)) (ty := .byte) (by decide)
  obtain ⟨T4, h4, k4, X4, e4, E4, A4, B4, st4⟩ := newPE X1 hx hZ (w 11 rfl) e1 (g := (mkF m 25 #[lV vI1, lI x0, lI x1, lI x2, lI x3, lI x4] [vI1, (.ref b1), (.ref b1)])) rfl (hb hby d2_25) rfl (by decide) (cap := 1) (by decide) (by decide) (by decide) (by decide) (ad := "[C") rfl
  obtain ⟨b4, g4⟩ : ∃ z, z = h1.size := ⟨_, rfl⟩
  rw [← g4] at A4 B4 st4
  have V4 : Arv Z h4 b4 k4 .char (1 : Int32) [vI0] vI0 := (Arv.new A4 (by decide)).pad (pad_rep [] vI0 1)
  have o7 := Old.ext O0 E1
  have zz6 : n0 ≤ h1.size := by rw [← o7.1]; exact o7.2.1
  have g8 := Nat.le_trans zz6 (Nat.le_of_eq g4.symm)
  obtain ⟨T9, h9, L9, X9, e9, N9, K9, V9, st9⟩ := own_stC X4 hx hZ e4 (Keep.refl _ _) V4 N0 g8 0 rfl (Nat.le_of_ble_eq_true rfl) ⟨by decide, by decide⟩ (g := (mkF m 30 #[lV vI1, lI x0, lI x1, lI x2, lI x3, lI x4] [(.int x0), vI0, (.ref b4), (.ref b4), (.ref b1), (.ref b1)])) rfl rfl (hb hby d2_30)
  have f10 : Arv Z h9 b4 k4 .char (1 : Int32) [(.int (nar .char x0))] vI0 := V9
  have f11 := ((A1.ext E4).keep K9)
  have n12 := Nat.ne_of_lt (Nat.lt_of_lt_of_le A1.lt (Nat.le_of_eq g4.symm))
  have f13 := ((f2.ext E4).keep K9 (ninS n12 nin0))
  have f14 := ((f3.ext E4).keep K9 (ninS n12 nin0))
  have o16 := Old.ext o7 E4
  have o17 := Old.keep o16 K9 (allS g8 all0)
  have f18 := f15.ext o17.2
  have zz20 : n0 ≤ h0.size := by rw [← O0.1]; exact O0.2.1
  have g21 := Nat.le_trans zz20 (Nat.le_of_eq g1.symm)
  obtain ⟨_, T23, Lc23, X23, hQ23, st23⟩ := own_fin (X9.specialBack hx (y := mN2) rfl hown (mvT hZ (w 12 rfl)) (mvT hZ (w 13 rfl)) (mvT hZ (w 14 rfl)) (by decide) (own_newStr hZ hw (w 9 rfl) (cs := [(nar .char x0)]) (n := 1) g21 f11 f13 f14 f10 f18 hc19 rfl rfl (by decide) (by decide) (own_acS hc22 own_ac0) (own_bsS rfl own_bs0) (by decide) (by decide : 1 + 65 ≤ _)) (g := (mkF m 31 #[lV vI1, lI x0, lI x1, lI x2, lI x3, lI x4] [(.ref b4), (.ref b1), (.ref b1)])) rfl (by rw [hml]; rfl) (Steps.refl _) (a := b1) (argsL := [(.ref b4)]) (rest := [(.ref b1)]) (lenOf pd___C_V rfl) rfl (own_W rfl) (hb hby d2_31) (fun _ _ => ⟨rfl, e9, (by decide : 2 + 1 ≤ _), (by decide : 5 + 1 ≤ _)⟩))
  obtain ⟨b23_0, k23_0, rfl, N23q, K23, f24, f25, f26, f27, f28, f29⟩ := hQ23
  have N23 := Fr.app N9 N23q
  have f30 := (f11.keep K23)
  have zs31 := E1.1
  have zs32 := Nat.le_trans zs31 E4.1
  have zs33 := Nat.le_trans zs32 K9.1
  have zs34 := E4.1
  have zs35 := Nat.le_trans zs34 K9.1
  have n36 := Nat.ne_of_lt (Nat.lt_of_lt_of_le (Nat.lt_of_lt_of_le A1.lt zs35) f26)
  have kp37 : Keep h0 h1 [] := (Keep.refl h0 []).ext E1
  have kp38 : Keep h0 h4 [] := kp37.ext E4
  have kp39 : Keep h0 h9 [] := kp38.trans K9 (allS (Or.inr (Nat.le_trans zs31 (Nat.le_of_eq g4.symm))) all0)
  have kp40 : Keep h0 T23.heap [] := kp39.trans K23 (allS (Or.inr (Nat.le_of_eq g1.symm)) all0)
  refine ⟨some (.ref b1), _, _, _, _, nofun, X23, by decide, by decide, ?_, fun fs hr => ?_⟩
  · exact ⟨b1, b23_0, k23_0, rfl, N23, kp40, (Nat.le_of_eq g1.symm), f30, f24, f25, (Nat.le_trans zs33 f26), f27, f28, n36⟩
  · show SG p e below s₁ (mkF m 0 #[lV vI1, lI x0, lI x1, lI x2, lI x3, lI x4] []) _
    refine qiN X0 hx hby d2_0 ?_
    refine XS.ifYes X0.here hx rfl (pc0 := 1) (pc' := 15) rfl (hb hby d2_1) rfl ((if0 _ _).trans (tlt (by decide : (0 : Int32) < (1 : Int32))).2.2.1) (by decide) (by decide) ?_
    show SG p e below s₁ (mkF m 15 #[lV vI1, lI x0, lI x1, lI x2, lI x3, lI x4] []) _
    refine qiN X0 hx hby d2_15 ?_
    refine qc X0 hx hby d2_16 ?_
    refine XS.icmpNo X0.here hx rfl (hb hby d2_17) rfl (teq (rfl : (1 : Int32) = (1 : Int32))).2 ?_
    refine st1 _ ?_
    show SG p e below T1 (mkF m 23 #[lV vI1, lI x0, lI x1, lI x2, lI x3, lI x4] [(.ref b1)]) _
    refine qd X1 hx hby d2_23 ?_
    refine qc X1 hx hby d2_24 ?_
    refine st4 _ ?_
    show SG p e below T4 (mkF m 27 #[lV vI1, lI x0, lI x1, lI x2, lI x3, lI x4] [(.ref b4), (.ref b1), (.ref b1)]) _
    refine qd X4 hx hby d2_27 ?_
    refine qc X4 hx hby d2_28 ?_
    refine qiN X4 hx hby d2_29 ?_
    refine st9 _ ?_
    show SG p e below T9 (mkF m 31 #[lV vI1, lI x0, lI x1, lI x2, lI x3, lI x4] [(.ref b4), (.ref b1), (.ref b1)]) _
    refine st23.trans ?_
    show SG p e below T23 (mkF m 34 #[lV vI1, lI x0, lI x1, lI x2, lI x3, lI x4] [(.ref b1)]) _
    exact retOut X23 hx (i := .areturn) hret rfl (Or.inr (Or.inr (Or.inr (Or.inr ⟨rfl, rfl, rfl⟩)))) (hb hby d2_34) hr
theorem d12_30 : DK cB12 30 (.iload_n 3) 1 := by decide +kernel
theorem d12_31 : DK cB12 31 (.ireturn) 1 := by decide +kernel
def Q12_2 (Z : State) (r0 : Addr) (x1 x2 : Int32) (c3 : ClassId) (t4 : List Value) (w5 : Nat) (x6 x7 : Int32) (h0 : Heap) (n0 : Nat) (v : Option Value) (h : Heap) (L : List Loc) : Prop := v = some (.int x6) ∧ Fr n0 L ∧ h = h0
theorem rm12_2 (l : Launch) (Z : State) (a0 : Array Value) (hw : own_HW a0 Z) (ws : List Jvm.Cond) (r0 : Addr) (x1 x2 : Int32) (c3 : ClassId) (t4 : List Value) (w5 : Nat) (x6 x7 : Int32) (h0 : Heap) (n0 : Nat) (O0 : Old Z n0 h0) (f2 : Arv Z h0 r0 c3 .byte x2 t4 vI0) (hc4 : ¬ ((x2 - (1 : Int32)) < x1)) (hc6 : x1 = (x6 + Int32.ofNat w5)) (hT8 : ∀ j : Nat, j < w5 → (¬ ((x6 + Int32.ofNat (j + 1)) < (0 : Int32))) ∧ (t4.getD ((x6 + Int32.ofNat (j + 1))).toNatClampNeg vI0 = (.int (own_at t4 ((x6 + Int32.ofNat (j + 1))).toNatClampNeg))) ∧ (¬ ((x6 + Int32.ofNat (j + 1)) < (0 : Int32))) ∧ ((x6 + Int32.ofNat (j + 1)) < x2) ∧ (¬ ((x6 + Int32.ofNat (j + 1)) < (0 : Int32))) ∧ ((x6 + Int32.ofNat (j + 1)) < x2) ∧ (¬ ((own_at t4 ((x6 + Int32.ofNat (j + 1))).toNatClampNeg) = (47 : Int32)))) (hc10 : ¬ (x6 < (0 : Int32))) (he12 : t4.getD (x6).toNatClampNeg vI0 = (.int x7)) (hc13 : x6 < x2) (hc14 : x7 = (47 : Int32)) :
    own_MF l mN9 jdk_43_method_27_code 4 (some .int) ws rR1_0_0_13 Z h0 #[(.ref r0), vI47, (.int x1)] (Q12_2 Z r0 x1 x2 c3 t4 w5 x6 x7 h0 n0) := by
  refine own_open (plainFor_of_name pn_java_lang_StringLatin1) (L0 := #[lR r0, lV vI47, lI x1, lU]) (fun _ => by first | (simp [entryFrame, mkF, argsToLocals, Value.category]; done) | rfl) ?_
  intro p e s m below meth c s₁ hx hby hml hret hnn hZ hown X0 e0
  have N0 := Fr.nil n0; have w := @ww Z a0 hw
  obtain ⟨_, T1, Lc1, X1, hQ1, st1⟩ := own_cS X0 hx hZ hown e0 (rm13_1 l Z a0 hw [] h0 n0 O0) (w 64 rfl) (w 65 rfl) (w 62 rfl) (w 66 rfl) (by decide) (W := 0) (by decide) (by decide) (by decide) (by decide) (g := (mkF m 1 #[lR r0, lV vI47, lI x1, lU] [vI47])) rfl (by rw [hml]; rfl) (argsL := [vI47]) (rest := []) (lenOf pd__I_Z rfl) rfl (own_W rfl) (hb hby d12_1)
  obtain ⟨rfl, N1q, E1⟩ := hQ1
  have N1 := Fr.app N0 N1q
  obtain ⟨clq3, Arq3, qq3, Sq3, Nq3, Hq3, Gq3⟩ := id f2
  obtain ⟨_, T5, Lc5, X5, hQ5, st5⟩ := own_cS X1 hx hZ hown E1 (rm14_1 l Z a0 hw [] x1 (x2 - (1 : Int32)) h0 n0 O0 hc4) (w 67 rfl) (w 68 rfl) (w 69 rfl) (w 70 rfl) (by decide) (W := 0) (by decide) (by decide) (by decide) (by decide) (g := (mkF m 14 #[lR r0, lV vI47, lI x1, lU] [(.int (x2 - (1 : Int32))), (.int x1)])) rfl (by rw [hml]; rfl) (argsL := [(.int x1), (.int (x2 - (1 : Int32)))]) (rest := []) (lenOf pd__II_I rfl) rfl (own_W rfl) (hb hby d12_14)
  obtain ⟨rfl, N5q, E5⟩ := hQ5
  have N5 := Fr.app N1 N5q
  obtain ⟨clq7, Arq7, qq7, Sq7, Nq7, Hq7, Gq7⟩ := id f2
  have tn9 : ∀ j : Nat, j ≤ w5 → ∀ t, Steps p.tables e below (T5.setTop (mkF m 18 #[lR r0, lV vI47, .val (.int (x6 + Int32.ofNat w5)), lI x6] [])) t → Steps p.tables e below (T5.setTop (mkF m 18 #[lR r0, lV vI47, .val (.int (x6 + Int32.ofNat w5)), .val (.int (x6 + Int32.ofNat j))] [])) t := by
    intro j
    induction j with
    | zero => intro _ t kk; rw [own_off0]; exact kk
    | succ j ih =>
      intro hj t kk
      obtain ⟨tc0, tc1, tc2, tc3, tc4, tc5, tc6⟩ := hT8 j hj
      show SG p e below T5 (mkF m 18 #[lR r0, lV vI47, .val (.int (x6 + Int32.ofNat w5)), .val (.int (x6 + Int32.ofNat (j + 1)))] []) _
      refine qiN X5 hx hby d12_18 ?_
      refine XS.ifNo X5.here hx rfl (hb hby d12_19) rfl ((if0 _ _).trans (flt tc0).1) ?_
      refine qaN X5 hx hby d12_22 ?_
      refine qiN X5 hx hby d12_23 ?_
      refine X5.baloadBytes hx (j := (x6 + Int32.ofNat (j + 1))) (v := (.int (own_at t4 ((x6 + Int32.ofNat (j + 1))).toNatClampNeg))) (by rw [E5]; exact Arq7.1) (State.isArrayOf_alike hZ.alike Arq7.2.1) Arq7.2.2 (inb_of Sq7 ⟨tc2, tc3⟩) (Has.at Hq7 (inb_of Sq7 ⟨tc4, tc5⟩) tc1) (g := (mkF m 24 #[lR r0, lV vI47, .val (.int (x6 + Int32.ofNat w5)), .val (.int (x6 + Int32.ofNat (j + 1)))] [(.int (x6 + Int32.ofNat (j + 1))), (.ref r0)])) rfl rfl (hb hby d12_24) _ ?_
      show SG p e below T5 (mkF m 25 #[lR r0, lV vI47, .val (.int (x6 + Int32.ofNat w5)), .val (.int (x6 + Int32.ofNat (j + 1)))] [(.int (own_at t4 ((x6 + Int32.ofNat (j + 1))).toNatClampNeg))]) _
      refine qiN X5 hx hby d12_25 ?_
      refine XS.i2b X5.here hx rfl (hb hby d12_26) rfl ?_
      refine XS.icmpYes X5.here hx rfl (pc0 := 27) (pc' := 32) rfl (hb hby d12_27) rfl (feq tc6).2 (by decide) (by decide) ?_
      show SG p e below T5 (mkF m 32 #[lR r0, lV vI47, .val (.int (x6 + Int32.ofNat w5)), .val (.int (x6 + Int32.ofNat (j + 1)))] []) _
      refine XS.iinc X5.here hx rfl (hb hby d12_32) rfl (l' := #[lR r0, lV vI47, .val (.int (x6 + Int32.ofNat w5)), .val (.int ((x6 + Int32.ofNat (j + 1)) + (-1 : Int32)))]) rfl ?_
      refine XS.goto X5.here hx rfl (pc0 := 35) (pc' := 18) rfl (hb hby d12_35) (by decide) (by decide) ?_
      show SG p e below T5 (mkF m 18 #[lR r0, lV vI47, .val (.int (x6 + Int32.ofNat w5)), .val (.int ((x6 + Int32.ofNat (j + 1)) + (-1 : Int32)))] []) _
      rw [own_offS]
      exact ih (Nat.le_of_succ_le hj) t kk
  obtain ⟨clq11, Arq11, qq11, Sq11, Nq11, Hq11, Gq11⟩ := id f2
  refine ⟨some (.int x6), _, _, _, _, nofun, X5, by decide, by decide, ?_, fun fs hr => ?_⟩
  · rw [E5]; exact ⟨rfl, N5, rfl⟩
  · show SG p e below s₁ (mkF m 0 #[lR r0, lV vI47, lI x1, lU] []) _
    refine qiN X0 hx hby d12_0 ?_
    refine st1 _ ?_
    show SG p e below T1 (mkF m 4 #[lR r0, lV vI47, lI x1, lU] [vI1]) _
    refine XS.ifYes X1.here hx rfl (pc0 := 4) (pc' := 9) rfl (hb hby d12_4) rfl ((if0 _ _).trans (feq (by decide : ¬ ((1 : Int32) = (0 : Int32)))).2) (by decide) (by decide) ?_
    show SG p e below T1 (mkF m 9 #[lR r0, lV vI47, lI x1, lU] []) _
    refine qiN X1 hx hby d12_9 ?_
    refine qaN X1 hx hby d12_10 ?_
    refine X1.arraylength hx (by rw [E1]; exact Arq3.1) (State.isArrayOf_alike hZ.alike Arq3.2.1) (g := (mkF m 11 #[lR r0, lV vI47, lI x1, lU] [(.ref r0), (.int x1)])) rfl rfl (hb hby d12_11) _ ?_
    rw [len_of Sq3 Nq3]
    show SG p e below T1 (mkF m 12 #[lR r0, lV vI47, lI x1, lU] [(.int x2), (.int x1)]) _
    refine qc X1 hx hby d12_12 ?_
    refine XS.isub X1.here hx rfl (hb hby d12_13) rfl ?_
    refine st5 _ ?_
    show SG p e below T5 (mkF m 17 #[lR r0, lV vI47, lI x1, lU] [(.int x1)]) _
    refine XS.istoreN X5.here hx rfl (hb hby d12_17) rfl (l' := #[lR r0, lV vI47, lI x1, lI x1]) rfl ?_
    show SG p e below T5 (mkF m 18 #[lR r0, lV vI47, lI x1, lI x1] []) _
    rw [hc6]
    refine tn9 w5 (Nat.le_refl _) _ ?_
    show SG p e below T5 (mkF m 18 #[lR r0, lV vI47, .val (.int (x6 + Int32.ofNat w5)), lI x6] []) _
    refine qiN X5 hx hby d12_18 ?_
    refine XS.ifNo X5.here hx rfl (hb hby d12_19) rfl ((if0 _ _).trans (flt hc10).1) ?_
    refine qaN X5 hx hby d12_22 ?_
    refine qiN X5 hx hby d12_23 ?_
    refine X5.baloadBytes hx (j := x6) (v := (.int x7)) (by rw [E5]; exact Arq11.1) (State.isArrayOf_alike hZ.alike Arq11.2.1) Arq11.2.2 (inb_of Sq11 ⟨hc10, hc13⟩) (Has.at Hq11 (inb_of Sq11 ⟨hc10, hc13⟩) he12) (g := (mkF m 24 #[lR r0, lV vI47, .val (.int (x6 + Int32.ofNat w5)), lI x6] [(.int x6), (.ref r0)])) rfl rfl (hb hby d12_24) _ ?_
    show SG p e below T5 (mkF m 25 #[lR r0, lV vI47, .val (.int (x6 + Int32.ofNat w5)), lI x6] [(.int x7)]) _
    refine qiN X5 hx hby d12_25 ?_
    refine XS.i2b X5.here hx rfl (hb hby d12_26) rfl ?_
    refine XS.icmpNo X5.here hx rfl (hb hby d12_27) rfl (teq hc14).2 ?_
    refine qiN X5 hx hby d12_30 ?_
    exact retOut X5 hx (i := .ireturn) hret rfl (Or.inl ⟨rfl, Or.inl rfl, _, rfl⟩) (hb hby d12_31) hr
def Q10_2 (Z : State) (r0 : Addr) (x1 x2 x3 : Int32) (r4 : Addr) (x5 : Int32) (c6 : ClassId) (t7 : List Value) (w8 : Nat) (x9 x10 : Int32) (h0 : Heap) (n0 : Nat) (v : Option Value) (h : Heap) (L : List Loc) : Prop := v = some (.int x9) ∧ Fr n0 L ∧ h = h0
theorem rm10_2 (l : Launch) (Z : State) (a0 : Array Value) (hw : own_HW a0 Z) (ws : List Jvm.Cond) (r0 : Addr) (x1 x2 x3 : Int32) (r4 : Addr) (x5 : Int32) (c6 : ClassId) (t7 : List Value) (w8 : Nat) (x9 x10 : Int32) (h0 : Heap) (n0 : Nat) (O0 : Old Z n0 h0) (f1 : Exa Z h0 r0 "java/lang/String") (f2 : Sta Z Z.heap "java/lang/String" "COMPACT_STRINGS" "Z" (.int x2)) (hc3 : ¬ (x2 = (0 : Int32))) (f4 : Fld Z h0 r0 "java/lang/String" "coder" "B" (.int x3)) (hc5 : x3 = (0 : Int32)) (f7 : Fld Z h0 r0 "java/lang/String" "value" "[B" (.ref r4)) (f9 : Arv Z h0 r4 c6 .byte x5 t7 vI0) (hc10 : ¬ ((x5 - (1 : Int32)) < x1)) (hc11 : x1 = (x9 + Int32.ofNat w8)) (hT12 : ∀ j : Nat, j < w8 → (¬ ((x9 + Int32.ofNat (j + 1)) < (0 : Int32))) ∧ (t7.getD ((x9 + Int32.ofNat (j + 1))).toNatClampNeg vI0 = (.int (own_at t7 ((x9 + Int32.ofNat (j + 1))).toNatClampNeg))) ∧ (¬ ((x9 + Int32.ofNat (j + 1)) < (0 : Int32))) ∧ ((x9 + Int32.ofNat (j + 1)) < x5) ∧ (¬ ((x9 + Int32.ofNat (j + 1)) < (0 : Int32))) ∧ ((x9 + Int32.ofNat (j + 1)) < x5) ∧ (¬ ((own_at t7 ((x9 + Int32.ofNat (j + 1))).toNatClampNeg) = (47 : Int32)))) (hc13 : ¬ (x9 < (0 : Int32))) (he14 : t7.getD (x9).toNatClampNeg vI0 = (.int x10)) (hc15 : x9 < x5) (hc16 : x10 = (47 : Int32)) :
    own_MF l mN10 jdk_42_method_83_code 3 (some .int) ws rR2_0_0_28 Z h0 #[(.ref r0), vI47, (.int x1)] (Q10_2 Z r0 x1 x2 x3 r4 x5 c6 t7 w8 x9 x10 h0 n0) := by
  refine own_open (plainFor_of_name pn_java_lang_String) (L0 := #[lR r0, lV vI47, lI x1]) (fun _ => by first | (simp [entryFrame, mkF, argsToLocals, Value.category]; done) | rfl) ?_
  intro p e s m below meth c s₁ hx hby hml hret hnn hZ hown X0 e0
  have N0 := Fr.nil n0; have w := @ww Z a0 hw
  obtain ⟨_, T6, Lc6, X6, hQ6, st6⟩ := own_cV X0 hx hZ hown e0 (rm11_1 l Z a0 hw [] r0 x2 x3 h0 n0 O0 f2 hc3 f4 hc5) f1 (w 55 rfl) (w 56 rfl) (w 58 rfl) (w 57 rfl) (w 59 rfl) (w 10 rfl) (by decide) (W := 0) (by decide) (by decide) (by decide) (by decide) (g := (mkF m 1 #[lR r0, lV vI47, lI x1] [(.ref r0)])) rfl (by rw [hml]; rfl) (argsL := []) (rest := []) (lenOf pd___Z rfl) rfl (own_W rfl) (hb hby d10_1)
  obtain ⟨rfl, N6q, E6⟩ := hQ6
  have N6 := Fr.app N0 N6q
  obtain ⟨T8, X8, e8, st8⟩ := getF X6 hx hZ hown (host := "") (Or.inl (w 28 rfl)) Via.refl E6 f7 (g := (mkF m 8 #[lR r0, lV vI47, lI x1] [(.ref r0)])) rfl rfl (hb hby d10_8)
  obtain ⟨_, T17, Lc17, X17, hQ17, st17⟩ := own_cS X8 hx hZ hown e8 (rm12_2 l Z a0 hw [] r4 x1 x5 c6 t7 w8 x9 x10 h0 n0 O0 f9 hc10 hc11 hT12 hc13 he14 hc15 hc16) (w 60 rfl) (w 61 rfl) (w 62 rfl) (w 63 rfl) (by decide) (W := 0) (by decide) (by decide) (by decide) (by decide) (g := (mkF m 13 #[lR r0, lV vI47, lI x1] [(.int x1), vI47, (.ref r4)])) rfl (by rw [hml]; rfl) (argsL := [(.ref r4), vI47, (.int x1)]) (rest := []) (lenOf pd___BII_I rfl) rfl (own_W rfl) (hb hby d10_13)
  obtain ⟨rfl, N17q, E17⟩ := hQ17
  have N17 := Fr.app N6 N17q
  refine ⟨some (.int x9), _, _, _, _, nofun, X17, by decide, by decide, ?_, fun fs hr => ?_⟩
  · rw [E17]; exact ⟨rfl, N17, rfl⟩
  · show SG p e below s₁ (mkF m 0 #[lR r0, lV vI47, lI x1] []) _
    refine qaN X0 hx hby d10_0 ?_
    refine st6 _ ?_
    show SG p e below T6 (mkF m 4 #[lR r0, lV vI47, lI x1] [vI1]) _
    refine XS.ifNo X6.here hx rfl (hb hby d10_4) rfl ((if0 _ _).trans (feq (by decide : ¬ ((1 : Int32) = (0 : Int32)))).1) ?_
    refine qaN X6 hx hby d10_7 ?_
    refine st8 _ ?_
    show SG p e below T8 (mkF m 11 #[lR r0, lV vI47, lI x1] [(.ref r4)]) _
    refine qiN X8 hx hby d10_11 ?_
    refine qiN X8 hx hby d10_12 ?_
    refine st17 _ ?_
    show SG p e below T17 (mkF m 16 #[lR r0, lV vI47, lI x1] [(.int x9)]) _
    refine XS.goto X17.here hx rfl (pc0 := 16) (pc' := 28) rfl (hb hby d10_16) (by decide) (by decide) ?_
    show SG p e below T17 (mkF m 28 #[lR r0, lV vI47, lI x1] [(.int x9)]) _
    exact retOut X17 hx (i := .ireturn) hret rfl (Or.inl ⟨rfl, Or.inl rfl, _, rfl⟩) (hb hby d10_28) hr
def Q7_2 (Z : State) (r0 r1 : Addr) (x2 : Int32) (c3 : ClassId) (t4 : List Value) (x5 x6 : Int32) (w7 : Nat) (x8 x9 : Int32) (h0 : Heap) (n0 : Nat) (v : Option Value) (h : Heap) (L : List Loc) : Prop := v = some (.int x8) ∧ Fr n0 L ∧ h = h0
theorem rm7_2 (l : Launch) (Z : State) (a0 : Array Value) (hw : own_HW a0 Z) (ws : List Jvm.Cond) (r0 r1 : Addr) (x2 : Int32) (c3 : ClassId) (t4 : List Value) (x5 x6 : Int32) (w7 : Nat) (x8 x9 : Int32) (h0 : Heap) (n0 : Nat) (O0 : Old Z n0 h0) (f1 : Exa Z h0 r0 "java/lang/String") (f2 : Fld Z h0 r0 "java/lang/String" "value" "[B" (.ref r1)) (f3 : Arv Z h0 r1 c3 .byte x2 t4 vI0) (f4 : Sta Z Z.heap "java/lang/String" "COMPACT_STRINGS" "Z" (.int x5)) (hc5 : ¬ (x5 = (0 : Int32))) (f6 : Fld Z h0 r0 "java/lang/String" "coder" "B" (.int x6)) (hc8 : x6 = (0 : Int32)) (hc9 : ¬ ((x2 - (1 : Int32)) < ((x2 >>> ((nar .byte x6) &&& 31)) - (1 : Int32)))) (hc10 : ((x2 >>> ((nar .byte x6) &&& 31)) - (1 : Int32)) = (x8 + Int32.ofNat w7)) (hT11 : ∀ j : Nat, j < w7 → (¬ ((x8 + Int32.ofNat (j + 1)) < (0 : Int32))) ∧ (t4.getD ((x8 + Int32.ofNat (j + 1))).toNatClampNeg vI0 = (.int (own_at t4 ((x8 + Int32.ofNat (j + 1))).toNatClampNeg))) ∧ (¬ ((x8 + Int32.ofNat (j + 1)) < (0 : Int32))) ∧ ((x8 + Int32.ofNat (j + 1)) < x2) ∧ (¬ ((x8 + Int32.ofNat (j + 1)) < (0 : Int32))) ∧ ((x8 + Int32.ofNat (j + 1)) < x2) ∧ (¬ ((own_at t4 ((x8 + Int32.ofNat (j + 1))).toNatClampNeg) = (47 : Int32)))) (hc12 : ¬ (x8 < (0 : Int32))) (he13 : t4.getD (x8).toNatClampNeg vI0 = (.int x9)) (hc14 : x8 < x2) (hc15 : x9 = (47 : Int32)) :
    own_MF l mN11 jdk_42_method_82_code 2 (some .int) ws rR3_0_0_42 Z h0 #[(.ref r0), vI47] (Q7_2 Z r0 r1 x2 c3 t4 x5 x6 w7 x8 x9 h0 n0) := by
  refine own_open (plainFor_of_name pn_java_lang_String) (L0 := #[lR r0, lV vI47]) (fun _ => by first | (simp [entryFrame, mkF, argsToLocals, Value.category]; done) | rfl) ?_
  intro p e s m below meth c s₁ hx hby hml hret hnn hZ hown X0 e0
  have N0 := Fr.nil n0; have w := @ww Z a0 hw
  obtain ⟨_, T7, Lc7, X7, hQ7, st7⟩ := own_cV X0 hx hZ hown e0 (rm8_1 l Z a0 hw [] r0 r1 x2 c3 t4 x5 x6 h0 n0 O0 f2 f3 f1 f4 hc5 f6) f1 (w 39 rfl) (w 40 rfl) (w 42 rfl) (w 41 rfl) (w 43 rfl) (w 10 rfl) (by decide) (W := 2) (by decide) (by decide) (by decide) (by decide) (g := (mkF m 3 #[lR r0, lV vI47] [(.ref r0), vI47, (.ref r0)])) rfl (by rw [hml]; rfl) (argsL := []) (rest := [vI47, (.ref r0)]) (lenOf pd___I rfl) rfl (own_W rfl) (hb hby d7_3)
  obtain ⟨rfl, N7q, E7⟩ := hQ7
  have N7 := Fr.app N0 N7q
  obtain ⟨_, T16, Lc16, X16, hQ16, st16⟩ := own_cV X7 hx hZ hown E7 (rm10_2 l Z a0 hw [] r0 ((x2 >>> ((nar .byte x6) &&& 31)) - (1 : Int32)) x5 x6 r1 x2 c3 t4 w7 x8 x9 h0 n0 O0 f1 f4 hc5 f6 hc8 f2 f3 hc9 hc10 hT11 hc12 he13 hc14 hc15) f1 (w 50 rfl) (w 51 rfl) (w 53 rfl) (w 52 rfl) (w 54 rfl) (w 10 rfl) (by decide) (W := 0) (by decide) (by decide) (by decide) (by decide) (g := (mkF m 8 #[lR r0, lV vI47] [(.int ((x2 >>> ((nar .byte x6) &&& 31)) - (1 : Int32))), vI47, (.ref r0)])) rfl (by rw [hml]; rfl) (argsL := [vI47, (.int ((x2 >>> ((nar .byte x6) &&& 31)) - (1 : Int32)))]) (rest := []) (lenOf pd__II_I rfl) rfl (own_W rfl) (hb hby d7_8)
  obtain ⟨rfl, N16q, E16⟩ := hQ16
  have N16 := Fr.app N7 N16q
  refine ⟨some (.int x8), _, _, _, _, nofun, X16, by decide, by decide, ?_, fun fs hr => ?_⟩
  · rw [E16]; exact ⟨rfl, N16, rfl⟩
  · show SG p e below s₁ (mkF m 0 #[lR r0, lV vI47] []) _
    refine qaN X0 hx hby d7_0 ?_
    refine qiN X0 hx hby d7_1 ?_
    refine qaN X0 hx hby d7_2 ?_
    refine st7 _ ?_
    show SG p e below T7 (mkF m 6 #[lR r0, lV vI47] [(.int (x2 >>> ((nar .byte x6) &&& 31))), vI47, (.ref r0)]) _
    refine qc X7 hx hby d7_6 ?_
    refine XS.isub X7.here hx rfl (hb hby d7_7) rfl ?_
    refine st16 _ ?_
    show SG p e below T16 (mkF m 11 #[lR r0, lV vI47] [(.int x8)]) _
    exact retOut X16 hx (i := .ireturn) hret rfl (Or.inl ⟨rfl, Or.inl rfl, _, rfl⟩) (hb hby d7_11) hr
def Q6_2 (Z : State) (r0 r1 : Addr) (x2 : Int32) (c3 : ClassId) (t4 : List Value) (x5 x6 : Int32) (w7 : Nat) (x8 x9 : Int32) (h0 : Heap) (n0 : Nat) (v : Option Value) (h : Heap) (L : List Loc) : Prop := v = some .null ∧ Fr n0 L ∧ h = h0
theorem rm6_2 (l : Launch) (Z : State) (a0 : Array Value) (hw : own_HW a0 Z) (ws : List Jvm.Cond) (r0 r1 : Addr) (x2 : Int32) (c3 : ClassId) (t4 : List Value) (x5 x6 : Int32) (w7 : Nat) (x8 x9 : Int32) (h0 : Heap) (n0 : Nat) (O0 : Old Z n0 h0) (f1 : Exa Z h0 r0 "java/lang/String") (f2 : Fld Z h0 r0 "java/lang/String" "value" "[B" (.ref r1)) (f3 : Arv Z h0 r1 c3 .byte x2 t4 vI0) (f4 : Sta Z Z.heap "java/lang/String" "COMPACT_STRINGS" "Z" (.int x5)) (hc5 : ¬ (x5 = (0 : Int32))) (f6 : Fld Z h0 r0 "java/lang/String" "coder" "B" (.int x6)) (hc7 : x6 = (0 : Int32)) (hc8 : ¬ ((x2 - (1 : Int32)) < ((x2 >>> ((nar .byte x6) &&& 31)) - (1 : Int32)))) (hc9 : ((x2 >>> ((nar .byte x6) &&& 31)) - (1 : Int32)) = (x8 + Int32.ofNat w7)) (hT10 : ∀ j : Nat, j < w7 → (¬ ((x8 + Int32.ofNat (j + 1)) < (0 : Int32))) ∧ (t4.getD ((x8 + Int32.ofNat (j + 1))).toNatClampNeg vI0 = (.int (own_at t4 ((x8 + Int32.ofNat (j + 1))).toNatClampNeg))) ∧ (¬ ((x8 + Int32.ofNat (j + 1)) < (0 : Int32))) ∧ ((x8 + Int32.ofNat (j + 1)) < x2) ∧ (¬ ((x8 + Int32.ofNat (j + 1)) < (0 : Int32))) ∧ ((x8 + Int32.ofNat (j + 1)) < x2) ∧ (¬ ((own_at t4 ((x8 + Int32.ofNat (j + 1))).toNatClampNeg) = (47 : Int32)))) (hc11 : ¬ (x8 < (0 : Int32))) (he12 : t4.getD (x8).toNatClampNeg vI0 = (.int x9)) (hc13 : x8 < x2) (hc14 : x9 = (47 : Int32)) (hc16 : ¬ ((0 : Int32) < x8)) :
    own_MF l mN12 prog_6_method_4_code 2 (some (.object "java/lang/String")) ws rR4_0_0_55 Z h0 #[(.ref r0)] (Q6_2 Z r0 r1 x2 c3 t4 x5 x6 w7 x8 x9 h0 n0) := by
  refine own_open (plainFor_of_name pn_com_example_nearmiss_nearmiss_Element) (L0 := #[lR r0, lU]) (fun _ => by first | (simp [entryFrame, mkF, argsToLocals, Value.category]; done) | rfl) ?_
  intro p e s m below meth c s₁ hx hby hml hret hnn hZ hown X0 e0
  have N0 := Fr.nil n0; have w := @ww Z a0 hw
  obtain ⟨_, T15, Lc15, X15, hQ15, st15⟩ := own_cV X0 hx hZ hown e0 (rm7_2 l Z a0 hw [] r0 r1 x2 c3 t4 x5 x6 w7 x8 x9 h0 n0 O0 f1 f2 f3 f4 hc5 f6 hc7 hc8 hc9 hT10 hc11 he12 hc13 hc14) f1 (w 34 rfl) (w 35 rfl) (w 37 rfl) (w 36 rfl) (w 38 rfl) (w 10 rfl) (by decide) (W := 0) (by decide) (by decide) (by decide) (by decide) (g := (mkF m 3 #[lR r0, lU] [vI47, (.ref r0)])) rfl (by rw [hml]; rfl) (argsL := [vI47]) (rest := []) (lenOf pd__I_I rfl) rfl (own_W rfl) (hb hby d6_3)
  obtain ⟨rfl, N15q, E15⟩ := hQ15
  have N15 := Fr.app N0 N15q
  refine ⟨some .null, _, _, _, _, nofun, X15, by decide, by decide, ?_, fun fs hr => ?_⟩
  · rw [E15]; exact ⟨rfl, N15, rfl⟩
  · show SG p e below s₁ (mkF m 0 #[lR r0, lU] []) _
    refine qaN X0 hx hby d6_0 ?_
    refine qb X0 hx hby d6_1 ?_
    refine st15 _ ?_
    show SG p e below T15 (mkF m 6 #[lR r0, lU] [(.int x8)]) _
    refine XS.istoreN X15.here hx rfl (hb hby d6_6) rfl (l' := #[lR r0, lI x8]) rfl ?_
    refine qiN X15 hx hby d6_7 ?_
    refine XS.ifYes X15.here hx rfl (pc0 := 8) (pc' := 20) rfl (hb hby d6_8) rfl ((if0 _ _).trans (flt hc16).2.2.2) (by decide) (by decide) ?_
    show SG p e below T15 (mkF m 20 #[lR r0, lI x8] []) _
    refine XS.aconstNull X15.here hx rfl (hb hby d6_20) ?_
    exact retOut X15 hx (i := .areturn) hret rfl (Or.inr (Or.inr (Or.inr (Or.inr ⟨rfl, rfl, rfl⟩)))) (hb hby d6_21) hr
def Q6_3 (Z : State) (r0 r1 : Addr) (c2 : ClassId) (x3 x4 : Int32) (h0 : Heap) (n0 : Nat) (v : Option Value) (h : Heap) (L : List Loc) : Prop := v = some .null ∧ Fr n0 L ∧ h = h0
theorem rm6_3 (l : Launch) (Z : State) (a0 : Array Value) (hw : own_HW a0 Z) (ws : List Jvm.Cond) (r0 r1 : Addr) (c2 : ClassId) (x3 x4 : Int32) (h0 : Heap) (n0 : Nat) (O0 : Old Z n0 h0) (f1 : Fld Z h0 r0 "java/lang/String" "value" "[B" (.ref r1)) (f2 : Arv Z h0 r1 c2 .byte (1 : Int32) [(.int x3)] vI0) (f3 : Exa Z h0 r0 "java/lang/String") (f4 : Sta Z Z.heap "java/lang/String" "COMPACT_STRINGS" "Z" (.int x4)) (hc5 : ¬ (x4 = (0 : Int32))) (f6 : Fld Z h0 r0 "java/lang/String" "coder" "B" vI0) :
    MetFree l mN12 (head1 (Jvm.Cond.code mN12 prog_6_method_4_code 2 (some (.object "java/lang/String")) :: ws) rR4_0_0_55) (fun a U => a = #[(.ref r0)] ∧ Z.Warmed39 U.vm ∧ U.heap = h0) (fun _ _ _ _ _ => True) (fun _ U o U' => ∃ v L, o = .returned v ∧ Q6_3 Z r0 r1 c2 x3 x4 h0 n0 v U'.heap L ∧ FrameEnd U o U' L rR4_0_0_55.cells rR4_0_0_55.slots) := by
  by_cases hs : x3 = (47 : Int32)
  · exact rm6_2 l Z a0 hw ws r0 r1 (1 : Int32) c2 ([(.int x3)]) x4 (0 : Int32) 0 (0 : Int32) x3 h0 n0 O0 f3 f1 f2 f4 hc5 f6 (by decide) (by decide) (by decide) (fun j hj => absurd hj (Nat.not_lt_zero j)) (by decide) (own_gd (n := 0) rfl rfl) (by decide) hs (by decide)
  · exact rm6_1 l Z a0 hw ws r0 r1 (1 : Int32) c2 ([(.int x3)]) x4 (0 : Int32) 1 (-1 : Int32) h0 n0 O0 f3 f1 f2 f4 hc5 f6 (by decide) (by decide) (by decide) (fun j hj => match j, hj with | 0, _ => ⟨by decide, rfl, by decide, by decide, by decide, by decide, own_atN (n := 0) (by decide) rfl hs⟩ | z + 1, hz => absurd hz (by omega)) (by decide)
def Q0_2 (Z : State) (x0 x1 : Int32) (x2 x3 : Int32) (x4 x5 : Int32) (x6 x7 : Int32) (x8 x9 : Int32) (x10 x11 x12 : Int32) (h0 : Heap) (n0 : Nat) (v : Option Value) (h : Heap) (L : List Loc) : Prop := v = some vI1 ∧ Fr n0 L
theorem rm0_2 (l : Launch) (Z : State) (a0 : Array Value) (hw : own_HW a0 Z) (ws : List Jvm.Cond) (x0 x1 : Int32) (x2 x3 : Int32) (x4 x5 : Int32) (x6 x7 : Int32) (x8 x9 : Int32) (x10 x11 x12 : Int32) (h0 : Heap) (n0 : Nat) (O0 : Old Z n0 h0) (hc2 : ((x0 &&& (2147483647 : Int32)) % (6 : Int32)) = (1 : Int32)) (hq4 : (nar .char (if (x1 &&& (1 : Int32)) = (0 : Int32) then ((((x1.toUInt32 >>> ((1 : Int32) &&& 31).toUInt32).toInt32) &&& (255 : Int32)).toUInt32.toUInt16.toUInt32.toInt32) else (47 : Int32))) = x6) (hq6 : (nar .char (if (x2 &&& (1 : Int32)) = (0 : Int32) then ((((x2.toUInt32 >>> ((1 : Int32) &&& 31).toUInt32).toInt32) &&& (255 : Int32)).toUInt32.toUInt16.toUInt32.toInt32) else (47 : Int32))) = x7) (hq8 : (nar .char (if (x3 &&& (1 : Int32)) = (0 : Int32) then ((((x3.toUInt32 >>> ((1 : Int32) &&& 31).toUInt32).toInt32) &&& (255 : Int32)).toUInt32.toUInt16.toUInt32.toInt32) else (47 : Int32))) = x8) (hq10 : (nar .char (if (x4 &&& (1 : Int32)) = (0 : Int32) then ((((x4.toUInt32 >>> ((1 : Int32) &&& 31).toUInt32).toInt32) &&& (255 : Int32)).toUInt32.toUInt16.toUInt32.toInt32) else (47 : Int32))) = x9) (hq12 : (nar .char (if (x5 &&& (1 : Int32)) = (0 : Int32) then ((((x5.toUInt32 >>> ((1 : Int32) &&& 31).toUInt32).toInt32) &&& (255 : Int32)).toUInt32.toUInt16.toUInt32.toInt32) else (47 : Int32))) = x10) (f13 : Sta Z Z.heap "java/lang/String" "COMPACT_STRINGS" "Z" (.int x11)) (hc14 : ¬ (x11 = (0 : Int32))) (hc15 : ¬ ((255 : Int32) < (nar .char x6))) (hq29 : (if x6 = (47 : Int32) then (0 : Int32) else (-1 : Int32)) = x12) (hc32 : ¬ ((0 : Int32) < x12)) :
    own_MH l x code maxLocals ret ws room_1 Z h0 #[(.int x0), (.int x1), (.int x2), (.int x3), (.int x4), (.int x5)] (Q0_2 Z x0 x1 x2 x3 x4 x5 x6 x7 x8 x9 x10 x11 x12 h0 n0) := by
  have hEL : EW Z a0 consts_1 := own_EW hw
  refine own_openH hEL (plainFor_of_name pn_com_example_nearmiss_nearmiss_ElementParentPathPinLaw) (L0 := #[lI x0, lI x1, lI x2, lI x3, lI x4, lI x5, lU, lU, lU, lU, lU, lU, lU, lU, lU, lU]) (fun _ => by first | (simp [entryFrame, mkF, argsToLocals, Value.category, maxLocals]; done) | rfl) ?_
  intro p e s m below meth c s₁ hx hby hml hret hnn hZ hown X0 e0 R0
  have N0 := Fr.nil n0; have w := @ww Z a0 hw
  have hS1 := (State.WarmedH.refl s).since 0
  obtain ⟨_, T3, Lc3, X3, hQ3, st3⟩ := own_cS X0 hx hZ hown e0 (rm1_1 l Z a0 hw [] x1 h0 n0 O0) (w 1 rfl) (w 2 rfl) (w 3 rfl) (w 4 rfl) (by decide) (W := 0) (by decide) (by decide) (by decide) (by decide) (g := (mkF m 10 #[lI x0, lI x1, lI x2, lI x3, lI x4, lI x5, lV vI1, lU, lU, lU, lU, lU, lU, lU, lU, lU] [(.int x1)])) rfl (by rw [hml]; rfl) (argsL := [(.int x1)]) (rest := []) (lenOf pd__I_C rfl) rfl (own_W rfl) (hb hby at_10)
  obtain ⟨rfl, N3q, E3⟩ := hQ3
  have N3 := Fr.app N0 N3q
  obtain ⟨_, T5, Lc5, X5, hQ5, st5⟩ := own_cS X3 hx hZ hown E3 (rm1_1 l Z a0 hw [] x2 h0 n0 O0) (w 1 rfl) (w 2 rfl) (w 3 rfl) (w 4 rfl) (by decide) (W := 0) (by decide) (by decide) (by decide) (by decide) (g := (mkF m 16 #[lI x0, lI x1, lI x2, lI x3, lI x4, lI x5, lV vI1, lI x6, lU, lU, lU, lU, lU, lU, lU, lU] [(.int x2)])) rfl (by rw [hml]; rfl) (argsL := [(.int x2)]) (rest := []) (lenOf pd__I_C rfl) rfl (own_W rfl) (hb hby at_16)
  obtain ⟨rfl, N5q, E5⟩ := hQ5
  have N5 := Fr.app N3 N5q
  obtain ⟨_, T7, Lc7, X7, hQ7, st7⟩ := own_cS X5 hx hZ hown E5 (rm1_1 l Z a0 hw [] x3 h0 n0 O0) (w 1 rfl) (w 2 rfl) (w 3 rfl) (w 4 rfl) (by decide) (W := 0) (by decide) (by decide) (by decide) (by decide) (g := (mkF m 22 #[lI x0, lI x1, lI x2, lI x3, lI x4, lI x5, lV vI1, lI x6, lI x7, lU, lU, lU, lU, lU, lU, lU] [(.int x3)])) rfl (by rw [hml]; rfl) (argsL := [(.int x3)]) (rest := []) (lenOf pd__I_C rfl) rfl (own_W rfl) (hb hby at_22)
  obtain ⟨rfl, N7q, E7⟩ := hQ7
  have N7 := Fr.app N5 N7q
  obtain ⟨_, T9, Lc9, X9, hQ9, st9⟩ := own_cS X7 hx hZ hown E7 (rm1_1 l Z a0 hw [] x4 h0 n0 O0) (w 1 rfl) (w 2 rfl) (w 3 rfl) (w 4 rfl) (by decide) (W := 0) (by decide) (by decide) (by decide) (by decide) (g := (mkF m 29 #[lI x0, lI x1, lI x2, lI x3, lI x4, lI x5, lV vI1, lI x6, lI x7, lI x8, lU, lU, lU, lU, lU, lU] [(.int x4)])) rfl (by rw [hml]; rfl) (argsL := [(.int x4)]) (rest := []) (lenOf pd__I_C rfl) rfl (own_W rfl) (hb hby at_29)
  obtain ⟨rfl, N9q, E9⟩ := hQ9
  have N9 := Fr.app N7 N9q
  obtain ⟨_, T11, Lc11, X11, hQ11, st11⟩ := own_cS X9 hx hZ hown E9 (rm1_1 l Z a0 hw [] x5 h0 n0 O0) (w 1 rfl) (w 2 rfl) (w 3 rfl) (w 4 rfl) (by decide) (W := 0) (by decide) (by decide) (by decide) (by decide) (g := (mkF m 36 #[lI x0, lI x1, lI x2, lI x3, lI x4, lI x5, lV vI1, lI x6, lI x7, lI x8, lI x9, lU, lU, lU, lU, lU] [(.int x5)])) rfl (by rw [hml]; rfl) (argsL := [(.int x5)]) (rest := []) (lenOf pd__I_C rfl) rfl (own_W rfl) (hb hby at_36)
  obtain ⟨rfl, N11q, E11⟩ := hQ11
  have N11 := Fr.app N9 N11q
  obtain ⟨_, T16, Lc16, X16, hQ16, st16⟩ := own_cS X11 hx hZ hown E11 (rm2_2 l Z a0 hw [] x6 x7 x8 x9 x10 x11 h0 n0 O0 f13 hc14 hc15) (w 5 rfl) (w 6 rfl) (w 3 rfl) (w 7 rfl) (by decide) (W := 0) (by decide) (by decide) (by decide) (by decide) (g := (mkF m 53 #[lI x0, lI x1, lI x2, lI x3, lI x4, lI x5, lV vI1, lI x6, lI x7, lI x8, lI x9, lI x10, lU, lU, lU, lU] [(.int x10), (.int x9), (.int x8), (.int x7), (.int x6), vI1])) rfl (by rw [hml]; rfl) (argsL := [vI1, (.int x6), (.int x7), (.int x8), (.int x9), (.int x10)]) (rest := []) (lenOf pd__ICCCCC_Ljava_lang_String_ rfl) rfl (own_W rfl) (hb hby at_53)
  obtain ⟨b16_0, b16_1, k16_0, rfl, N16q, K16, f17, f18, f19, f20, f21, f22, f23, f24⟩ := hQ16
  have N16 := Fr.app N11 N16q
  have R25 := CHr.trans R0 (CHr.keep K16 sf0 R0.1)
  have sf26 : Safe Z consts_1 s.vm h0 b16_0 := Safe.new f17
  have sf27 : Safe Z consts_1 s.vm h0 b16_1 := Safe.new f21
  have dm28 : ∀ t, Steps p.tables e below (T16.setTop (mkF m 76 #[lI x0, lI x1, lI x2, lI x3, lI x4, lI x5, lV vI1, lI x6, lI x7, lI x8, lI x9, lI x10, lR b16_0, .val (.int (if x6 = (47 : Int32) then (0 : Int32) else (-1 : Int32))), lU, lU] [])) t → Steps p.tables e below (T16.setTop (mkF m 70 #[lI x0, lI x1, lI x2, lI x3, lI x4, lI x5, lV vI1, lI x6, lI x7, lI x8, lI x9, lI x10, lR b16_0, .val (.int (-1 : Int32)), lU, lU] [vI47, (.int x6)])) t := by
    intro t kk
    by_cases hd : x6 = (47 : Int32)
    · show SG p e below T16 (mkF m 70 #[lI x0, lI x1, lI x2, lI x3, lI x4, lI x5, lV vI1, lI x6, lI x7, lI x8, lI x9, lI x10, lR b16_0, .val (.int (-1 : Int32)), lU, lU] [vI47, (.int x6)]) _
      refine XS.icmpNo X16.here hx rfl (hb hby at_70) rfl (teq hd).2 ?_
      refine qc X16 hx hby at_73 ?_
      refine XS.istore X16.here hx rfl (hb hby at_74) rfl (l' := #[lI x0, lI x1, lI x2, lI x3, lI x4, lI x5, lV vI1, lI x6, lI x7, lI x8, lI x9, lI x10, lR b16_0, lV vI0, lU, lU]) rfl ?_
      simp only [if_pos hd] at kk
      exact kk
    · show SG p e below T16 (mkF m 70 #[lI x0, lI x1, lI x2, lI x3, lI x4, lI x5, lV vI1, lI x6, lI x7, lI x8, lI x9, lI x10, lR b16_0, .val (.int (-1 : Int32)), lU, lU] [vI47, (.int x6)]) _
      refine XS.icmpYes X16.here hx rfl (pc0 := 70) (pc' := 76) rfl (hb hby at_70) rfl (feq hd).2 (by decide) (by decide) ?_
      simp only [if_neg hd] at kk
      exact kk
  have o30 := Old.keep O0 K16 all0
  obtain ⟨_, T31, Lc31, X31, hQ31, st31⟩ := own_cS X16 hx hZ hown rfl (rm6_3 l Z a0 hw [] b16_0 b16_1 k16_0 ((nar .char x6).toInt8.toInt32) x11 T16.heap n0 o30 f20 f22 f18 f13 hc14 f19) (w 30 rfl) (w 31 rfl) (w 32 rfl) (w 33 rfl) (by decide) (W := 0) (by decide) (by decide) (by decide) (by decide) (g := (mkF m 142 #[lI x0, lI x1, lI x2, lI x3, lI x4, lI x5, lV vI1, lI x6, lI x7, lI x8, lI x9, lI x10, lR b16_0, lI x12, lU, lU] [(.ref b16_0)])) rfl (by rw [hml]; rfl) (argsL := [(.ref b16_0)]) (rest := []) (lenOf pd__Ljava_lang_String__Ljava_lang_String_ rfl) rfl (own_W rfl) (hb hby at_142)
  obtain ⟨rfl, N31q, E31⟩ := hQ31
  have N31 := Fr.app N16 N31q
  refine ⟨some vI1, _, _, _, _, _, _, _, nofun, X31, by decide, by decide, hS1, (by rw [E31]; exact (Nat.zero_le _)), hZ, E31, R25, ?_, fun fs hr => ?_⟩
  · rw [E31]; exact ⟨rfl, N31⟩
  · show SG p e below s₁ (mkF m 0 #[lI x0, lI x1, lI x2, lI x3, lI x4, lI x5, lU, lU, lU, lU, lU, lU, lU, lU, lU, lU] []) _
    refine qiN X0 hx hby at_0 ?_
    refine X0.ldcInt hx hown (mvT hZ (w 0 rfl)) (g := (mkF m 1 #[lI x0, lI x1, lI x2, lI x3, lI x4, lI x5, lU, lU, lU, lU, lU, lU, lU, lU, lU, lU] [(.int x0)])) rfl (hb hby at_1) _ ?_
    show SG p e below s₁ (mkF m 3 #[lI x0, lI x1, lI x2, lI x3, lI x4, lI x5, lU, lU, lU, lU, lU, lU, lU, lU, lU, lU] [vI2147483647, (.int x0)]) _
    refine XS.iand X0.here hx rfl (hb hby at_3) rfl ?_
    refine qb X0 hx hby at_4 ?_
    refine iremM (g := (mkF m 6 #[lI x0, lI x1, lI x2, lI x3, lI x4, lI x5, lU, lU, lU, lU, lU, lU, lU, lU, lU, lU] [vI6, (.int (x0 &&& (2147483647 : Int32)))])) X0 hx rfl (hb hby at_6) rfl (by decide : ¬ ((6 : Int32) = (0 : Int32))) ?_
    show SG p e below s₁ (mkF m 7 #[lI x0, lI x1, lI x2, lI x3, lI x4, lI x5, lU, lU, lU, lU, lU, lU, lU, lU, lU, lU] [(.int ((x0 &&& (2147483647 : Int32)) % (6 : Int32)))]) _
    rw [hc2]
    show SG p e below s₁ (mkF m 7 #[lI x0, lI x1, lI x2, lI x3, lI x4, lI x5, lU, lU, lU, lU, lU, lU, lU, lU, lU, lU] [vI1]) _
    refine XS.istore X0.here hx rfl (hb hby at_7) rfl (l' := #[lI x0, lI x1, lI x2, lI x3, lI x4, lI x5, lV vI1, lU, lU, lU, lU, lU, lU, lU, lU, lU]) rfl ?_
    refine qiN X0 hx hby at_9 ?_
    refine st3 _ ?_
    show SG p e below T3 (mkF m 13 #[lI x0, lI x1, lI x2, lI x3, lI x4, lI x5, lV vI1, lU, lU, lU, lU, lU, lU, lU, lU, lU] [(.int (nar .char (if (x1 &&& (1 : Int32)) = (0 : Int32) then ((((x1.toUInt32 >>> ((1 : Int32) &&& 31).toUInt32).toInt32) &&& (255 : Int32)).toUInt32.toUInt16.toUInt32.toInt32) else (47 : Int32))))]) _
    rw [hq4]
    show SG p e below T3 (mkF m 13 #[lI x0, lI x1, lI x2, lI x3, lI x4, lI x5, lV vI1, lU, lU, lU, lU, lU, lU, lU, lU, lU] [(.int x6)]) _
    refine XS.istore X3.here hx rfl (hb hby at_13) rfl (l' := #[lI x0, lI x1, lI x2, lI x3, lI x4, lI x5, lV vI1, lI x6, lU, lU, lU, lU, lU, lU, lU, lU]) rfl ?_
    refine qiN X3 hx hby at_15 ?_
    refine st5 _ ?_
    show SG p e below T5 (mkF m 19 #[lI x0, lI x1, lI x2, lI x3, lI x4, lI x5, lV vI1, lI x6, lU, lU, lU, lU, lU, lU, lU, lU] [(.int (nar .char (if (x2 &&& (1 : Int32)) = (0 : Int32) then ((((x2.toUInt32 >>> ((1 : Int32) &&& 31).toUInt32).toInt32) &&& (255 : Int32)).toUInt32.toUInt16.toUInt32.toInt32) else (47 : Int32))))]) _
    rw [hq6]
    show SG p e below T5 (mkF m 19 #[lI x0, lI x1, lI x2, lI x3, lI x4, lI x5, lV vI1, lI x6, lU, lU, lU, lU, lU, lU, lU, lU] [(.int x7)]) _
    refine XS.istore X5.here hx rfl (hb hby at_19) rfl (l' := #[lI x0, lI x1, lI x2, lI x3, lI x4, lI x5, lV vI1, lI x6, lI x7, lU, lU, lU, lU, lU, lU, lU]) rfl ?_
    refine qiN X5 hx hby at_21 ?_
    refine st7 _ ?_
    show SG p e below T7 (mkF m 25 #[lI x0, lI x1, lI x2, lI x3, lI x4, lI x5, lV vI1, lI x6, lI x7, lU, lU, lU, lU, lU, lU, lU] [(.int (nar .char (if (x3 &&& (1 : Int32)) = (0 : Int32) then ((((x3.toUInt32 >>> ((1 : Int32) &&& 31).toUInt32).toInt32) &&& (255 : Int32)).toUInt32.toUInt16.toUInt32.toInt32) else (47 : Int32))))]) _
    rw [hq8]
    show SG p e below T7 (mkF m 25 #[lI x0, lI x1, lI x2, lI x3, lI x4, lI x5, lV vI1, lI x6, lI x7, lU, lU, lU, lU, lU, lU, lU] [(.int x8)]) _
    refine XS.istore X7.here hx rfl (hb hby at_25) rfl (l' := #[lI x0, lI x1, lI x2, lI x3, lI x4, lI x5, lV vI1, lI x6, lI x7, lI x8, lU, lU, lU, lU, lU, lU]) rfl ?_
    refine qi X7 hx hby at_27 ?_
    refine st9 _ ?_
    show SG p e below T9 (mkF m 32 #[lI x0, lI x1, lI x2, lI x3, lI x4, lI x5, lV vI1, lI x6, lI x7, lI x8, lU, lU, lU, lU, lU, lU] [(.int (nar .char (if (x4 &&& (1 : Int32)) = (0 : Int32) then ((((x4.toUInt32 >>> ((1 : Int32) &&& 31).toUInt32).toInt32) &&& (255 : Int32)).toUInt32.toUInt16.toUInt32.toInt32) else (47 : Int32))))]) _
    rw [hq10]
    show SG p e below T9 (mkF m 32 #[lI x0, lI x1, lI x2, lI x3, lI x4, lI x5, lV vI1, lI x6, lI x7, lI x8, lU, lU, lU, lU, lU, lU] [(.int x9)]) _
    refine XS.istore X9.here hx rfl (hb hby at_32) rfl (l' := #[lI x0, lI x1, lI x2, lI x3, lI x4, lI x5, lV vI1, lI x6, lI x7, lI x8, lI x9, lU, lU, lU, lU, lU]) rfl ?_
    refine qi X9 hx hby at_34 ?_
    refine st11 _ ?_
    show SG p e below T11 (mkF m 39 #[lI x0, lI x1, lI x2, lI x3, lI x4, lI x5, lV vI1, lI x6, lI x7, lI x8, lI x9, lU, lU, lU, lU, lU] [(.int (nar .char (if (x5 &&& (1 : Int32)) = (0 : Int32) then ((((x5.toUInt32 >>> ((1 : Int32) &&& 31).toUInt32).toInt32) &&& (255 : Int32)).toUInt32.toUInt16.toUInt32.toInt32) else (47 : Int32))))]) _
    rw [hq12]
    show SG p e below T11 (mkF m 39 #[lI x0, lI x1, lI x2, lI x3, lI x4, lI x5, lV vI1, lI x6, lI x7, lI x8, lI x9, lU, lU, lU, lU, lU] [(.int x10)]) _
    refine XS.istore X11.here hx rfl (hb hby at_39) rfl (l' := #[lI x0, lI x1, lI x2, lI x3, lI x4, lI x5, lV vI1, lI x6, lI x7, lI x8, lI x9, lI x10, lU, lU, lU, lU]) rfl ?_
    refine qi X11 hx hby at_41 ?_
    refine qi X11 hx hby at_43 ?_
    refine qi X11 hx hby at_45 ?_
    refine qi X11 hx hby at_47 ?_
    refine qi X11 hx hby at_49 ?_
    refine qi X11 hx hby at_51 ?_
    refine st16 _ ?_
    show SG p e below T16 (mkF m 56 #[lI x0, lI x1, lI x2, lI x3, lI x4, lI x5, lV vI1, lI x6, lI x7, lI x8, lI x9, lI x10, lU, lU, lU, lU] [(.ref b16_0)]) _
    refine XS.astore X16.here hx rfl (hb hby at_56) rfl rfl (l' := #[lI x0, lI x1, lI x2, lI x3, lI x4, lI x5, lV vI1, lI x6, lI x7, lI x8, lI x9, lI x10, lR b16_0, lU, lU, lU]) rfl ?_
    refine qc X16 hx hby at_58 ?_
    refine XS.istore X16.here hx rfl (hb hby at_59) rfl (l' := #[lI x0, lI x1, lI x2, lI x3, lI x4, lI x5, lV vI1, lI x6, lI x7, lI x8, lI x9, lI x10, lR b16_0, .val (.int (-1 : Int32)), lU, lU]) rfl ?_
    refine qi X16 hx hby at_61 ?_
    refine XS.ifNo X16.here hx rfl (hb hby at_63) rfl ((if0 _ _).trans (tlt (by decide : (0 : Int32) < (1 : Int32))).2.2.2) ?_
    refine qi X16 hx hby at_66 ?_
    refine qb X16 hx hby at_68 ?_
    show SG p e below T16 (mkF m 70 #[lI x0, lI x1, lI x2, lI x3, lI x4, lI x5, lV vI1, lI x6, lI x7, lI x8, lI x9, lI x10, lR b16_0, .val (.int (-1 : Int32)), lU, lU] [vI47, (.int x6)]) _
    refine dm28 _ ?_
    show SG p e below T16 (mkF m 76 #[lI x0, lI x1, lI x2, lI x3, lI x4, lI x5, lV vI1, lI x6, lI x7, lI x8, lI x9, lI x10, lR b16_0, .val (.int (if x6 = (47 : Int32) then (0 : Int32) else (-1 : Int32))), lU, lU] []) _
    rw [hq29]
    show SG p e below T16 (mkF m 76 #[lI x0, lI x1, lI x2, lI x3, lI x4, lI x5, lV vI1, lI x6, lI x7, lI x8, lI x9, lI x10, lR b16_0, lI x12, lU, lU] []) _
    refine qi X16 hx hby at_76 ?_
    refine qc X16 hx hby at_78 ?_
    refine XS.icmpYes X16.here hx rfl (pc0 := 79) (pc' := 92) rfl (hb hby at_79) rfl (flt (by decide : ¬ ((1 : Int32) < (1 : Int32)))).2.2.2 (by decide) (by decide) ?_
    show SG p e below T16 (mkF m 92 #[lI x0, lI x1, lI x2, lI x3, lI x4, lI x5, lV vI1, lI x6, lI x7, lI x8, lI x9, lI x10, lR b16_0, lI x12, lU, lU] []) _
    refine qi X16 hx hby at_92 ?_
    refine qc X16 hx hby at_94 ?_
    refine XS.icmpYes X16.here hx rfl (pc0 := 95) (pc' := 108) rfl (hb hby at_95) rfl (flt (by decide : ¬ ((2 : Int32) < (1 : Int32)))).2.2.2 (by decide) (by decide) ?_
    show SG p e below T16 (mkF m 108 #[lI x0, lI x1, lI x2, lI x3, lI x4, lI x5, lV vI1, lI x6, lI x7, lI x8, lI x9, lI x10, lR b16_0, lI x12, lU, lU] []) _
    refine qi X16 hx hby at_108 ?_
    refine qc X16 hx hby at_110 ?_
    refine XS.icmpYes X16.here hx rfl (pc0 := 111) (pc' := 124) rfl (hb hby at_111) rfl (flt (by decide : ¬ ((3 : Int32) < (1 : Int32)))).2.2.2 (by decide) (by decide) ?_
    show SG p e below T16 (mkF m 124 #[lI x0, lI x1, lI x2, lI x3, lI x4, lI x5, lV vI1, lI x6, lI x7, lI x8, lI x9, lI x10, lR b16_0, lI x12, lU, lU] []) _
    refine qi X16 hx hby at_124 ?_
    refine qc X16 hx hby at_126 ?_
    refine XS.icmpYes X16.here hx rfl (pc0 := 127) (pc' := 140) rfl (hb hby at_127) rfl (flt (by decide : ¬ ((4 : Int32) < (1 : Int32)))).2.2.2 (by decide) (by decide) ?_
    show SG p e below T16 (mkF m 140 #[lI x0, lI x1, lI x2, lI x3, lI x4, lI x5, lV vI1, lI x6, lI x7, lI x8, lI x9, lI x10, lR b16_0, lI x12, lU, lU] []) _
    refine qa X16 hx hby at_140 ?_
    refine st31 _ ?_
    show SG p e below T31 (mkF m 145 #[lI x0, lI x1, lI x2, lI x3, lI x4, lI x5, lV vI1, lI x6, lI x7, lI x8, lI x9, lI x10, lR b16_0, lI x12, lU, lU] [.null]) _
    refine XS.astore X31.here hx rfl (hb hby at_145) rfl rfl (l' := #[lI x0, lI x1, lI x2, lI x3, lI x4, lI x5, lV vI1, lI x6, lI x7, lI x8, lI x9, lI x10, lR b16_0, lI x12, .val .null, lU]) rfl ?_
    refine qi X31 hx hby at_147 ?_
    refine XS.ifNo X31.here hx rfl (hb hby at_149) rfl ((if0 _ _).trans (flt hc32).2.2.1) ?_
    refine qa X31 hx hby at_152 ?_
    refine XS.ifnonnullNo X31.here hx rfl (hb hby at_154) rfl ?_
    refine qc X31 hx hby at_157 ?_
    refine XS.goto X31.here hx rfl (pc0 := 158) (pc' := 162) rfl (hb hby at_158) (by decide) (by decide) ?_
    show SG p e below T31 (mkF m 162 #[lI x0, lI x1, lI x2, lI x3, lI x4, lI x5, lV vI1, lI x6, lI x7, lI x8, lI x9, lI x10, lR b16_0, lI x12, .val .null, lU] [vI1]) _
    exact retN X31 hx (t := .boolean) hret (by simp) (hb hby at_162) hr
theorem d2_35 : DK cB2 35 (.iload_n 0) 1 := by decide +kernel
theorem d2_36 : DK cB2 36 (.iconst 2) 1 := by decide +kernel
theorem d2_37 : DK cB2 37 (.if_icmp .ne 22) 3 := by decide +kernel
theorem d2_40 : DK cB2 40 (.new 7) 3 := by decide +kernel
theorem d2_43 : DK cB2 43 (.dup) 1 := by decide +kernel
theorem d2_44 : DK cB2 44 (.iconst 2) 1 := by decide +kernel
theorem d2_45 : DK cB2 45 (.newarray .char) 2 := by decide +kernel
theorem d2_47 : DK cB2 47 (.dup) 1 := by decide +kernel
theorem d2_48 : DK cB2 48 (.iconst 0) 1 := by decide +kernel
theorem d2_49 : DK cB2 49 (.iload_n 1) 1 := by decide +kernel
theorem d2_50 : DK cB2 50 (.castore) 1 := by decide +kernel
theorem d2_51 : DK cB2 51 (.dup) 1 := by decide +kernel
theorem d2_52 : DK cB2 52 (.iconst 1) 1 := by decide +kernel
theorem d2_53 : DK cB2 53 (.iload_n 2) 1 := by decide +kernel
theorem d2_54 : DK cB2 54 (.castore) 1 := by decide +kernel
theorem d2_55 : DK cB2 55 (.invokespecial 9) 3 := by decide +kernel
theorem d2_58 : DK cB2 58 (.areturn) 1 := by decide +kernel
def Q2_3 (Z : State) (x0 x1 : Int32) (x2 x3 : Int32) (x4 x5 : Int32) (h0 : Heap) (n0 : Nat) (v : Option Value) (h : Heap) (L : List Loc) : Prop := ∃ (b1 b25_0 : Addr) (k25_0 : ClassId), v = some (.ref b1) ∧ Fr n0 L ∧ Keep h0 h [] ∧ h0.size ≤ b1 ∧ Exa Z h b1 "java/lang/String" ∧ Fld Z h b1 "java/lang/String" "coder" "B" vI0 ∧ Fld Z h b1 "java/lang/String" "value" "[B" (.ref b25_0) ∧ h0.size ≤ b25_0 ∧ Arv Z h b25_0 k25_0 .byte (2 : Int32) [(.int ((nar .char x0).toInt8.toInt32)), (.int ((nar .char x1).toInt8.toInt32))] vI0 ∧ Exa Z h b25_0 "[B" ∧ b1 ≠ b25_0
theorem rm2_3 (l : Launch) (Z : State) (a0 : Array Value) (hw : own_HW a0 Z) (ws : List Jvm.Cond) (x0 x1 : Int32) (x2 x3 : Int32) (x4 x5 : Int32) (h0 : Heap) (n0 : Nat) (O0 : Old Z n0 h0) (f16 : Sta Z Z.heap "java/lang/String" "COMPACT_STRINGS" "Z" (.int x5)) (hc20 : ¬ (x5 = (0 : Int32))) (hc23 : ¬ ((255 : Int32) < (nar .char x0))) (hc24 : ¬ ((255 : Int32) < (nar .char x1))) :
    own_MF l mN3 method_3_code 6 (some (.object "java/lang/String")) ws rR4_3_8_66 Z h0 #[vI2, (.int x0), (.int x1), (.int x2), (.int x3), (.int x4)] (Q2_3 Z x0 x1 x2 x3 x4 x5 h0 n0) := by
  refine own_open (plainFor_of_name pn_com_example_nearmiss_nearmiss_ElementParentPathPinLaw) (L0 := #[lV vI2, lI x0, lI x1, lI x2, lI x3, lI x4]) (fun _ => by first | (simp [entryFrame, mkF, argsToLocals, Value.category]; done) | rfl) ?_
  intro p e s m below meth c s₁ hx hby hml hret hnn hZ hown X0 e0
  have N0 := Fr.nil n0; have w := @ww Z a0 hw
  obtain ⟨T1, h1, X1, e1, E1, A1, D1, -, st1⟩ := newO X0 hx hZ hown (w 8 rfl) (w 9 rfl) (w 10 rfl) e0 (g := (mkF m 40 #[lV vI2, lI x0, lI x1, lI x2, lI x3, lI x4] [])) rfl (hb hby d2_40) (by decide) (by decide)
  obtain ⟨b1, g1⟩ : ∃ z, z = h0.size := ⟨_, rfl⟩
  rw [← g1] at A1 D1 st1
  have f2 : Fld Z h1 b1 "java/lang/String" "value" "[B" .null := D1 (Or.inr (w 24 rfl)) (ty := (.array .byte)) (by decide)
  have f3 : Fld Z h1 b1 "java/lang/String" "coder" "B" vI0 := D1 (Or.inr (w 25 rfl)) (ty := .byte) (by decide)
  obtain ⟨T4, h4, k4, X4, e4, E4, A4, B4, st4⟩ := newPE X1 hx hZ (w 11 rfl) e1 (g := (mkF m 45 #[lV vI2, lI x0, lI x1, lI x2, lI x3, lI x4] [vI2, (.ref b1), (.ref b1)])) rfl (hb hby d2_45) rfl (by decide) (cap := 2) (by decide) (by decide) (by decide) (by decide) (ad := "[C") rfl
  obtain ⟨b4, g4⟩ : ∃ z, z = h1.size := ⟨_, rfl⟩
  rw [← g4] at A4 B4 st4
  have V4 : Arv Z h4 b4 k4 .char (2 : Int32) [vI0, vI0] vI0 := (Arv.new A4 (by decide)).pad (pad_rep [] vI0 2)
  have o7 := Old.ext O0 E1
  have zz6 : n0 ≤ h1.size := by rw [← o7.1]; exact o7.2.1
  have g8 := Nat.le_trans zz6 (Nat.le_of_eq g4.symm)
  obtain ⟨T9, h9, L9, X9, e9, N9, K9, V9, st9⟩ := own_stC X4 hx hZ e4 (Keep.refl _ _) V4 N0 g8 0 rfl (Nat.le_of_ble_eq_true rfl) ⟨by decide, by decide⟩ (g := (mkF m 50 #[lV vI2, lI x0, lI x1, lI x2, lI x3, lI x4] [(.int x0), vI0, (.ref b4), (.ref b4), (.ref b1), (.ref b1)])) rfl rfl (hb hby d2_50)
  obtain ⟨T10, h10, L10, X10, e10, N10, K10, V10, st10⟩ := own_stC X9 hx hZ e9 K9 V9 N9 g8 1 rfl (Nat.le_of_ble_eq_true rfl) ⟨by decide, by decide⟩ (g := (mkF m 54 #[lV vI2, lI x0, lI x1, lI x2, lI x3, lI x4] [(.int x1), vI1, (.ref b4), (.ref b4), (.ref b1), (.ref b1)])) rfl rfl (hb hby d2_54)
  have f11 : Arv Z h10 b4 k4 .char (2 : Int32) [(.int (nar .char x0)), (.int (nar .char x1))] vI0 := V10
  have f12 := ((A1.ext E4).keep K10)
  have n13 := Nat.ne_of_lt (Nat.lt_of_lt_of_le A1.lt (Nat.le_of_eq g4.symm))
  have f14 := ((f2.ext E4).keep K10 (ninS n13 nin0))
  have f15 := ((f3.ext E4).keep K10 (ninS n13 nin0))
  have o17 := Old.ext o7 E4
  have o18 := Old.keep o17 K10 (allS g8 all0)
  have f19 := f16.ext o18.2
  have zz21 : n0 ≤ h0.size := by rw [← O0.1]; exact O0.2.1
  have g22 := Nat.le_trans zz21 (Nat.le_of_eq g1.symm)
  obtain ⟨_, T25, Lc25, X25, hQ25, st25⟩ := own_fin (X10.specialBack hx (y := mN2) rfl hown (mvT hZ (w 12 rfl)) (mvT hZ (w 13 rfl)) (mvT hZ (w 14 rfl)) (by decide) (own_newStr hZ hw (w 9 rfl) (cs := [(nar .char x0), (nar .char x1)]) (n := 2) g22 f12 f14 f15 f11 f19 hc20 rfl rfl (by decide) (by decide) (own_acS hc23 (own_acS hc24 own_ac0)) (own_bsS rfl (own_bsS rfl own_bs0)) (by decide) (by decide : 1 + 65 ≤ _)) (g := (mkF m 55 #[lV vI2, lI x0, lI x1, lI x2, lI x3, lI x4] [(.ref b4), (.ref b1), (.ref b1)])) rfl (by rw [hml]; rfl) (Steps.refl _) (a := b1) (argsL := [(.ref b4)]) (rest := [(.ref b1)]) (lenOf pd___C_V rfl) rfl (own_W rfl) (hb hby d2_55) (fun _ _ => ⟨rfl, e10, (by decide : 2 + 1 ≤ _), (by decide : 6 + 2 ≤ _)⟩))
  obtain ⟨b25_0, k25_0, rfl, N25q, K25, f26, f27, f28, f29, f30, f31⟩ := hQ25
  have N25 := Fr.app N10 N25q
  have f32 := (f12.keep K25)
  have zs33 := E1.1
  have zs34 := Nat.le_trans zs33 E4.1
  have zs35 := Nat.le_trans zs34 K10.1
  have zs36 := E4.1
  have zs37 := Nat.le_trans zs36 K10.1
  have n38 := Nat.ne_of_lt (Nat.lt_of_lt_of_le (Nat.lt_of_lt_of_le A1.lt zs37) f28)
  have kp39 : Keep h0 h1 [] := (Keep.refl h0 []).ext E1
  have kp40 : Keep h0 h4 [] := kp39.ext E4
  have kp41 : Keep h0 h10 [] := kp40.trans K10 (allS (Or.inr (Nat.le_trans zs33 (Nat.le_of_eq g4.symm))) all0)
  have kp42 : Keep h0 T25.heap [] := kp41.trans K25 (allS (Or.inr (Nat.le_of_eq g1.symm)) all0)
  refine ⟨some (.ref b1), _, _, _, _, nofun, X25, by decide, by decide, ?_, fun fs hr => ?_⟩
  · exact ⟨b1, b25_0, k25_0, rfl, N25, kp42, (Nat.le_of_eq g1.symm), f32, f26, f27, (Nat.le_trans zs35 f28), f29, f30, n38⟩
  · show SG p e below s₁ (mkF m 0 #[lV vI2, lI x0, lI x1, lI x2, lI x3, lI x4] []) _
    refine qiN X0 hx hby d2_0 ?_
    refine XS.ifYes X0.here hx rfl (pc0 := 1) (pc' := 15) rfl (hb hby d2_1) rfl ((if0 _ _).trans (tlt (by decide : (0 : Int32) < (2 : Int32))).2.2.1) (by decide) (by decide) ?_
    show SG p e below s₁ (mkF m 15 #[lV vI2, lI x0, lI x1, lI x2, lI x3, lI x4] []) _
    refine qiN X0 hx hby d2_15 ?_
    refine qc X0 hx hby d2_16 ?_
    refine XS.icmpYes X0.here hx rfl (pc0 := 17) (pc' := 35) rfl (hb hby d2_17) rfl (feq (by decide : ¬ ((2 : Int32) = (1 : Int32)))).2 (by decide) (by decide) ?_
    show SG p e below s₁ (mkF m 35 #[lV vI2, lI x0, lI x1, lI x2, lI x3, lI x4] []) _
    refine qiN X0 hx hby d2_35 ?_
    refine qc X0 hx hby d2_36 ?_
    refine XS.icmpNo X0.here hx rfl (hb hby d2_37) rfl (teq (rfl : (2 : Int32) = (2 : Int32))).2 ?_
    refine st1 _ ?_
    show SG p e below T1 (mkF m 43 #[lV vI2, lI x0, lI x1, lI x2, lI x3, lI x4] [(.ref b1)]) _
    refine qd X1 hx hby d2_43 ?_
    refine qc X1 hx hby d2_44 ?_
    refine st4 _ ?_
    show SG p e below T4 (mkF m 47 #[lV vI2, lI x0, lI x1, lI x2, lI x3, lI x4] [(.ref b4), (.ref b1), (.ref b1)]) _
    refine qd X4 hx hby d2_47 ?_
    refine qc X4 hx hby d2_48 ?_
    refine qiN X4 hx hby d2_49 ?_
    refine st9 _ ?_
    show SG p e below T9 (mkF m 51 #[lV vI2, lI x0, lI x1, lI x2, lI x3, lI x4] [(.ref b4), (.ref b1), (.ref b1)]) _
    refine qd X9 hx hby d2_51 ?_
    refine qc X9 hx hby d2_52 ?_
    refine qiN X9 hx hby d2_53 ?_
    refine st10 _ ?_
    show SG p e below T10 (mkF m 55 #[lV vI2, lI x0, lI x1, lI x2, lI x3, lI x4] [(.ref b4), (.ref b1), (.ref b1)]) _
    refine st25.trans ?_
    show SG p e below T25 (mkF m 58 #[lV vI2, lI x0, lI x1, lI x2, lI x3, lI x4] [(.ref b1)]) _
    exact retOut X25 hx (i := .areturn) hret rfl (Or.inr (Or.inr (Or.inr (Or.inr ⟨rfl, rfl, rfl⟩)))) (hb hby d2_58) hr
def Q6_4 (Z : State) (r0 r1 : Addr) (c2 : ClassId) (x3 x4 x5 : Int32) (h0 : Heap) (n0 : Nat) (v : Option Value) (h : Heap) (L : List Loc) : Prop := v = some .null ∧ Fr n0 L ∧ h = h0
theorem rm6_4 (l : Launch) (Z : State) (a0 : Array Value) (hw : own_HW a0 Z) (ws : List Jvm.Cond) (r0 r1 : Addr) (c2 : ClassId) (x3 x4 x5 : Int32) (h0 : Heap) (n0 : Nat) (O0 : Old Z n0 h0) (f1 : Fld Z h0 r0 "java/lang/String" "value" "[B" (.ref r1)) (f2 : Arv Z h0 r1 c2 .byte (2 : Int32) [(.int x3), (.int x4)] vI0) (f3 : Exa Z h0 r0 "java/lang/String") (f4 : Sta Z Z.heap "java/lang/String" "COMPACT_STRINGS" "Z" (.int x5)) (hc5 : ¬ (x5 = (0 : Int32))) (f6 : Fld Z h0 r0 "java/lang/String" "coder" "B" vI0) (hc7 : ¬ (x4 = (47 : Int32))) :
    MetFree l mN12 (head1 (Jvm.Cond.code mN12 prog_6_method_4_code 2 (some (.object "java/lang/String")) :: ws) rR4_0_0_55) (fun a U => a = #[(.ref r0)] ∧ Z.Warmed39 U.vm ∧ U.heap = h0) (fun _ _ _ _ _ => True) (fun _ U o U' => ∃ v L, o = .returned v ∧ Q6_4 Z r0 r1 c2 x3 x4 x5 h0 n0 v U'.heap L ∧ FrameEnd U o U' L rR4_0_0_55.cells rR4_0_0_55.slots) := by
  by_cases hs : x3 = (47 : Int32)
  · exact rm6_2 l Z a0 hw ws r0 r1 (2 : Int32) c2 ([(.int x3), (.int x4)]) x5 (0 : Int32) 1 (0 : Int32) x3 h0 n0 O0 f3 f1 f2 f4 hc5 f6 (by decide) (by decide) (by decide) (fun j hj => match j, hj with | 0, _ => ⟨by decide, rfl, by decide, by decide, by decide, by decide, own_atN (n := 1) (by decide) rfl hc7⟩ | z + 1, hz => absurd hz (by omega)) (by decide) (own_gd (n := 0) rfl rfl) (by decide) hs (by decide)
  · exact rm6_1 l Z a0 hw ws r0 r1 (2 : Int32) c2 ([(.int x3), (.int x4)]) x5 (0 : Int32) 2 (-1 : Int32) h0 n0 O0 f3 f1 f2 f4 hc5 f6 (by decide) (by decide) (by decide) (fun j hj => match j, hj with | 0, _ => ⟨by decide, rfl, by decide, by decide, by decide, by decide, own_atN (n := 0) (by decide) rfl hs⟩ | 1, _ => ⟨by decide, rfl, by decide, by decide, by decide, by decide, own_atN (n := 1) (by decide) rfl hc7⟩ | z + 2, hz => absurd hz (by omega)) (by decide)
def Q0_3 (Z : State) (x0 x1 : Int32) (x2 x3 : Int32) (x4 x5 : Int32) (x6 x7 : Int32) (x8 x9 : Int32) (x10 x11 : Int32) (x12 x13 : Int32) (h0 : Heap) (n0 : Nat) (v : Option Value) (h : Heap) (L : List Loc) : Prop := v = some vI1 ∧ Fr n0 L
theorem rm0_3 (l : Launch) (Z : State) (a0 : Array Value) (hw : own_HW a0 Z) (ws : List Jvm.Cond) (x0 x1 : Int32) (x2 x3 : Int32) (x4 x5 : Int32) (x6 x7 : Int32) (x8 x9 : Int32) (x10 x11 : Int32) (x12 x13 : Int32) (h0 : Heap) (n0 : Nat) (O0 : Old Z n0 h0) (hc2 : ((x0 &&& (2147483647 : Int32)) % (6 : Int32)) = (2 : Int32)) (hq4 : (nar .char (if (x1 &&& (1 : Int32)) = (0 : Int32) then ((((x1.toUInt32 >>> ((1 : Int32) &&& 31).toUInt32).toInt32) &&& (255 : Int32)).toUInt32.toUInt16.toUInt32.toInt32) else (47 : Int32))) = x6) (hq6 : (nar .char (if (x2 &&& (1 : Int32)) = (0 : Int32) then ((((x2.toUInt32 >>> ((1 : Int32) &&& 31).toUInt32).toInt32) &&& (255 : Int32)).toUInt32.toUInt16.toUInt32.toInt32) else (47 : Int32))) = x7) (hq8 : (nar .char (if (x3 &&& (1 : Int32)) = (0 : Int32) then ((((x3.toUInt32 >>> ((1 : Int32) &&& 31).toUInt32).toInt32) &&& (255 : Int32)).toUInt32.toUInt16.toUInt32.toInt32) else (47 : Int32))) = x8) (hq10 : (nar .char (if (x4 &&& (1 : Int32)) = (0 : Int32) then ((((x4.toUInt32 >>> ((1 : Int32) &&& 31).toUInt32).toInt32) &&& (255 : Int32)).toUInt32.toUInt16.toUInt32.toInt32) else (47 : Int32))) = x9) (hq12 : (nar .char (if (x5 &&& (1 : Int32)) = (0 : Int32) then ((((x5.toUInt32 >>> ((1 : Int32) &&& 31).toUInt32).toInt32) &&& (255 : Int32)).toUInt32.toUInt16.toUInt32.toInt32) else (47 : Int32))) = x10) (f13 : Sta Z Z.heap "java/lang/String" "COMPACT_STRINGS" "Z" (.int x11)) (hc14 : ¬ (x11 = (0 : Int32))) (hc15 : ¬ ((255 : Int32) < (nar .char x6))) (hc16 : ¬ ((255 : Int32) < (nar .char x7))) (hq30 : (if x6 = (47 : Int32) then (0 : Int32) else (-1 : Int32)) = x12) (hq32 : (if x7 = (47 : Int32) then (1 : Int32) else x12) = x13) (hc33 : ¬ (((nar .char x7).toInt8.toInt32) = (47 : Int32))) (hc36 : ¬ ((0 : Int32) < x13)) :
    own_MH l x code maxLocals ret ws room_1 Z h0 #[(.int x0), (.int x1), (.int x2), (.int x3), (.int x4), (.int x5)] (Q0_3 Z x0 x1 x2 x3 x4 x5 x6 x7 x8 x9 x10 x11 x12 x13 h0 n0) := by
  have hEL : EW Z a0 consts_1 := own_EW hw
  refine own_openH hEL (plainFor_of_name pn_com_example_nearmiss_nearmiss_ElementParentPathPinLaw) (L0 := #[lI x0, lI x1, lI x2, lI x3, lI x4, lI x5, lU, lU, lU, lU, lU, lU, lU, lU, lU, lU]) (fun _ => by first | (simp [entryFrame, mkF, argsToLocals, Value.category, maxLocals]; done) | rfl) ?_
  intro p e s m below meth c s₁ hx hby hml hret hnn hZ hown X0 e0 R0
  have N0 := Fr.nil n0; have w := @ww Z a0 hw
  have hS1 := (State.WarmedH.refl s).since 0
  obtain ⟨_, T3, Lc3, X3, hQ3, st3⟩ := own_cS X0 hx hZ hown e0 (rm1_1 l Z a0 hw [] x1 h0 n0 O0) (w 1 rfl) (w 2 rfl) (w 3 rfl) (w 4 rfl) (by decide) (W := 0) (by decide) (by decide) (by decide) (by decide) (g := (mkF m 10 #[lI x0, lI x1, lI x2, lI x3, lI x4, lI x5, lV vI2, lU, lU, lU, lU, lU, lU, lU, lU, lU] [(.int x1)])) rfl (by rw [hml]; rfl) (argsL := [(.int x1)]) (rest := []) (lenOf pd__I_C rfl) rfl (own_W rfl) (hb hby at_10)
  obtain ⟨rfl, N3q, E3⟩ := hQ3
  have N3 := Fr.app N0 N3q
  obtain ⟨_, T5, Lc5, X5, hQ5, st5⟩ := own_cS X3 hx hZ hown E3 (rm1_1 l Z a0 hw [] x2 h0 n0 O0) (w 1 rfl) (w 2 rfl) (w 3 rfl) (w 4 rfl) (by decide) (W := 0) (by decide) (by decide) (by decide) (by decide) (g := (mkF m 16 #[lI x0, lI x1, lI x2, lI x3, lI x4, lI x5, lV vI2, lI x6, lU, lU, lU, lU, lU, lU, lU, lU] [(.int x2)])) rfl (by rw [hml]; rfl) (argsL := [(.int x2)]) (rest := []) (lenOf pd__I_C rfl) rfl (own_W rfl) (hb hby at_16)
  obtain ⟨rfl, N5q, E5⟩ := hQ5
  have N5 := Fr.app N3 N5q
  obtain ⟨_, T7, Lc7, X7, hQ7, st7⟩ := own_cS X5 hx hZ hown E5 (rm1_1 l Z a0 hw [] x3 h0 n0 O0) (w 1 rfl) (w 2 rfl) (w 3 rfl) (w 4 rfl) (by decide) (W := 0) (by decide) (by decide) (by decide) (by decide) (g := (mkF m 22 #[lI x0, lI x1, lI x2, lI x3, lI x4, lI x5, lV vI2, lI x6, lI x7, lU, lU, lU, lU, lU, lU, lU] [(.int x3)])) rfl (by rw [hml]; rfl) (argsL := [(.int x3)]) (rest := []) (lenOf pd__I_C rfl) rfl (own_W rfl) (hb hby at_22)
  obtain ⟨rfl, N7q, E7⟩ := hQ7
  have N7 := Fr.app N5 N7q
  obtain ⟨_, T9, Lc9, X9, hQ9, st9⟩ := own_cS X7 hx hZ hown E7 (rm1_1 l Z a0 hw [] x4 h0 n0 O0) (w 1 rfl) (w 2 rfl) (w 3 rfl) (w 4 rfl) (by decide) (W := 0) (by decide) (by decide) (by decide) (by decide) (g := (mkF m 29 #[lI x0, lI x1, lI x2, lI x3, lI x4, lI x5, lV vI2, lI x6, lI x7, lI x8, lU, lU, lU, lU, lU, lU] [(.int x4)])) rfl (by rw [hml]; rfl) (argsL := [(.int x4)]) (rest := []) (lenOf pd__I_C rfl) rfl (own_W rfl) (hb hby at_29)
  obtain ⟨rfl, N9q, E9⟩ := hQ9
  have N9 := Fr.app N7 N9q
  obtain ⟨_, T11, Lc11, X11, hQ11, st11⟩ := own_cS X9 hx hZ hown E9 (rm1_1 l Z a0 hw [] x5 h0 n0 O0) (w 1 rfl) (w 2 rfl) (w 3 rfl) (w 4 rfl) (by decide) (W := 0) (by decide) (by decide) (by decide) (by decide) (g := (mkF m 36 #[lI x0, lI x1, lI x2, lI x3, lI x4, lI x5, lV vI2, lI x6, lI x7, lI x8, lI x9, lU, lU, lU, lU, lU] [(.int x5)])) rfl (by rw [hml]; rfl) (argsL := [(.int x5)]) (rest := []) (lenOf pd__I_C rfl) rfl (own_W rfl) (hb hby at_36)
  obtain ⟨rfl, N11q, E11⟩ := hQ11
  have N11 := Fr.app N9 N11q
  obtain ⟨_, T17, Lc17, X17, hQ17, st17⟩ := own_cS X11 hx hZ hown E11 (rm2_3 l Z a0 hw [] x6 x7 x8 x9 x10 x11 h0 n0 O0 f13 hc14 hc15 hc16) (w 5 rfl) (w 6 rfl) (w 3 rfl) (w 7 rfl) (by decide) (W := 0) (by decide) (by decide) (by decide) (by decide) (g := (mkF m 53 #[lI x0, lI x1, lI x2, lI x3, lI x4, lI x5, lV vI2, lI x6, lI x7, lI x8, lI x9, lI x10, lU, lU, lU, lU] [(.int x10), (.int x9), (.int x8), (.int x7), (.int x6), vI2])) rfl (by rw [hml]; rfl) (argsL := [vI2, (.int x6), (.int x7), (.int x8), (.int x9), (.int x10)]) (rest := []) (lenOf pd__ICCCCC_Ljava_lang_String_ rfl) rfl (own_W rfl) (hb hby at_53)
  obtain ⟨b17_0, b17_1, k17_0, rfl, N17q, K17, f18, f19, f20, f21, f22, f23, f24, f25⟩ := hQ17
  have N17 := Fr.app N11 N17q
  have R26 := CHr.trans R0 (CHr.keep K17 sf0 R0.1)
  have sf27 : Safe Z consts_1 s.vm h0 b17_0 := Safe.new f18
  have sf28 : Safe Z consts_1 s.vm h0 b17_1 := Safe.new f22
  have dm29 : ∀ t, Steps p.tables e below (T17.setTop (mkF m 76 #[lI x0, lI x1, lI x2, lI x3, lI x4, lI x5, lV vI2, lI x6, lI x7, lI x8, lI x9, lI x10, lR b17_0, .val (.int (if x6 = (47 : Int32) then (0 : Int32) else (-1 : Int32))), lU, lU] [])) t → Steps p.tables e below (T17.setTop (mkF m 70 #[lI x0, lI x1, lI x2, lI x3, lI x4, lI x5, lV vI2, lI x6, lI x7, lI x8, lI x9, lI x10, lR b17_0, .val (.int (-1 : Int32)), lU, lU] [vI47, (.int x6)])) t := by
    intro t kk
    by_cases hd : x6 = (47 : Int32)
    · show SG p e below T17 (mkF m 70 #[lI x0, lI x1, lI x2, lI x3, lI x4, lI x5, lV vI2, lI x6, lI x7, lI x8, lI x9, lI x10, lR b17_0, .val (.int (-1 : Int32)), lU, lU] [vI47, (.int x6)]) _
      refine XS.icmpNo X17.here hx rfl (hb hby at_70) rfl (teq hd).2 ?_
      refine qc X17 hx hby at_73 ?_
      refine XS.istore X17.here hx rfl (hb hby at_74) rfl (l' := #[lI x0, lI x1, lI x2, lI x3, lI x4, lI x5, lV vI2, lI x6, lI x7, lI x8, lI x9, lI x10, lR b17_0, lV vI0, lU, lU]) rfl ?_
      simp only [if_pos hd] at kk
      exact kk
    · show SG p e below T17 (mkF m 70 #[lI x0, lI x1, lI x2, lI x3, lI x4, lI x5, lV vI2, lI x6, lI x7, lI x8, lI x9, lI x10, lR b17_0, .val (.int (-1 : Int32)), lU, lU] [vI47, (.int x6)]) _
      refine XS.icmpYes X17.here hx rfl (pc0 := 70) (pc' := 76) rfl (hb hby at_70) rfl (feq hd).2 (by decide) (by decide) ?_
      simp only [if_neg hd] at kk
      exact kk
  have dm31 : ∀ t, Steps p.tables e below (T17.setTop (mkF m 92 #[lI x0, lI x1, lI x2, lI x3, lI x4, lI x5, lV vI2, lI x6, lI x7, lI x8, lI x9, lI x10, lR b17_0, .val (.int (if x7 = (47 : Int32) then (1 : Int32) else x12)), lU, lU] [])) t → Steps p.tables e below (T17.setTop (mkF m 86 #[lI x0, lI x1, lI x2, lI x3, lI x4, lI x5, lV vI2, lI x6, lI x7, lI x8, lI x9, lI x10, lR b17_0, lI x12, lU, lU] [vI47, (.int x7)])) t := by
    intro t kk
    by_cases hd : x7 = (47 : Int32)
    · show SG p e below T17 (mkF m 86 #[lI x0, lI x1, lI x2, lI x3, lI x4, lI x5, lV vI2, lI x6, lI x7, lI x8, lI x9, lI x10, lR b17_0, lI x12, lU, lU] [vI47, (.int x7)]) _
      refine XS.icmpNo X17.here hx rfl (hb hby at_86) rfl (teq hd).2 ?_
      refine qc X17 hx hby at_89 ?_
      refine XS.istore X17.here hx rfl (hb hby at_90) rfl (l' := #[lI x0, lI x1, lI x2, lI x3, lI x4, lI x5, lV vI2, lI x6, lI x7, lI x8, lI x9, lI x10, lR b17_0, lV vI1, lU, lU]) rfl ?_
      simp only [if_pos hd] at kk
      exact kk
    · show SG p e below T17 (mkF m 86 #[lI x0, lI x1, lI x2, lI x3, lI x4, lI x5, lV vI2, lI x6, lI x7, lI x8, lI x9, lI x10, lR b17_0, lI x12, lU, lU] [vI47, (.int x7)]) _
      refine XS.icmpYes X17.here hx rfl (pc0 := 86) (pc' := 92) rfl (hb hby at_86) rfl (feq hd).2 (by decide) (by decide) ?_
      simp only [if_neg hd] at kk
      exact kk
  have o34 := Old.keep O0 K17 all0
  obtain ⟨_, T35, Lc35, X35, hQ35, st35⟩ := own_cS X17 hx hZ hown rfl (rm6_4 l Z a0 hw [] b17_0 b17_1 k17_0 ((nar .char x6).toInt8.toInt32) ((nar .char x7).toInt8.toInt32) x11 T17.heap n0 o34 f21 f23 f19 f13 hc14 f20 hc33) (w 30 rfl) (w 31 rfl) (w 32 rfl) (w 33 rfl) (by decide) (W := 0) (by decide) (by decide) (by decide) (by decide) (g := (mkF m 142 #[lI x0, lI x1, lI x2, lI x3, lI x4, lI x5, lV vI2, lI x6, lI x7, lI x8, lI x9, lI x10, lR b17_0, lI x13, lU, lU] [(.ref b17_0)])) rfl (by rw [hml]; rfl) (argsL := [(.ref b17_0)]) (rest := []) (lenOf pd__Ljava_lang_String__Ljava_lang_String_ rfl) rfl (own_W rfl) (hb hby at_142)
  obtain ⟨rfl, N35q, E35⟩ := hQ35
  have N35 := Fr.app N17 N35q
  refine ⟨some vI1, _, _, _, _, _, _, _, nofun, X35, by decide, by decide, hS1, (by rw [E35]; exact (Nat.zero_le _)), hZ, E35, R26, ?_, fun fs hr => ?_⟩
  · rw [E35]; exact ⟨rfl, N35⟩
  · show SG p e below s₁ (mkF m 0 #[lI x0, lI x1, lI x2, lI x3, lI x4, lI x5, lU, lU, lU, lU, lU, lU, lU, lU, lU, lU] []) _
    refine qiN X0 hx hby at_0 ?_
    refine X0.ldcInt hx hown (mvT hZ (w 0 rfl)) (g := (mkF m 1 #[lI x0, lI x1, lI x2, lI x3, lI x4, lI x5, lU, lU, lU, lU, lU, lU, lU, lU, lU, lU] [(.int x0)])) rfl (hb hby at_1) _ ?_
    show SG p e below s₁ (mkF m 3 #[lI x0, lI x1, lI x2, lI x3, lI x4, lI x5, lU, lU, lU, lU, lU, lU, lU, lU, lU, lU] [vI2147483647, (.int x0)]) _
    refine XS.iand X0.here hx rfl (hb hby at_3) rfl ?_
    refine qb X0 hx hby at_4 ?_
    refine iremM (g := (mkF m 6 #[lI x0, lI x1, lI x2, lI x3, lI x4, lI x5, lU, lU, lU, lU, lU, lU, lU, lU, lU, lU] [vI6, (.int (x0 &&& (2147483647 : Int32)))])) X0 hx rfl (hb hby at_6) rfl (by decide : ¬ ((6 : Int32) = (0 : Int32))) ?_
    show SG p e below s₁ (mkF m 7 #[lI x0, lI x1, lI x2, lI x3, lI x4, lI x5, lU, lU, lU, lU, lU, lU, lU, lU, lU, lU] [(.int ((x0 &&& (2147483647 : Int32)) % (6 : Int32)))]) _
    rw [hc2]
    show SG p e below s₁ (mkF m 7 #[lI x0, lI x1, lI x2, lI x3, lI x4, lI x5, lU, lU, lU, lU, lU, lU, lU, lU, lU, lU] [vI2]) _
    refine XS.istore X0.here hx rfl (hb hby at_7) rfl (l' := #[lI x0, lI x1, lI x2, lI x3, lI x4, lI x5, lV vI2, lU, lU, lU, lU, lU, lU, lU, lU, lU]) rfl ?_
    refine qiN X0 hx hby at_9 ?_
    refine st3 _ ?_
    show SG p e below T3 (mkF m 13 #[lI x0, lI x1, lI x2, lI x3, lI x4, lI x5, lV vI2, lU, lU, lU, lU, lU, lU, lU, lU, lU] [(.int (nar .char (if (x1 &&& (1 : Int32)) = (0 : Int32) then ((((x1.toUInt32 >>> ((1 : Int32) &&& 31).toUInt32).toInt32) &&& (255 : Int32)).toUInt32.toUInt16.toUInt32.toInt32) else (47 : Int32))))]) _
    rw [hq4]
    show SG p e below T3 (mkF m 13 #[lI x0, lI x1, lI x2, lI x3, lI x4, lI x5, lV vI2, lU, lU, lU, lU, lU, lU, lU, lU, lU] [(.int x6)]) _
    refine XS.istore X3.here hx rfl (hb hby at_13) rfl (l' := #[lI x0, lI x1, lI x2, lI x3, lI x4, lI x5, lV vI2, lI x6, lU, lU, lU, lU, lU, lU, lU, lU]) rfl ?_
    refine qiN X3 hx hby at_15 ?_
    refine st5 _ ?_
    show SG p e below T5 (mkF m 19 #[lI x0, lI x1, lI x2, lI x3, lI x4, lI x5, lV vI2, lI x6, lU, lU, lU, lU, lU, lU, lU, lU] [(.int (nar .char (if (x2 &&& (1 : Int32)) = (0 : Int32) then ((((x2.toUInt32 >>> ((1 : Int32) &&& 31).toUInt32).toInt32) &&& (255 : Int32)).toUInt32.toUInt16.toUInt32.toInt32) else (47 : Int32))))]) _
    rw [hq6]
    show SG p e below T5 (mkF m 19 #[lI x0, lI x1, lI x2, lI x3, lI x4, lI x5, lV vI2, lI x6, lU, lU, lU, lU, lU, lU, lU, lU] [(.int x7)]) _
    refine XS.istore X5.here hx rfl (hb hby at_19) rfl (l' := #[lI x0, lI x1, lI x2, lI x3, lI x4, lI x5, lV vI2, lI x6, lI x7, lU, lU, lU, lU, lU, lU, lU]) rfl ?_
    refine qiN X5 hx hby at_21 ?_
    refine st7 _ ?_
    show SG p e below T7 (mkF m 25 #[lI x0, lI x1, lI x2, lI x3, lI x4, lI x5, lV vI2, lI x6, lI x7, lU, lU, lU, lU, lU, lU, lU] [(.int (nar .char (if (x3 &&& (1 : Int32)) = (0 : Int32) then ((((x3.toUInt32 >>> ((1 : Int32) &&& 31).toUInt32).toInt32) &&& (255 : Int32)).toUInt32.toUInt16.toUInt32.toInt32) else (47 : Int32))))]) _
    rw [hq8]
    show SG p e below T7 (mkF m 25 #[lI x0, lI x1, lI x2, lI x3, lI x4, lI x5, lV vI2, lI x6, lI x7, lU, lU, lU, lU, lU, lU, lU] [(.int x8)]) _
    refine XS.istore X7.here hx rfl (hb hby at_25) rfl (l' := #[lI x0, lI x1, lI x2, lI x3, lI x4, lI x5, lV vI2, lI x6, lI x7, lI x8, lU, lU, lU, lU, lU, lU]) rfl ?_
    refine qi X7 hx hby at_27 ?_
    refine st9 _ ?_
    show SG p e below T9 (mkF m 32 #[lI x0, lI x1, lI x2, lI x3, lI x4, lI x5, lV vI2, lI x6, lI x7, lI x8, lU, lU, lU, lU, lU, lU] [(.int (nar .char (if (x4 &&& (1 : Int32)) = (0 : Int32) then ((((x4.toUInt32 >>> ((1 : Int32) &&& 31).toUInt32).toInt32) &&& (255 : Int32)).toUInt32.toUInt16.toUInt32.toInt32) else (47 : Int32))))]) _
    rw [hq10]
    show SG p e below T9 (mkF m 32 #[lI x0, lI x1, lI x2, lI x3, lI x4, lI x5, lV vI2, lI x6, lI x7, lI x8, lU, lU, lU, lU, lU, lU] [(.int x9)]) _
    refine XS.istore X9.here hx rfl (hb hby at_32) rfl (l' := #[lI x0, lI x1, lI x2, lI x3, lI x4, lI x5, lV vI2, lI x6, lI x7, lI x8, lI x9, lU, lU, lU, lU, lU]) rfl ?_
    refine qi X9 hx hby at_34 ?_
    refine st11 _ ?_
    show SG p e below T11 (mkF m 39 #[lI x0, lI x1, lI x2, lI x3, lI x4, lI x5, lV vI2, lI x6, lI x7, lI x8, lI x9, lU, lU, lU, lU, lU] [(.int (nar .char (if (x5 &&& (1 : Int32)) = (0 : Int32) then ((((x5.toUInt32 >>> ((1 : Int32) &&& 31).toUInt32).toInt32) &&& (255 : Int32)).toUInt32.toUInt16.toUInt32.toInt32) else (47 : Int32))))]) _
    rw [hq12]
    show SG p e below T11 (mkF m 39 #[lI x0, lI x1, lI x2, lI x3, lI x4, lI x5, lV vI2, lI x6, lI x7, lI x8, lI x9, lU, lU, lU, lU, lU] [(.int x10)]) _
    refine XS.istore X11.here hx rfl (hb hby at_39) rfl (l' := #[lI x0, lI x1, lI x2, lI x3, lI x4, lI x5, lV vI2, lI x6, lI x7, lI x8, lI x9, lI x10, lU, lU, lU, lU]) rfl ?_
    refine qi X11 hx hby at_41 ?_
    refine qi X11 hx hby at_43 ?_
    refine qi X11 hx hby at_45 ?_
    refine qi X11 hx hby at_47 ?_
    refine qi X11 hx hby at_49 ?_
    refine qi X11 hx hby at_51 ?_
    refine st17 _ ?_
    show SG p e below T17 (mkF m 56 #[lI x0, lI x1, lI x2, lI x3, lI x4, lI x5, lV vI2, lI x6, lI x7, lI x8, lI x9, lI x10, lU, lU, lU, lU] [(.ref b17_0)]) _
    refine XS.astore X17.here hx rfl (hb hby at_56) rfl rfl (l' := #[lI x0, lI x1, lI x2, lI x3, lI x4, lI x5, lV vI2, lI x6, lI x7, lI x8, lI x9, lI x10, lR b17_0, lU, lU, lU]) rfl ?_
    refine qc X17 hx hby at_58 ?_
    refine XS.istore X17.here hx rfl (hb hby at_59) rfl (l' := #[lI x0, lI x1, lI x2, lI x3, lI x4, lI x5, lV vI2, lI x6, lI x7, lI x8, lI x9, lI x10, lR b17_0, .val (.int (-1 : Int32)), lU, lU]) rfl ?_
    refine qi X17 hx hby at_61 ?_
    refine XS.ifNo X17.here hx rfl (hb hby at_63) rfl ((if0 _ _).trans (tlt (by decide : (0 : Int32) < (2 : Int32))).2.2.2) ?_
    refine qi X17 hx hby at_66 ?_
    refine qb X17 hx hby at_68 ?_
    show SG p e below T17 (mkF m 70 #[lI x0, lI x1, lI x2, lI x3, lI x4, lI x5, lV vI2, lI x6, lI x7, lI x8, lI x9, lI x10, lR b17_0, .val (.int (-1 : Int32)), lU, lU] [vI47, (.int x6)]) _
    refine dm29 _ ?_
    show SG p e below T17 (mkF m 76 #[lI x0, lI x1, lI x2, lI x3, lI x4, lI x5, lV vI2, lI x6, lI x7, lI x8, lI x9, lI x10, lR b17_0, .val (.int (if x6 = (47 : Int32) then (0 : Int32) else (-1 : Int32))), lU, lU] []) _
    rw [hq30]
    show SG p e below T17 (mkF m 76 #[lI x0, lI x1, lI x2, lI x3, lI x4, lI x5, lV vI2, lI x6, lI x7, lI x8, lI x9, lI x10, lR b17_0, lI x12, lU, lU] []) _
    refine qi X17 hx hby at_76 ?_
    refine qc X17 hx hby at_78 ?_
    refine XS.icmpNo X17.here hx rfl (hb hby at_79) rfl (tlt (by decide : (1 : Int32) < (2 : Int32))).2.2.2 ?_
    refine qi X17 hx hby at_82 ?_
    refine qb X17 hx hby at_84 ?_
    show SG p e below T17 (mkF m 86 #[lI x0, lI x1, lI x2, lI x3, lI x4, lI x5, lV vI2, lI x6, lI x7, lI x8, lI x9, lI x10, lR b17_0, lI x12, lU, lU] [vI47, (.int x7)]) _
    refine dm31 _ ?_
    show SG p e below T17 (mkF m 92 #[lI x0, lI x1, lI x2, lI x3, lI x4, lI x5, lV vI2, lI x6, lI x7, lI x8, lI x9, lI x10, lR b17_0, .val (.int (if x7 = (47 : Int32) then (1 : Int32) else x12)), lU, lU] []) _
    rw [hq32]
    show SG p e below T17 (mkF m 92 #[lI x0, lI x1, lI x2, lI x3, lI x4, lI x5, lV vI2, lI x6, lI x7, lI x8, lI x9, lI x10, lR b17_0, lI x13, lU, lU] []) _
    refine qi X17 hx hby at_92 ?_
    refine qc X17 hx hby at_94 ?_
    refine XS.icmpYes X17.here hx rfl (pc0 := 95) (pc' := 108) rfl (hb hby at_95) rfl (flt (by decide : ¬ ((2 : Int32) < (2 : Int32)))).2.2.2 (by decide) (by decide) ?_
    show SG p e below T17 (mkF m 108 #[lI x0, lI x1, lI x2, lI x3, lI x4, lI x5, lV vI2, lI x6, lI x7, lI x8, lI x9, lI x10, lR b17_0, lI x13, lU, lU] []) _
    refine qi X17 hx hby at_108 ?_
    refine qc X17 hx hby at_110 ?_
    refine XS.icmpYes X17.here hx rfl (pc0 := 111) (pc' := 124) rfl (hb hby at_111) rfl (flt (by decide : ¬ ((3 : Int32) < (2 : Int32)))).2.2.2 (by decide) (by decide) ?_
    show SG p e below T17 (mkF m 124 #[lI x0, lI x1, lI x2, lI x3, lI x4, lI x5, lV vI2, lI x6, lI x7, lI x8, lI x9, lI x10, lR b17_0, lI x13, lU, lU] []) _
    refine qi X17 hx hby at_124 ?_
    refine qc X17 hx hby at_126 ?_
    refine XS.icmpYes X17.here hx rfl (pc0 := 127) (pc' := 140) rfl (hb hby at_127) rfl (flt (by decide : ¬ ((4 : Int32) < (2 : Int32)))).2.2.2 (by decide) (by decide) ?_
    show SG p e below T17 (mkF m 140 #[lI x0, lI x1, lI x2, lI x3, lI x4, lI x5, lV vI2, lI x6, lI x7, lI x8, lI x9, lI x10, lR b17_0, lI x13, lU, lU] []) _
    refine qa X17 hx hby at_140 ?_
    refine st35 _ ?_
    show SG p e below T35 (mkF m 145 #[lI x0, lI x1, lI x2, lI x3, lI x4, lI x5, lV vI2, lI x6, lI x7, lI x8, lI x9, lI x10, lR b17_0, lI x13, lU, lU] [.null]) _
    refine XS.astore X35.here hx rfl (hb hby at_145) rfl rfl (l' := #[lI x0, lI x1, lI x2, lI x3, lI x4, lI x5, lV vI2, lI x6, lI x7, lI x8, lI x9, lI x10, lR b17_0, lI x13, .val .null, lU]) rfl ?_
    refine qi X35 hx hby at_147 ?_
    refine XS.ifNo X35.here hx rfl (hb hby at_149) rfl ((if0 _ _).trans (flt hc36).2.2.1) ?_
    refine qa X35 hx hby at_152 ?_
    refine XS.ifnonnullNo X35.here hx rfl (hb hby at_154) rfl ?_
    refine qc X35 hx hby at_157 ?_
    refine XS.goto X35.here hx rfl (pc0 := 158) (pc' := 162) rfl (hb hby at_158) (by decide) (by decide) ?_
    show SG p e below T35 (mkF m 162 #[lI x0, lI x1, lI x2, lI x3, lI x4, lI x5, lV vI2, lI x6, lI x7, lI x8, lI x9, lI x10, lR b17_0, lI x13, .val .null, lU] [vI1]) _
    exact retN X35 hx (t := .boolean) hret (by simp) (hb hby at_162) hr
theorem d6_11 : DK cB6 11 (.aload_n 0) 1 := by decide +kernel
theorem d6_12 : DK cB6 12 (.iconst 0) 1 := by decide +kernel
theorem d6_13 : DK cB6 13 (.iload_n 1) 1 := by decide +kernel
theorem d6_14 : DK cB6 14 (.invokevirtual 30) 3 := by decide +kernel
theorem d18_0 : DK cB18 0 (.aload_n 0) 1 := by decide +kernel
theorem d18_1 : DK cB18 1 (.invokevirtual 505) 3 := by decide +kernel
theorem d18_4 : DK cB18 4 (.istore_n 3) 1 := by decide +kernel
theorem d18_5 : DK cB18 5 (.iload_n 1) 1 := by decide +kernel
theorem d18_6 : DK cB18 6 (.iload_n 2) 1 := by decide +kernel
theorem d18_7 : DK cB18 7 (.iload_n 3) 1 := by decide +kernel
theorem d18_8 : DK cB18 8 (.invokestatic 521) 3 := by decide +kernel
theorem d19_0 : DK cB19 0 (.iload_n 0) 1 := by decide +kernel
theorem d19_1 : DK cB19 1 (.iload_n 1) 1 := by decide +kernel
theorem d19_2 : DK cB19 2 (.iload_n 2) 1 := by decide +kernel
theorem d19_3 : DK cB19 3 (.getstatic 1053) 3 := by decide +kernel
theorem d19_6 : DK cB19 6 (.invokestatic 1062) 3 := by decide +kernel
theorem d20_0 : DK cB20 0 (.iload_n 0) 1 := by decide +kernel
theorem d20_1 : DK cB20 1 (.ifCond .lt 13) 3 := by decide +kernel
theorem d20_4 : DK cB20 4 (.iload_n 0) 1 := by decide +kernel
theorem d20_5 : DK cB20 5 (.iload_n 1) 1 := by decide +kernel
theorem d20_6 : DK cB20 6 (.if_icmp .gt 8) 3 := by decide +kernel
theorem d20_9 : DK cB20 9 (.iload_n 1) 1 := by decide +kernel
theorem d20_10 : DK cB20 10 (.iload_n 2) 1 := by decide +kernel
theorem d20_11 : DK cB20 11 (.if_icmp .le 11) 3 := by decide +kernel
theorem d20_22 : DK cB20 22 (.iload_n 0) 1 := by decide +kernel
theorem d20_23 : DK cB20 23 (.ireturn) 1 := by decide +kernel
theorem own_catR {v : Value} (h : v.isRef = true) : v = .null ∨ ∃ a, v = .ref a := by cases v <;> simp [Value.isRef] at h ⊢
theorem pn_jdk_internal_util_Preconditions : plainName cs4 = true := by first | (simp [plainName, overriddenIn]; done) | decide +kernel
def Q20_1 (Z : State) (x0 x1 : Int32) (u2 : Value) (h0 : Heap) (n0 : Nat) (v : Option Value) (h : Heap) (L : List Loc) : Prop := v = some vI0 ∧ Fr n0 L ∧ h = h0
theorem rm20_1 (l : Launch) (Z : State) (a0 : Array Value) (hw : own_HW a0 Z) (ws : List Jvm.Cond) (x0 x1 : Int32) (u2 : Value) (h0 : Heap) (n0 : Nat) (O0 : Old Z n0 h0) (hc1 : u2.isRef = true) (hc2 : ¬ (x0 < (0 : Int32))) (hc3 : ¬ (x1 < x0)) :
    MetFree l mN13 (head1 (Jvm.Cond.code mN13 jdk_41_method_12_code 4 (some .int) :: ws) rR0_0_0_0) (fun a U => a = #[vI0, (.int x0), (.int x1), u2] ∧ Z.Warmed39 U.vm ∧ U.heap = h0) (fun _ _ _ _ _ => True) (fun _ U o U' => ∃ v L, o = .returned v ∧ Q20_1 Z x0 x1 u2 h0 n0 v U'.heap L ∧ FrameEnd U o U' L rR0_0_0_0.cells rR0_0_0_0.slots) := by
  refine MetFree.of_bodySF (plainFor_of_name pn_jdk_internal_util_Preconditions) hisR ?_
  intro p e s m args below meth c s₁ Bd hml0 hP hK
  obtain ⟨rfl, hZ, hh⟩ := hP
  have hx := Bd.exec
  have hby := Bd.bytes
  have hml : c.maxLocals = 4 := hml0
  have hown : s.vm.findClass cs4 = some m.cls := findClass_of_methodNamed Bd.named
  have X0 : Stand p l e rR0_0_0_0 s m #[vI0, (.int x0), (.int x1), u2] below meth c s₁ [] 0 0 := Stand.of_body Bd
  have e0 : s₁.heap = h0 := by rw [← hh, Bd.state]; rfl
  have N0 := Fr.nil n0
  have pre0 : ∀ t, Steps p.tables e below (s₁.setTop (mkF m 0 #[lV vI0, lI x0, lI x1, .val u2] [])) t → Steps p.tables e below (s₁.setTop (entryFrame m #[vI0, (.int x0), (.int x1), u2] 4)) t := fun t k => castTop (by rcases own_catR hc1 with q | ⟨_, q⟩ <;> rw [q] <;> first | (simp [entryFrame, mkF, argsToLocals, Value.category]; done) | rfl) k
  obtain ⟨fs, hr, hrun, hended, hW, hsame⟩ := X0.leave (v := some vI0) (fun h => by rw [Bd.returns] at h; cases h)
  refine ⟨_, _, pre0 _ ?_, hrun, hended, _, _, rfl, ?_, ⟨_, rfl⟩, hW, hsame.mono (by decide) (by decide)⟩
  · show SG p e below s₁ (mkF m 0 #[lV vI0, lI x0, lI x1, .val u2] []) _
    refine qiN X0 hx hby d20_0 ?_
    refine XS.ifNo X0.here hx rfl (hb hby d20_1) rfl ((if0 _ _).trans (flt (by decide : ¬ ((0 : Int32) < (0 : Int32)))).1) ?_
    refine qiN X0 hx hby d20_4 ?_
    refine qiN X0 hx hby d20_5 ?_
    refine XS.icmpNo X0.here hx rfl (hb hby d20_6) rfl (flt hc2).2.2.1 ?_
    refine qiN X0 hx hby d20_9 ?_
    refine qiN X0 hx hby d20_10 ?_
    refine XS.icmpYes X0.here hx rfl (pc0 := 11) (pc' := 22) rfl (hb hby d20_11) rfl (flt hc3).2.2.2 (by decide) (by decide) ?_
    show SG p e below s₁ (mkF m 22 #[lV vI0, lI x0, lI x1, .val u2] []) _
    refine qiN X0 hx hby d20_22 ?_
    exact retOut X0 hx (i := .ireturn) Bd.returns rfl (Or.inl ⟨rfl, Or.inl rfl, _, rfl⟩) (hb hby d20_23) hr
  · show Q20_1 Z x0 x1 u2 h0 n0 _ s₁.heap _
    rw [e0]
    exact ⟨rfl, N0, rfl⟩
theorem pd__IIILjava_util_function_BiFunction__I : parseMethodDescriptor "(IIILjava/util/function/BiFunction;)I" = some ⟨[.int, .int, .int, (.object "java/util/function/BiFunction")], some .int⟩ := by decide +kernel
theorem d19_9 : DK cB19 9 (.pop) 1 := by decide +kernel
theorem d19_10 : DK cB19 10 (.return_) 1 := by decide +kernel
def Q19_1 (Z : State) (x0 x1 : Int32) (u2 : Value) (h0 : Heap) (n0 : Nat) (v : Option Value) (h : Heap) (L : List Loc) : Prop := v = none ∧ Fr n0 L ∧ h = h0
theorem rm19_1 (l : Launch) (Z : State) (a0 : Array Value) (hw : own_HW a0 Z) (ws : List Jvm.Cond) (x0 x1 : Int32) (u2 : Value) (h0 : Heap) (n0 : Nat) (O0 : Old Z n0 h0) (f1 : Sta Z Z.heap cs4 "SIOOBE_FORMATTER" cs5 u2) (hc4 : u2.isRef = true) (hc5 : ¬ (x0 < (0 : Int32))) (hc6 : ¬ (x1 < x0)) :
    own_MF l mN14 jdk_42_method_158_code 3 none ws rR1_0_0_15 Z h0 #[vI0, (.int x0), (.int x1)] (Q19_1 Z x0 x1 u2 h0 n0) := by
  refine own_open (plainFor_of_name pn_java_lang_String) (L0 := #[lV vI0, lI x0, lI x1]) (fun _ => by first | (simp [entryFrame, mkF, argsToLocals, Value.category]; done) | rfl) ?_
  intro p e s m below meth c s₁ hx hby hml hret hnn hZ hown X0 e0
  have N0 := Fr.nil n0; have w := @ww Z a0 hw
  have f2 := f1.ext O0.2
  obtain ⟨T3, X3, e3, st3⟩ := getS2 X0 hx hZ hown (host := "") (Or.inl (w 89 rfl)) Via.refl e0 f2 (g := (mkF m 3 #[lV vI0, lI x0, lI x1] [(.int x1), (.int x0), vI0])) rfl (hb hby d19_3)
  obtain ⟨_, T7, Lc7, X7, hQ7, st7⟩ := own_cS X3 hx hZ hown e3 (rm20_1 l Z a0 hw [] x0 x1 u2 h0 n0 O0 hc4 hc5 hc6) (w 91 rfl) (w 92 rfl) (w 90 rfl) (w 93 rfl) (by decide) (W := 0) (by decide) (by decide) (by decide) (by decide) (g := (mkF m 6 #[lV vI0, lI x0, lI x1] [u2, (.int x1), (.int x0), vI0])) rfl (by rw [hml]; rfl) (argsL := [vI0, (.int x0), (.int x1), u2]) (rest := []) (lenOf pd__IIILjava_util_function_BiFunction__I rfl) rfl (own_W rfl) (hb hby d19_6)
  obtain ⟨rfl, N7q, E7⟩ := hQ7
  have N7 := Fr.app N0 N7q
  refine ⟨none, _, _, _, _, (fun _ => rfl), X7, by decide, by decide, ?_, fun fs hr => ?_⟩
  · rw [E7]; exact ⟨rfl, N7, rfl⟩
  · show SG p e below s₁ (mkF m 0 #[lV vI0, lI x0, lI x1] []) _
    refine qiN X0 hx hby d19_0 ?_
    refine qiN X0 hx hby d19_1 ?_
    refine qiN X0 hx hby d19_2 ?_
    refine st3 _ ?_
    show SG p e below T3 (mkF m 6 #[lV vI0, lI x0, lI x1] [u2, (.int x1), (.int x0), vI0]) _
    refine st7 _ ?_
    show SG p e below T7 (mkF m 9 #[lV vI0, lI x0, lI x1] [vI0]) _
    refine XS.pop X7.here hx rfl (hb hby d19_9) rfl rfl ?_
    exact X7.returnOut hx hret (hb hby d19_10) hr
theorem pd__III_V : parseMethodDescriptor "(III)V" = some ⟨[.int, .int, .int], none⟩ := by decide +kernel
theorem d18_11 : DK cB18 11 (.iload_n 1) 1 := by decide +kernel
theorem d18_12 : DK cB18 12 (.ifCond .ne 10) 3 := by decide +kernel
theorem d18_15 : DK cB18 15 (.iload_n 2) 1 := by decide +kernel
theorem d18_16 : DK cB18 16 (.iload_n 3) 1 := by decide +kernel
theorem d18_17 : DK cB18 17 (.if_icmp .ne 5) 3 := by decide +kernel
theorem d18_22 : DK cB18 22 (.iload_n 2) 1 := by decide +kernel
theorem d18_23 : DK cB18 23 (.iload_n 1) 1 := by decide +kernel
theorem d18_24 : DK cB18 24 (.isub) 1 := by decide +kernel
theorem d18_25 : DK cB18 25 (.istore 4) 2 := by decide +kernel
theorem d18_27 : DK cB18 27 (.aload_n 0) 1 := by decide +kernel
theorem d18_28 : DK cB18 28 (.invokevirtual 492) 3 := by decide +kernel
theorem d18_31 : DK cB18 31 (.ifCond .eq 16) 3 := by decide +kernel
theorem d18_34 : DK cB18 34 (.aload_n 0) 1 := by decide +kernel
theorem d18_35 : DK cB18 35 (.getfield 9) 3 := by decide +kernel
theorem d18_38 : DK cB18 38 (.iload_n 1) 1 := by decide +kernel
theorem d18_39 : DK cB18 39 (.iload 4) 2 := by decide +kernel
theorem d18_41 : DK cB18 41 (.invokestatic 685) 3 := by decide +kernel
theorem d21_0 : DK cB21 0 (.iload_n 2) 1 := by decide +kernel
theorem d21_1 : DK cB21 1 (.ifCond .ne 6) 3 := by decide +kernel
theorem d21_7 : DK cB21 7 (.new 1) 3 := by decide +kernel
theorem d21_10 : DK cB21 10 (.dup) 1 := by decide +kernel
theorem d21_11 : DK cB21 11 (.aload_n 0) 1 := by decide +kernel
theorem d21_12 : DK cB21 12 (.iload_n 1) 1 := by decide +kernel
theorem d21_13 : DK cB21 13 (.iload_n 1) 1 := by decide +kernel
theorem d21_14 : DK cB21 14 (.iload_n 2) 1 := by decide +kernel
theorem d21_15 : DK cB21 15 (.iadd) 1 := by decide +kernel
theorem d21_16 : DK cB21 16 (.invokestatic 232) 3 := by decide +kernel
theorem d22_0 : DK cB22 0 (.iload_n 1) 1 := by decide +kernel
theorem d22_1 : DK cB22 1 (.ifCond .ne 9) 3 := by decide +kernel
theorem d22_4 : DK cB22 4 (.iload_n 2) 1 := by decide +kernel
theorem d22_5 : DK cB22 5 (.aload_n 0) 1 := by decide +kernel
theorem d22_6 : DK cB22 6 (.arraylength) 1 := by decide +kernel
theorem d22_7 : DK cB22 7 (.if_icmp .eq 10) 3 := by decide +kernel
theorem d22_10 : DK cB22 10 (.aload_n 0) 1 := by decide +kernel
theorem d22_11 : DK cB22 11 (.iload_n 1) 1 := by decide +kernel
theorem d22_12 : DK cB22 12 (.iload_n 2) 1 := by decide +kernel
theorem d22_13 : DK cB22 13 (.invokestatic 339) 3 := by decide +kernel
theorem d23_0 : DK cB23 0 (.iload_n 1) 1 := by decide +kernel
theorem d23_1 : DK cB23 1 (.iload_n 2) 1 := by decide +kernel
theorem d23_2 : DK cB23 2 (.invokestatic 343) 3 := by decide +kernel
theorem d24_0 : DK cB24 0 (.iload_n 1) 1 := by decide +kernel
theorem d24_1 : DK cB24 1 (.iload_n 0) 1 := by decide +kernel
theorem d24_2 : DK cB24 2 (.if_icmp .ge 35) 3 := by decide +kernel
theorem d24_37 : DK cB24 37 (.return_) 1 := by decide +kernel
theorem pn_java_util_Arrays : plainName "java/util/Arrays" = true := by first | (simp [plainName, overriddenIn]; done) | decide +kernel
def Q24_1 (Z : State) (x0 x1 : Int32) (h0 : Heap) (n0 : Nat) (v : Option Value) (h : Heap) (L : List Loc) : Prop := v = none ∧ Fr n0 L ∧ h = h0
theorem rm24_1 (l : Launch) (Z : State) (a0 : Array Value) (hw : own_HW a0 Z) (ws : List Jvm.Cond) (x0 x1 : Int32) (h0 : Heap) (n0 : Nat) (O0 : Old Z n0 h0) (hc1 : ¬ (x1 < x0)) :
    own_MF l mN15 jdk_65_method_131_code 2 none ws rR0_0_0_0 Z h0 #[(.int x0), (.int x1)] (Q24_1 Z x0 x1 h0 n0) := by
  refine own_open (plainFor_of_name pn_java_util_Arrays) (L0 := #[lI x0, lI x1]) (fun _ => by first | (simp [entryFrame, mkF, argsToLocals, Value.category]; done) | rfl) ?_
  intro p e s m below meth c s₁ hx hby hml hret hnn hZ hown X0 e0
  have N0 := Fr.nil n0
  refine ⟨none, _, _, _, _, (fun _ => rfl), X0, by decide, by decide, ?_, fun fs hr => ?_⟩
  · rw [e0]; exact ⟨rfl, N0, rfl⟩
  · show SG p e below s₁ (mkF m 0 #[lI x0, lI x1] []) _
    refine qiN X0 hx hby d24_0 ?_
    refine qiN X0 hx hby d24_1 ?_
    refine XS.icmpYes X0.here hx rfl (pc0 := 2) (pc' := 37) rfl (hb hby d24_2) rfl (flt hc1).2.1 (by decide) (by decide) ?_
    show SG p e below s₁ (mkF m 37 #[lI x0, lI x1] []) _
    exact X0.returnOut hx hret (hb hby d24_37) hr
theorem pd__II_V : parseMethodDescriptor "(II)V" = some ⟨[.int, .int], none⟩ := by decide +kernel
theorem d23_5 : DK cB23 5 (.iload_n 2) 1 := by decide +kernel
theorem d23_6 : DK cB23 6 (.iload_n 1) 1 := by decide +kernel
theorem d23_7 : DK cB23 7 (.isub) 1 := by decide +kernel
theorem d23_8 : DK cB23 8 (.istore_n 3) 1 := by decide +kernel
theorem d23_9 : DK cB23 9 (.iload_n 3) 1 := by decide +kernel
theorem d23_10 : DK cB23 10 (.newarray .byte) 2 := by decide +kernel
theorem d23_12 : DK cB23 12 (.astore 4) 2 := by decide +kernel
theorem d23_14 : DK cB23 14 (.aload_n 0) 1 := by decide +kernel
theorem d23_15 : DK cB23 15 (.iload_n 1) 1 := by decide +kernel
theorem d23_16 : DK cB23 16 (.aload 4) 2 := by decide +kernel
theorem d23_18 : DK cB23 18 (.iconst 0) 1 := by decide +kernel
theorem d23_19 : DK cB23 19 (.aload_n 0) 1 := by decide +kernel
theorem d23_20 : DK cB23 20 (.arraylength) 1 := by decide +kernel
theorem d23_21 : DK cB23 21 (.iload_n 1) 1 := by decide +kernel
theorem d23_22 : DK cB23 22 (.isub) 1 := by decide +kernel
theorem d23_23 : DK cB23 23 (.iload_n 3) 1 := by decide +kernel
theorem d23_24 : DK cB23 24 (.invokestatic 304) 3 := by decide +kernel
theorem d14_9 : DK cB14 9 (.iload_n 1) 1 := by decide +kernel
def Q14_2 (Z : State) (x0 x1 : Int32) (h0 : Heap) (n0 : Nat) (v : Option Value) (h : Heap) (L : List Loc) : Prop := v = some (.int x1) ∧ Fr n0 L ∧ h = h0
theorem rm14_2 (l : Launch) (Z : State) (a0 : Array Value) (hw : own_HW a0 Z) (ws : List Jvm.Cond) (x0 x1 : Int32) (h0 : Heap) (n0 : Nat) (O0 : Old Z n0 h0) (hc1 : x1 < x0) :
    own_MF l mN8 jdk_29_method_69_code 2 (some .int) ws rR0_0_0_0 Z h0 #[(.int x0), (.int x1)] (Q14_2 Z x0 x1 h0 n0) := by
  refine own_open (Jvm.Free.JP.mathPlain rfl (by decide +kernel)) (L0 := #[lI x0, lI x1]) (fun _ => by first | (simp [entryFrame, mkF, argsToLocals, Value.category]; done) | rfl) ?_
  intro p e s m below meth c s₁ hx hby hml hret hnn hZ hown X0 e0
  have N0 := Fr.nil n0
  refine ⟨some (.int x1), _, _, _, _, nofun, X0, by decide, by decide, ?_, fun fs hr => ?_⟩
  · rw [e0]; exact ⟨rfl, N0, rfl⟩
  · show SG p e below s₁ (mkF m 0 #[lI x0, lI x1] []) _
    refine qiN X0 hx hby d14_0 ?_
    refine qiN X0 hx hby d14_1 ?_
    refine XS.icmpYes X0.here hx rfl (pc0 := 2) (pc' := 9) rfl (hb hby d14_2) rfl (tlt hc1).2.2.1 (by decide) (by decide) ?_
    show SG p e below s₁ (mkF m 9 #[lI x0, lI x1] []) _
    refine qiN X0 hx hby d14_9 ?_
    exact retOut X0 hx (i := .ireturn) hret rfl (Or.inl ⟨rfl, Or.inl rfl, _, rfl⟩) (hb hby d14_10) hr
theorem d23_27 : DK cB23 27 (.invokestatic 150) 3 := by decide +kernel
theorem d23_30 : DK cB23 30 (.aload 4) 2 := by decide +kernel
theorem d23_32 : DK cB23 32 (.areturn) 1 := by decide +kernel
def Q23_1 (Z : State) (r0 : Addr) (x1 x2 : Int32) (c3 : ClassId) (t4 : List Value) (h0 : Heap) (n0 : Nat) (v : Option Value) (h : Heap) (L : List Loc) : Prop := ∃ (b5 : Addr) (k5 : ClassId), v = some (.ref b5) ∧ Fr n0 L ∧ Keep h0 h [] ∧ h0.size ≤ b5 ∧ Arv Z h b5 k5 .byte (x1 - (0 : Int32)) t4 vI0 ∧ Exa Z h b5 "[B"
theorem rm23_1 (l : Launch) (Z : State) (a0 : Array Value) (hw : own_HW a0 Z) (ws : List Jvm.Cond) (r0 : Addr) (x1 x2 : Int32) (c3 : ClassId) (t4 : List Value) (h0 : Heap) (n0 : Nat) (O0 : Old Z n0 h0) (hc1 : ¬ (x1 < (0 : Int32))) (hc3 : ¬ ((x1 - (0 : Int32)) < 0)) (hc4 : ((x1 - (0 : Int32))).toNatClampNeg ≤ 8) (f6 : Arv Z h0 r0 c3 .byte x2 t4 vI0) (hc9 : (x1 - (0 : Int32)) < (x2 - (0 : Int32))) (hc12 : ((x1 - (0 : Int32))).toNatClampNeg ≤ (x2).toNatClampNeg) :
    own_MF l mN16 jdk_65_method_133_code 5 (some (.array .byte)) ws rR1_1_8_24 Z h0 #[(.ref r0), vI0, (.int x1)] (Q23_1 Z r0 x1 x2 c3 t4 h0 n0) := by
  refine own_open (plainFor_of_name pn_java_util_Arrays) (L0 := #[lR r0, lV vI0, lI x1, lU, lU]) (fun _ => by first | (simp [entryFrame, mkF, argsToLocals, Value.category]; done) | rfl) ?_
  intro p e s m below meth c s₁ hx hby hml hret hnn hZ hown X0 e0
  have N0 := Fr.nil n0; have w := @ww Z a0 hw
  obtain ⟨_, T2, Lc2, X2, hQ2, st2⟩ := own_cS X0 hx hZ hown e0 (rm24_1 l Z a0 hw [] (0 : Int32) x1 h0 n0 O0 hc1) (w 105 rfl) (w 106 rfl) (w 100 rfl) (w 107 rfl) (by decide) (W := 0) (by decide) (by decide) (by decide) (by decide) (g := (mkF m 2 #[lR r0, lV vI0, lI x1, lU, lU] [(.int x1), vI0])) rfl (by rw [hml]; rfl) (argsL := [vI0, (.int x1)]) (rest := []) (lenOf pd__II_V rfl) rfl (own_W rfl) (hb hby d23_2)
  obtain ⟨rfl, N2q, E2⟩ := hQ2
  have N2 := Fr.app N0 N2q
  obtain ⟨T5, h5, k5, X5, e5, E5, A5, B5, st5⟩ := newPE X2 hx hZ (w 23 rfl) E2 (g := (mkF m 10 #[lR r0, lV vI0, lI x1, .val (.int (x1 - (0 : Int32))), lU] [(.int (x1 - (0 : Int32)))])) rfl (hb hby d23_10) rfl hc3 (cap := 8) hc4 (by decide) (by decide) (by decide) (ad := "[B") rfl
  obtain ⟨b5, g5⟩ : ∃ z, z = h0.size := ⟨_, rfl⟩
  rw [← g5] at A5 B5 st5
  have V5 : Arv Z h5 b5 k5 .byte (x1 - (0 : Int32)) [] vI0 := Arv.new A5 hc3
  have f7 := (f6.ext E5)
  obtain ⟨clq8, Arq8, qq8, Sq8, Nq8, Hq8, Gq8⟩ := id f7
  have o10 := Old.ext O0 E5
  obtain ⟨_, T11, Lc11, X11, hQ11, st11⟩ := own_cS X5 hx hZ hown e5 (rm14_2 l Z a0 hw [] (x2 - (0 : Int32)) (x1 - (0 : Int32)) h5 n0 o10 hc9) (w 108 rfl) (w 68 rfl) (w 69 rfl) (w 70 rfl) (by decide) (W := 4) (by decide) (by decide) (by decide) (by decide) (g := (mkF m 24 #[lR r0, lV vI0, lI x1, .val (.int (x1 - (0 : Int32))), lR b5] [(.int (x1 - (0 : Int32))), (.int (x2 - (0 : Int32))), vI0, (.ref b5), vI0, (.ref r0)])) rfl (by rw [hml]; rfl) (argsL := [(.int (x2 - (0 : Int32))), (.int (x1 - (0 : Int32)))]) (rest := [vI0, (.ref b5), vI0, (.ref r0)]) (lenOf pd__II_I rfl) rfl (own_W rfl) (hb hby d23_24)
  obtain ⟨rfl, N11q, E11⟩ := hQ11
  have N11 := Fr.app N2 N11q
  have zz13 : n0 ≤ h0.size := by rw [← O0.1]; exact O0.2.1
  have g14 := Nat.le_trans zz13 (Nat.le_of_eq g5.symm)
  obtain ⟨T15, h15, L15, X15, e15, N15, K15, B15, st15⟩ := cpA X11 hx hZ hown (w 109 rfl) (w 112 rfl) (w 110 rfl) (w 111 rfl) E11 f7 (own_padZ V5 ((x1 - (0 : Int32))).toNatClampNeg) (Or.inl ⟨rfl, rfl⟩) (by decide) (by decide) hc3 (by rw [show (0 : Int32).toNatClampNeg = 0 from rfl, Nat.zero_add]; exact hc12) (by rw [show (0 : Int32).toNatClampNeg = 0 from rfl, Nat.zero_add]; exact Nat.le_of_eq rfl) rfl (by rw [show (0 : Int32).toNatClampNeg = 0 from rfl, Nat.zero_add, List.length_replicate]; exact Nat.le_refl _) N11 g14 (g := (mkF m 27 #[lR r0, lV vI0, lI x1, .val (.int (x1 - (0 : Int32))), lR b5] [(.int (x1 - (0 : Int32))), vI0, (.ref b5), vI0, (.ref r0)])) rfl (by rw [hml]; rfl) rfl (hb hby d23_27) (by decide) (W := 0) (own_W rfl) (by decide)
  have V15 : Arv Z h15 b5 k5 .byte (x1 - (0 : Int32)) t4 vI0 := own_cpAll rfl B15
  have f16 := (B5.keep K15)
  have kp17 : Keep h0 h5 [] := (Keep.refl h0 []).ext E5
  have kp18 : Keep h0 h15 [] := kp17.trans K15 (allS (Or.inr (Nat.le_of_eq g5.symm)) all0)
  refine ⟨some (.ref b5), _, _, _, _, nofun, X15, by decide, by decide, ?_, fun fs hr => ?_⟩
  · rw [e15]; exact ⟨b5, k5, rfl, N15, kp18, (Nat.le_of_eq g5.symm), V15, f16⟩
  · show SG p e below s₁ (mkF m 0 #[lR r0, lV vI0, lI x1, lU, lU] []) _
    refine qiN X0 hx hby d23_0 ?_
    refine qiN X0 hx hby d23_1 ?_
    refine st2 _ ?_
    show SG p e below T2 (mkF m 5 #[lR r0, lV vI0, lI x1, lU, lU] []) _
    refine qiN X2 hx hby d23_5 ?_
    refine qiN X2 hx hby d23_6 ?_
    refine XS.isub X2.here hx rfl (hb hby d23_7) rfl ?_
    refine XS.istoreN X2.here hx rfl (hb hby d23_8) rfl (l' := #[lR r0, lV vI0, lI x1, .val (.int (x1 - (0 : Int32))), lU]) rfl ?_
    refine qiN X2 hx hby d23_9 ?_
    refine st5 _ ?_
    show SG p e below T5 (mkF m 12 #[lR r0, lV vI0, lI x1, .val (.int (x1 - (0 : Int32))), lU] [(.ref b5)]) _
    refine XS.astore X5.here hx rfl (hb hby d23_12) rfl rfl (l' := #[lR r0, lV vI0, lI x1, .val (.int (x1 - (0 : Int32))), lR b5]) rfl ?_
    refine qaN X5 hx hby d23_14 ?_
    refine qiN X5 hx hby d23_15 ?_
    refine qa X5 hx hby d23_16 ?_
    refine qc X5 hx hby d23_18 ?_
    refine qaN X5 hx hby d23_19 ?_
    refine X5.arraylength hx (by rw [e5]; exact Arq8.1) (State.isArrayOf_alike hZ.alike Arq8.2.1) (g := (mkF m 20 #[lR r0, lV vI0, lI x1, .val (.int (x1 - (0 : Int32))), lR b5] [(.ref r0), vI0, (.ref b5), vI0, (.ref r0)])) rfl rfl (hb hby d23_20) _ ?_
    rw [len_of Sq8 Nq8]
    show SG p e below T5 (mkF m 21 #[lR r0, lV vI0, lI x1, .val (.int (x1 - (0 : Int32))), lR b5] [(.int x2), vI0, (.ref b5), vI0, (.ref r0)]) _
    refine qiN X5 hx hby d23_21 ?_
    refine XS.isub X5.here hx rfl (hb hby d23_22) rfl ?_
    refine qiN X5 hx hby d23_23 ?_
    refine st11 _ ?_
    show SG p e below T11 (mkF m 27 #[lR r0, lV vI0, lI x1, .val (.int (x1 - (0 : Int32))), lR b5] [(.int (x1 - (0 : Int32))), vI0, (.ref b5), vI0, (.ref r0)]) _
    refine st15 _ ?_
    show SG p e below T15 (mkF m 30 #[lR r0, lV vI0, lI x1, .val (.int (x1 - (0 : Int32))), lR b5] []) _
    refine qa X15 hx hby d23_30 ?_
    exact retOut X15 hx (i := .areturn) hret rfl (Or.inr (Or.inr (Or.inr (Or.inr ⟨rfl, rfl, rfl⟩)))) (hb hby d23_32) hr
theorem pd___BII__B : parseMethodDescriptor "([BII)[B" = some ⟨[(.array .byte), .int, .int], some (.array .byte)⟩ := by decide +kernel
theorem d22_16 : DK cB22 16 (.areturn) 1 := by decide +kernel
def Q22_1 (Z : State) (r0 : Addr) (x1 x2 : Int32) (c3 : ClassId) (t4 : List Value) (h0 : Heap) (n0 : Nat) (v : Option Value) (h : Heap) (L : List Loc) : Prop := ∃ (b9_0 : Addr) (k9_0 : ClassId), v = some (.ref b9_0) ∧ Fr n0 L ∧ Keep h0 h [] ∧ h0.size ≤ b9_0 ∧ Arv Z h b9_0 k9_0 .byte (x1 - (0 : Int32)) t4 vI0 ∧ Exa Z h b9_0 "[B"
theorem rm22_1 (l : Launch) (Z : State) (a0 : Array Value) (hw : own_HW a0 Z) (ws : List Jvm.Cond) (r0 : Addr) (x1 x2 : Int32) (c3 : ClassId) (t4 : List Value) (h0 : Heap) (n0 : Nat) (O0 : Old Z n0 h0) (f1 : Arv Z h0 r0 c3 .byte x2 t4 vI0) (hc3 : ¬ (x1 = x2)) (hc4 : ¬ (x1 < (0 : Int32))) (hc5 : ¬ ((x1 - (0 : Int32)) < 0)) (hc6 : ((x1 - (0 : Int32))).toNatClampNeg ≤ 8) (hc7 : (x1 - (0 : Int32)) < (x2 - (0 : Int32))) (hc8 : ((x1 - (0 : Int32))).toNatClampNeg ≤ (x2).toNatClampNeg) :
    own_MF l mN17 jdk_65_method_132_code 3 (some (.array .byte)) ws rR2_1_8_40 Z h0 #[(.ref r0), vI0, (.int x1)] (Q22_1 Z r0 x1 x2 c3 t4 h0 n0) := by
  refine own_open (plainFor_of_name pn_java_util_Arrays) (L0 := #[lR r0, lV vI0, lI x1]) (fun _ => by first | (simp [entryFrame, mkF, argsToLocals, Value.category]; done) | rfl) ?_
  intro p e s m below meth c s₁ hx hby hml hret hnn hZ hown X0 e0
  have N0 := Fr.nil n0
  obtain ⟨clq2, Arq2, qq2, Sq2, Nq2, Hq2, Gq2⟩ := id f1
  obtain ⟨_, T9, Lc9, X9, hQ9, st9⟩ := own_cS X0 hx hZ hown e0 (rm23_1 l Z a0 hw [] r0 x1 x2 c3 t4 h0 n0 O0 hc4 hc5 hc6 f1 hc7 hc8) (ww hw 102 rfl) (ww hw 103 rfl) (ww hw 100 rfl) (ww hw 104 rfl) (by decide) (W := 0) (by decide) (by decide) (by decide) (by decide) (g := (mkF m 13 #[lR r0, lV vI0, lI x1] [(.int x1), vI0, (.ref r0)])) rfl (by rw [hml]; rfl) (argsL := [(.ref r0), vI0, (.int x1)]) (rest := []) (lenOf pd___BII__B rfl) rfl (own_W rfl) (hb hby d22_13)
  obtain ⟨b9_0, k9_0, rfl, N9q, K9, f10, f11, f12⟩ := hQ9
  have N9 := Fr.app N0 N9q
  have kp13 : Keep h0 T9.heap [] := (Keep.refl h0 []).trans K9 all0
  refine ⟨some (.ref b9_0), _, _, _, _, nofun, X9, by decide, by decide, ?_, fun fs hr => ?_⟩
  · exact ⟨b9_0, k9_0, rfl, N9, kp13, f10, f11, f12⟩
  · show SG p e below s₁ (mkF m 0 #[lR r0, lV vI0, lI x1] []) _
    refine qiN X0 hx hby d22_0 ?_
    refine XS.ifNo X0.here hx rfl (hb hby d22_1) rfl ((if0 _ _).trans (teq (rfl : (0 : Int32) = (0 : Int32))).2) ?_
    refine qiN X0 hx hby d22_4 ?_
    refine qaN X0 hx hby d22_5 ?_
    refine X0.arraylength hx (by rw [e0]; exact Arq2.1) (State.isArrayOf_alike hZ.alike Arq2.2.1) (g := (mkF m 6 #[lR r0, lV vI0, lI x1] [(.ref r0), (.int x1)])) rfl rfl (hb hby d22_6) _ ?_
    rw [len_of Sq2 Nq2]
    show SG p e below s₁ (mkF m 7 #[lR r0, lV vI0, lI x1] [(.int x2), (.int x1)]) _
    refine XS.icmpNo X0.here hx rfl (hb hby d22_7) rfl (feq hc3).1 ?_
    refine qaN X0 hx hby d22_10 ?_
    refine qiN X0 hx hby d22_11 ?_
    refine qiN X0 hx hby d22_12 ?_
    refine st9 _ ?_
    show SG p e below T9 (mkF m 16 #[lR r0, lV vI0, lI x1] [(.ref b9_0)]) _
    exact retOut X9 hx (i := .areturn) hret rfl (Or.inr (Or.inr (Or.inr (Or.inr ⟨rfl, rfl, rfl⟩)))) (hb hby d22_16) hr
theorem d21_19 : DK cB21 19 (.iconst 0) 1 := by decide +kernel
theorem d21_20 : DK cB21 20 (.invokespecial 112) 3 := by decide +kernel
theorem d25_0 : DK cB25 0 (.aload_n 0) 1 := by decide +kernel
theorem d25_1 : DK cB25 1 (.invokespecial 1) 3 := by decide +kernel
theorem d25_4 : DK cB25 4 (.aload_n 0) 1 := by decide +kernel
theorem d25_5 : DK cB25 5 (.aload_n 1) 1 := by decide +kernel
theorem d25_6 : DK cB25 6 (.putfield 9) 3 := by decide +kernel
theorem d25_9 : DK cB25 9 (.aload_n 0) 1 := by decide +kernel
theorem d25_10 : DK cB25 10 (.iload_n 2) 1 := by decide +kernel
theorem d25_11 : DK cB25 11 (.putfield 15) 3 := by decide +kernel
theorem d25_14 : DK cB25 14 (.return_) 1 := by decide +kernel
def Q25_1 (Z : State) (r0 r1 : Addr) (x2 x3 : Int32) (h0 : Heap) (n0 : Nat) (v : Option Value) (h : Heap) (L : List Loc) : Prop := v = none ∧ Fr n0 L ∧ Keep h0 h [r0] ∧ Fld Z h r0 "java/lang/String" "value" "[B" (.ref r1) ∧ Fld Z h r0 "java/lang/String" "coder" "B" (.int (x2.toInt8.toInt32))
theorem rm25_1 (l : Launch) (Z : State) (a0 : Array Value) (hw : own_HW a0 Z) (ws : List Jvm.Cond) (r0 r1 : Addr) (x2 x3 : Int32) (h0 : Heap) (n0 : Nat) (O0 : Old Z n0 h0) (f2 : Exa Z h0 r0 "java/lang/String") (f3 : Fld Z h0 r0 "java/lang/String" "value" "[B" .null) (g4 : n0 ≤ r0) (f7 : Fld Z h0 r0 "java/lang/String" "coder" "B" (.int x3)) :
    own_MF l mN18 jdk_42_method_151_code 3 none ws rR1_0_0_12 Z h0 #[(.ref r0), (.ref r1), (.int x2)] (Q25_1 Z r0 r1 x2 x3 h0 n0) := by
  refine own_open (plainFor_of_name pn_java_lang_String) (L0 := #[lR r0, lR r1, lI x2]) (fun _ => by first | (simp [entryFrame, mkF, argsToLocals, Value.category]; done) | rfl) ?_
  intro p e s m below meth c s₁ hx hby hml hret hnn hZ hown X0 e0
  have N0 := Fr.nil n0; have w := @ww Z a0 hw
  have hnm := (name_of_methodNamed hnn.1 hnn.2).1
  obtain ⟨T1, X1, e1, st1⟩ := initO X0 hx hZ hown (w 19 rfl) (w 20 rfl) (w 21 rfl) e0 (g := (mkF m 1 #[lR r0, lR r1, lI x2] [(.ref r0)])) rfl (by rw [hml]; rfl) rfl (hb hby d25_1) (by decide) (W := 0) (own_W rfl) (by decide)
  obtain ⟨T5, h5, X5, e5, W5, st5⟩ := putF X1 hx hZ hown (host := "") (Or.inl (w 28 rfl)) Via.refl e1 f3 f2 (Or.inr ⟨(w 24 rfl), rfl, hnm⟩) (w 9 rfl) (ty := (.array .byte)) (by decide) rfl rfl (g := (mkF m 6 #[lR r0, lR r1, lI x2] [(.ref r1), (.ref r0)])) rfl rfl (hb hby d25_6)
  have Fw5 := f3.same W5
  have N5 := Fr.snoc X5 N0 g4
  have f6 := (f2.wr W5)
  have f8 := (f7.other W5 (Or.inr (slot_ne (Or.inr (w 25 rfl)) (Or.inr (w 24 rfl)) (by decide) (t := .byte) (t' := (.array .byte)) (by decide) (by decide))))
  obtain ⟨T9, h9, X9, e9, W9, st9⟩ := putFN X5 hx hZ hown (w 29 rfl) Via.refl e5 f8 f6 (Or.inr ⟨(w 25 rfl), rfl, hnm⟩) (w 9 rfl) (ty := .byte) (v' := (.int (x2.toInt8.toInt32))) (by decide) rfl (fits_nar_byte _) (g := (mkF m 11 #[lR r0, lR r1, lI x2] [(.int x2), (.ref r0)])) rfl rfl (hb hby d25_11)
  have Fw9 := f8.same W9
  have N9 := Fr.snoc X9 N5 g4
  have f10 := (Fw5.other W9 (Or.inr (slot_ne (Or.inr (w 24 rfl)) (Or.inr (w 25 rfl)) (by decide) (t := (.array .byte)) (t' := .byte) (by decide) (by decide))))
  have kp11 : Keep h0 h5 [r0] := (Keep.refl h0 [r0]).wr W5 (Or.inl (List.mem_of_getElem? (i := 0) rfl))
  have kp12 : Keep h0 h9 [r0] := kp11.wr W9 (Or.inl (List.mem_of_getElem? (i := 0) rfl))
  refine ⟨none, _, _, _, _, (fun _ => rfl), X9, by decide, by decide, ?_, fun fs hr => ?_⟩
  · rw [e9]; exact ⟨rfl, N9, kp12, f10, Fw9⟩
  · show SG p e below s₁ (mkF m 0 #[lR r0, lR r1, lI x2] []) _
    refine qaN X0 hx hby d25_0 ?_
    refine st1 _ ?_
    show SG p e below T1 (mkF m 4 #[lR r0, lR r1, lI x2] []) _
    refine qaN X1 hx hby d25_4 ?_
    refine qaN X1 hx hby d25_5 ?_
    refine st5 _ ?_
    show SG p e below T5 (mkF m 9 #[lR r0, lR r1, lI x2] []) _
    refine qaN X5 hx hby d25_9 ?_
    refine qiN X5 hx hby d25_10 ?_
    refine st9 _ ?_
    show SG p e below T9 (mkF m 14 #[lR r0, lR r1, lI x2] []) _
    exact X9.returnOut hx hret (hb hby d25_14) hr
theorem pd___BB_V : parseMethodDescriptor "([BB)V" = some ⟨[(.array .byte), .byte], none⟩ := by decide +kernel
theorem d21_23 : DK cB21 23 (.areturn) 1 := by decide +kernel
def Q21_1 (Z : State) (r0 : Addr) (x1 x2 : Int32) (c3 : ClassId) (t4 : List Value) (h0 : Heap) (n0 : Nat) (v : Option Value) (h : Heap) (L : List Loc) : Prop := ∃ (b2 b14_0 : Addr) (k14_0 : ClassId), v = some (.ref b2) ∧ Fr n0 L ∧ Keep h0 h [] ∧ h0.size ≤ b2 ∧ Exa Z h b2 "java/lang/String" ∧ Fld Z h b2 "java/lang/String" "value" "[B" (.ref b14_0) ∧ Fld Z h b2 "java/lang/String" "coder" "B" vI0 ∧ h0.size ≤ b14_0 ∧ Arv Z h b14_0 k14_0 .byte (((0 : Int32) + x1) - (0 : Int32)) t4 vI0 ∧ Exa Z h b14_0 "[B" ∧ b2 ≠ b14_0
theorem rm21_1 (l : Launch) (Z : State) (a0 : Array Value) (hw : own_HW a0 Z) (ws : List Jvm.Cond) (r0 : Addr) (x1 x2 : Int32) (c3 : ClassId) (t4 : List Value) (h0 : Heap) (n0 : Nat) (O0 : Old Z n0 h0) (hc1 : ¬ (x1 = (0 : Int32))) (f5 : Arv Z h0 r0 c3 .byte x2 t4 vI0) (hc7 : ¬ (((0 : Int32) + x1) = x2)) (hc8 : ¬ (((0 : Int32) + x1) < (0 : Int32))) (hc9 : ¬ ((((0 : Int32) + x1) - (0 : Int32)) < 0)) (hc10 : ((((0 : Int32) + x1) - (0 : Int32))).toNatClampNeg ≤ 8) (hc11 : (((0 : Int32) + x1) - (0 : Int32)) < (x2 - (0 : Int32))) (hc12 : ((((0 : Int32) + x1) - (0 : Int32))).toNatClampNeg ≤ (x2).toNatClampNeg) :
    own_MF l mN19 jdk_43_method_47_code 3 (some (.object "java/lang/String")) ws rR3_2_12_56 Z h0 #[(.ref r0), vI0, (.int x1)] (Q21_1 Z r0 x1 x2 c3 t4 h0 n0) := by
  refine own_open (plainFor_of_name pn_java_lang_StringLatin1) (L0 := #[lR r0, lV vI0, lI x1]) (fun _ => by first | (simp [entryFrame, mkF, argsToLocals, Value.category]; done) | rfl) ?_
  intro p e s m below meth c s₁ hx hby hml hret hnn hZ hown X0 e0
  have N0 := Fr.nil n0; have w := @ww Z a0 hw
  obtain ⟨T2, h2, X2, e2, E2, A2, D2, -, st2⟩ := newO X0 hx hZ hown (w 97 rfl) (w 9 rfl) (w 10 rfl) e0 (g := (mkF m 7 #[lR r0, lV vI0, lI x1] [])) rfl (hb hby d21_7) (by decide) (by decide)
  obtain ⟨b2, g2⟩ : ∃ z, z = h0.size := ⟨_, rfl⟩
  rw [← g2] at A2 D2 st2
  have f3 : Fld Z h2 b2 "java/lang/String" "value" "[B" .null := D2 (Or.inr (w 24 rfl)) (ty := (.array .byte)) (by decide)
  have f4 : Fld Z h2 b2 "java/lang/String" "coder" "B" vI0 := D2 (Or.inr (w 25 rfl)) (ty := .byte) (by decide)
  have f6 := (f5.ext E2)
  have o13 := Old.ext O0 E2
  obtain ⟨_, T14, Lc14, X14, hQ14, st14⟩ := own_cS X2 hx hZ hown e2 (rm22_1 l Z a0 hw [] r0 ((0 : Int32) + x1) x2 c3 t4 h2 n0 o13 f6 hc7 hc8 hc9 hc10 hc11 hc12) (w 98 rfl) (w 99 rfl) (w 100 rfl) (w 101 rfl) (by decide) (W := 2) (by decide) (by decide) (by decide) (by decide) (g := (mkF m 16 #[lR r0, lV vI0, lI x1] [(.int ((0 : Int32) + x1)), vI0, (.ref r0), (.ref b2), (.ref b2)])) rfl (by rw [hml]; rfl) (argsL := [(.ref r0), vI0, (.int ((0 : Int32) + x1))]) (rest := [(.ref b2), (.ref b2)]) (lenOf pd___BII__B rfl) rfl (own_W rfl) (hb hby d21_16)
  obtain ⟨b14_0, k14_0, rfl, N14q, K14, f15, f16, f17⟩ := hQ14
  have N14 := Fr.app N0 N14q
  have f18 := (A2.keep K14)
  have f19 := (f3.keep K14 nin0)
  have zz20 : n0 ≤ h0.size := by rw [← O0.1]; exact O0.2.1
  have g21 := Nat.le_trans zz20 (Nat.le_of_eq g2.symm)
  have f22 := (f4.keep K14 nin0)
  have o23 := Old.keep o13 K14 all0
  obtain ⟨_, T24, Lc24, X24, hQ24, st24⟩ := own_fin (X14.specialBack hx (y := mN18) rfl hown (mvT hZ (w 113 rfl)) (mvT hZ (w 114 rfl)) (mvT hZ (w 115 rfl)) (by decide) (backOf (W := 1) (rm25_1 l Z a0 hw [] b2 b14_0 (0 : Int32) (0 : Int32) T14.heap n0 o23 f18 f19 g21 f22) hZ (w 115 rfl) (w 10 rfl) (by decide) (by decide)) (g := (mkF m 20 #[lR r0, lV vI0, lI x1] [vI0, (.ref b14_0), (.ref b2), (.ref b2)])) rfl (by rw [hml]; rfl) (Steps.refl _) (a := b2) (argsL := [(.ref b14_0), vI0]) (rest := [(.ref b2)]) (lenOf pd___BB_V rfl) rfl (own_W rfl) (hb hby d21_20) (fun _ _ => ⟨rfl, rfl, (by decide : 2 + 0 ≤ _), (by decide : 12 + 0 ≤ _)⟩))
  obtain ⟨rfl, N24q, K24, f25, f26⟩ := hQ24
  have N24 := Fr.app N14 N24q
  have f27 := (f18.keep K24)
  have zs28 := E2.1
  have n29 := Nat.ne_of_lt (Nat.lt_of_lt_of_le A2.lt f15)
  have f30 := (f16.keep K24 (ninS (Ne.symm n29) nin0))
  have f31 := (f17.keep K24)
  have kp32 : Keep h0 h2 [] := (Keep.refl h0 []).ext E2
  have kp33 : Keep h0 T14.heap [] := kp32.trans K14 all0
  have kp34 : Keep h0 T24.heap [] := kp33.trans K24 (allS (Or.inr (Nat.le_of_eq g2.symm)) all0)
  refine ⟨some (.ref b2), _, _, _, _, nofun, X24, by decide, by decide, ?_, fun fs hr => ?_⟩
  · exact ⟨b2, b14_0, k14_0, rfl, N24, kp34, (Nat.le_of_eq g2.symm), f27, f25, f26, (Nat.le_trans zs28 f15), f30, f31, n29⟩
  · show SG p e below s₁ (mkF m 0 #[lR r0, lV vI0, lI x1] []) _
    refine qiN X0 hx hby d21_0 ?_
    refine XS.ifYes X0.here hx rfl (pc0 := 1) (pc' := 7) rfl (hb hby d21_1) rfl ((if0 _ _).trans (feq hc1).2) (by decide) (by decide) ?_
    show SG p e below s₁ (mkF m 7 #[lR r0, lV vI0, lI x1] []) _
    refine st2 _ ?_
    show SG p e below T2 (mkF m 10 #[lR r0, lV vI0, lI x1] [(.ref b2)]) _
    refine qd X2 hx hby d21_10 ?_
    refine qaN X2 hx hby d21_11 ?_
    refine qiN X2 hx hby d21_12 ?_
    refine qiN X2 hx hby d21_13 ?_
    refine qiN X2 hx hby d21_14 ?_
    refine XS.iadd X2.here hx rfl (hb hby d21_15) rfl ?_
    refine st14 _ ?_
    show SG p e below T14 (mkF m 19 #[lR r0, lV vI0, lI x1] [(.ref b14_0), (.ref b2), (.ref b2)]) _
    refine qc X14 hx hby d21_19 ?_
    refine st24.trans ?_
    show SG p e below T24 (mkF m 23 #[lR r0, lV vI0, lI x1] [(.ref b2)]) _
    exact retOut X24 hx (i := .areturn) hret rfl (Or.inr (Or.inr (Or.inr (Or.inr ⟨rfl, rfl, rfl⟩)))) (hb hby d21_23) hr
theorem pd___BII_Ljava_lang_String_ : parseMethodDescriptor "([BII)Ljava/lang/String;" = some ⟨[(.array .byte), .int, .int], some (.object "java/lang/String")⟩ := by decide +kernel
theorem d18_44 : DK cB18 44 (.goto 13) 3 := by decide +kernel
theorem d18_57 : DK cB18 57 (.areturn) 1 := by decide +kernel
def Q18_1 (Z : State) (r0 : Addr) (x1 : Int32) (r2 : Addr) (x3 : Int32) (c4 : ClassId) (t5 : List Value) (x6 x7 : Int32) (u8 : Value) (h0 : Heap) (n0 : Nat) (v : Option Value) (h : Heap) (L : List Loc) : Prop := ∃ (b24_0 b24_1 : Addr) (k24_0 : ClassId), v = some (.ref b24_0) ∧ Fr n0 L ∧ Keep h0 h [] ∧ h0.size ≤ b24_0 ∧ Exa Z h b24_0 "java/lang/String" ∧ Fld Z h b24_0 "java/lang/String" "value" "[B" (.ref b24_1) ∧ Fld Z h b24_0 "java/lang/String" "coder" "B" vI0 ∧ h0.size ≤ b24_1 ∧ Arv Z h b24_1 k24_0 .byte (((0 : Int32) + (x1 - (0 : Int32))) - (0 : Int32)) t5 vI0 ∧ Exa Z h b24_1 "[B" ∧ b24_0 ≠ b24_1
theorem rm18_1 (l : Launch) (Z : State) (a0 : Array Value) (hw : own_HW a0 Z) (ws : List Jvm.Cond) (r0 : Addr) (x1 : Int32) (r2 : Addr) (x3 : Int32) (c4 : ClassId) (t5 : List Value) (x6 x7 : Int32) (u8 : Value) (h0 : Heap) (n0 : Nat) (O0 : Old Z n0 h0) (f1 : Exa Z h0 r0 "java/lang/String") (f2 : Fld Z h0 r0 "java/lang/String" "value" "[B" (.ref r2)) (f3 : Arv Z h0 r2 c4 .byte x3 t5 vI0) (f4 : Sta Z Z.heap "java/lang/String" "COMPACT_STRINGS" "Z" (.int x6)) (hc5 : ¬ (x6 = (0 : Int32))) (f6 : Fld Z h0 r0 "java/lang/String" "coder" "B" (.int x7)) (f8 : Sta Z Z.heap cs4 "SIOOBE_FORMATTER" cs5 u8) (hc9 : u8.isRef = true) (hc10 : ¬ (x1 < (0 : Int32))) (hc11 : ¬ ((x3 >>> ((nar .byte x7) &&& 31)) < x1)) (hc13 : ¬ (x1 = (x3 >>> ((nar .byte x7) &&& 31)))) (hc14 : x7 = (0 : Int32)) (hc17 : ¬ ((x1 - (0 : Int32)) = (0 : Int32))) (hc18 : ¬ (((0 : Int32) + (x1 - (0 : Int32))) = x3)) (hc19 : ¬ (((0 : Int32) + (x1 - (0 : Int32))) < (0 : Int32))) (hc20 : ¬ ((((0 : Int32) + (x1 - (0 : Int32))) - (0 : Int32)) < 0)) (hc21 : ((((0 : Int32) + (x1 - (0 : Int32))) - (0 : Int32))).toNatClampNeg ≤ 8) (hc22 : (((0 : Int32) + (x1 - (0 : Int32))) - (0 : Int32)) < (x3 - (0 : Int32))) (hc23 : ((((0 : Int32) + (x1 - (0 : Int32))) - (0 : Int32))).toNatClampNeg ≤ (x3).toNatClampNeg) :
    own_MF l mN20 jdk_42_method_92_code 5 (some (.object "java/lang/String")) ws rR4_2_12_70 Z h0 #[(.ref r0), vI0, (.int x1)] (Q18_1 Z r0 x1 r2 x3 c4 t5 x6 x7 u8 h0 n0) := by
  refine own_open (plainFor_of_name pn_java_lang_String) (L0 := #[lR r0, lV vI0, lI x1, lU, lU]) (fun _ => by first | (simp [entryFrame, mkF, argsToLocals, Value.category]; done) | rfl) ?_
  intro p e s m below meth c s₁ hx hby hml hret hnn hZ hown X0 e0
  have N0 := Fr.nil n0; have w := @ww Z a0 hw
  obtain ⟨_, T7, Lc7, X7, hQ7, st7⟩ := own_cV X0 hx hZ hown e0 (rm8_1 l Z a0 hw [] r0 r2 x3 c4 t5 x6 x7 h0 n0 O0 f2 f3 f1 f4 hc5 f6) f1 (w 39 rfl) (w 40 rfl) (w 42 rfl) (w 41 rfl) (w 43 rfl) (w 10 rfl) (by decide) (W := 0) (by decide) (by decide) (by decide) (by decide) (g := (mkF m 1 #[lR r0, lV vI0, lI x1, lU, lU] [(.ref r0)])) rfl (by rw [hml]; rfl) (argsL := []) (rest := []) (lenOf pd___I rfl) rfl (own_W rfl) (hb hby d18_1)
  obtain ⟨rfl, N7q, E7⟩ := hQ7
  have N7 := Fr.app N0 N7q
  obtain ⟨_, T12, Lc12, X12, hQ12, st12⟩ := own_cS X7 hx hZ hown E7 (rm19_1 l Z a0 hw [] x1 (x3 >>> ((nar .byte x7) &&& 31)) u8 h0 n0 O0 f8 hc9 hc10 hc11) (w 86 rfl) (w 87 rfl) (w 10 rfl) (w 88 rfl) (by decide) (W := 0) (by decide) (by decide) (by decide) (by decide) (g := (mkF m 8 #[lR r0, lV vI0, lI x1, .val (.int (x3 >>> ((nar .byte x7) &&& 31))), lU] [(.int (x3 >>> ((nar .byte x7) &&& 31))), (.int x1), vI0])) rfl (by rw [hml]; rfl) (argsL := [vI0, (.int x1), (.int (x3 >>> ((nar .byte x7) &&& 31)))]) (rest := []) (lenOf pd__III_V rfl) rfl (own_W rfl) (hb hby d18_8)
  obtain ⟨rfl, N12q, E12⟩ := hQ12
  have N12 := Fr.app N7 N12q
  obtain ⟨_, T15, Lc15, X15, hQ15, st15⟩ := own_cV X12 hx hZ hown E12 (rm11_1 l Z a0 hw [] r0 x6 x7 h0 n0 O0 f4 hc5 f6 hc14) f1 (w 55 rfl) (w 56 rfl) (w 58 rfl) (w 57 rfl) (w 59 rfl) (w 10 rfl) (by decide) (W := 0) (by decide) (by decide) (by decide) (by decide) (g := (mkF m 28 #[lR r0, lV vI0, lI x1, .val (.int (x3 >>> ((nar .byte x7) &&& 31))), .val (.int (x1 - (0 : Int32)))] [(.ref r0)])) rfl (by rw [hml]; rfl) (argsL := []) (rest := []) (lenOf pd___Z rfl) rfl (own_W rfl) (hb hby d18_28)
  obtain ⟨rfl, N15q, E15⟩ := hQ15
  have N15 := Fr.app N12 N15q
  obtain ⟨T16, X16, e16, st16⟩ := getF X15 hx hZ hown (host := "") (Or.inl (w 28 rfl)) Via.refl E15 f2 (g := (mkF m 35 #[lR r0, lV vI0, lI x1, .val (.int (x3 >>> ((nar .byte x7) &&& 31))), .val (.int (x1 - (0 : Int32)))] [(.ref r0)])) rfl rfl (hb hby d18_35)
  obtain ⟨_, T24, Lc24, X24, hQ24, st24⟩ := own_cS X16 hx hZ hown e16 (rm21_1 l Z a0 hw [] r2 (x1 - (0 : Int32)) x3 c4 t5 h0 n0 O0 hc17 f3 hc18 hc19 hc20 hc21 hc22 hc23) (w 94 rfl) (w 95 rfl) (w 62 rfl) (w 96 rfl) (by decide) (W := 0) (by decide) (by decide) (by decide) (by decide) (g := (mkF m 41 #[lR r0, lV vI0, lI x1, .val (.int (x3 >>> ((nar .byte x7) &&& 31))), .val (.int (x1 - (0 : Int32)))] [(.int (x1 - (0 : Int32))), vI0, (.ref r2)])) rfl (by rw [hml]; rfl) (argsL := [(.ref r2), vI0, (.int (x1 - (0 : Int32)))]) (rest := []) (lenOf pd___BII_Ljava_lang_String_ rfl) rfl (own_W rfl) (hb hby d18_41)
  obtain ⟨b24_0, b24_1, k24_0, rfl, N24q, K24, f25, f26, f27, f28, f29, f30, f31, f32⟩ := hQ24
  have N24 := Fr.app N15 N24q
  have kp33 : Keep h0 T24.heap [] := (Keep.refl h0 []).trans K24 all0
  refine ⟨some (.ref b24_0), _, _, _, _, nofun, X24, by decide, by decide, ?_, fun fs hr => ?_⟩
  · exact ⟨b24_0, b24_1, k24_0, rfl, N24, kp33, f25, f26, f27, f28, f29, f30, f31, f32⟩
  · show SG p e below s₁ (mkF m 0 #[lR r0, lV vI0, lI x1, lU, lU] []) _
    refine qaN X0 hx hby d18_0 ?_
    refine st7 _ ?_
    show SG p e below T7 (mkF m 4 #[lR r0, lV vI0, lI x1, lU, lU] [(.int (x3 >>> ((nar .byte x7) &&& 31)))]) _
    refine XS.istoreN X7.here hx rfl (hb hby d18_4) rfl (l' := #[lR r0, lV vI0, lI x1, .val (.int (x3 >>> ((nar .byte x7) &&& 31))), lU]) rfl ?_
    refine qiN X7 hx hby d18_5 ?_
    refine qiN X7 hx hby d18_6 ?_
    refine qiN X7 hx hby d18_7 ?_
    refine st12 _ ?_
    show SG p e below T12 (mkF m 11 #[lR r0, lV vI0, lI x1, .val (.int (x3 >>> ((nar .byte x7) &&& 31))), lU] []) _
    refine qiN X12 hx hby d18_11 ?_
    refine XS.ifNo X12.here hx rfl (hb hby d18_12) rfl ((if0 _ _).trans (teq (rfl : (0 : Int32) = (0 : Int32))).2) ?_
    refine qiN X12 hx hby d18_15 ?_
    refine qiN X12 hx hby d18_16 ?_
    refine XS.icmpYes X12.here hx rfl (pc0 := 17) (pc' := 22) rfl (hb hby d18_17) rfl (feq hc13).2 (by decide) (by decide) ?_
    show SG p e below T12 (mkF m 22 #[lR r0, lV vI0, lI x1, .val (.int (x3 >>> ((nar .byte x7) &&& 31))), lU] []) _
    refine qiN X12 hx hby d18_22 ?_
    refine qiN X12 hx hby d18_23 ?_
    refine XS.isub X12.here hx rfl (hb hby d18_24) rfl ?_
    refine XS.istore X12.here hx rfl (hb hby d18_25) rfl (l' := #[lR r0, lV vI0, lI x1, .val (.int (x3 >>> ((nar .byte x7) &&& 31))), .val (.int (x1 - (0 : Int32)))]) rfl ?_
    refine qaN X12 hx hby d18_27 ?_
    refine st15 _ ?_
    show SG p e below T15 (mkF m 31 #[lR r0, lV vI0, lI x1, .val (.int (x3 >>> ((nar .byte x7) &&& 31))), .val (.int (x1 - (0 : Int32)))] [vI1]) _
    refine XS.ifNo X15.here hx rfl (hb hby d18_31) rfl ((if0 _ _).trans (feq (by decide : ¬ ((1 : Int32) = (0 : Int32)))).1) ?_
    refine qaN X15 hx hby d18_34 ?_
    refine st16 _ ?_
    show SG p e below T16 (mkF m 38 #[lR r0, lV vI0, lI x1, .val (.int (x3 >>> ((nar .byte x7) &&& 31))), .val (.int (x1 - (0 : Int32)))] [(.ref r2)]) _
    refine qiN X16 hx hby d18_38 ?_
    refine qi X16 hx hby d18_39 ?_
    refine st24 _ ?_
    show SG p e below T24 (mkF m 44 #[lR r0, lV vI0, lI x1, .val (.int (x3 >>> ((nar .byte x7) &&& 31))), .val (.int (x1 - (0 : Int32)))] [(.ref b24_0)]) _
    refine XS.goto X24.here hx rfl (pc0 := 44) (pc' := 57) rfl (hb hby d18_44) (by decide) (by decide) ?_
    show SG p e below T24 (mkF m 57 #[lR r0, lV vI0, lI x1, .val (.int (x3 >>> ((nar .byte x7) &&& 31))), .val (.int (x1 - (0 : Int32)))] [(.ref b24_0)]) _
    exact retOut X24 hx (i := .areturn) hret rfl (Or.inr (Or.inr (Or.inr (Or.inr ⟨rfl, rfl, rfl⟩)))) (hb hby d18_57) hr
theorem pd__II_Ljava_lang_String_ : parseMethodDescriptor "(II)Ljava/lang/String;" = some ⟨[.int, .int], some (.object "java/lang/String")⟩ := by decide +kernel
theorem d6_17 : DK cB6 17 (.goto 4) 3 := by decide +kernel
def Q6_5 (Z : State) (r0 r1 : Addr) (x2 : Int32) (c3 : ClassId) (t4 : List Value) (x5 x6 : Int32) (w7 : Nat) (x8 x9 : Int32) (u10 : Value) (h0 : Heap) (n0 : Nat) (v : Option Value) (h : Heap) (L : List Loc) : Prop := ∃ (b28_0 b28_1 : Addr) (k28_0 : ClassId), v = some (.ref b28_0) ∧ Fr n0 L ∧ Keep h0 h [] ∧ h0.size ≤ b28_0 ∧ Exa Z h b28_0 "java/lang/String" ∧ Fld Z h b28_0 "java/lang/String" "value" "[B" (.ref b28_1) ∧ Fld Z h b28_0 "java/lang/String" "coder" "B" vI0 ∧ h0.size ≤ b28_1 ∧ Arv Z h b28_1 k28_0 .byte (((0 : Int32) + (x8 - (0 : Int32))) - (0 : Int32)) t4 vI0 ∧ Exa Z h b28_1 "[B" ∧ b28_0 ≠ b28_1
theorem rm6_5 (l : Launch) (Z : State) (a0 : Array Value) (hw : own_HW a0 Z) (ws : List Jvm.Cond) (r0 r1 : Addr) (x2 : Int32) (c3 : ClassId) (t4 : List Value) (x5 x6 : Int32) (w7 : Nat) (x8 x9 : Int32) (u10 : Value) (h0 : Heap) (n0 : Nat) (O0 : Old Z n0 h0) (f1 : Exa Z h0 r0 "java/lang/String") (f2 : Fld Z h0 r0 "java/lang/String" "value" "[B" (.ref r1)) (f3 : Arv Z h0 r1 c3 .byte x2 t4 vI0) (f4 : Sta Z Z.heap "java/lang/String" "COMPACT_STRINGS" "Z" (.int x5)) (hc5 : ¬ (x5 = (0 : Int32))) (f6 : Fld Z h0 r0 "java/lang/String" "coder" "B" (.int x6)) (hc7 : x6 = (0 : Int32)) (hc8 : ¬ ((x2 - (1 : Int32)) < ((x2 >>> ((nar .byte x6) &&& 31)) - (1 : Int32)))) (hc9 : ((x2 >>> ((nar .byte x6) &&& 31)) - (1 : Int32)) = (x8 + Int32.ofNat w7)) (hT10 : ∀ j : Nat, j < w7 → (¬ ((x8 + Int32.ofNat (j + 1)) < (0 : Int32))) ∧ (t4.getD ((x8 + Int32.ofNat (j + 1))).toNatClampNeg vI0 = (.int (own_at t4 ((x8 + Int32.ofNat (j + 1))).toNatClampNeg))) ∧ (¬ ((x8 + Int32.ofNat (j + 1)) < (0 : Int32))) ∧ ((x8 + Int32.ofNat (j + 1)) < x2) ∧ (¬ ((x8 + Int32.ofNat (j + 1)) < (0 : Int32))) ∧ ((x8 + Int32.ofNat (j + 1)) < x2) ∧ (¬ ((own_at t4 ((x8 + Int32.ofNat (j + 1))).toNatClampNeg) = (47 : Int32)))) (hc11 : ¬ (x8 < (0 : Int32))) (he12 : t4.getD (x8).toNatClampNeg vI0 = (.int x9)) (hc13 : x8 < x2) (hc14 : x9 = (47 : Int32)) (hc16 : (0 : Int32) < x8) (f17 : Sta Z Z.heap cs4 "SIOOBE_FORMATTER" cs5 u10) (hc18 : u10.isRef = true) (hc19 : ¬ ((x2 >>> ((nar .byte x6) &&& 31)) < x8)) (hc20 : ¬ (x8 = (x2 >>> ((nar .byte x6) &&& 31)))) (hc21 : ¬ ((x8 - (0 : Int32)) = (0 : Int32))) (hc22 : ¬ (((0 : Int32) + (x8 - (0 : Int32))) = x2)) (hc23 : ¬ (((0 : Int32) + (x8 - (0 : Int32))) < (0 : Int32))) (hc24 : ¬ ((((0 : Int32) + (x8 - (0 : Int32))) - (0 : Int32)) < 0)) (hc25 : ((((0 : Int32) + (x8 - (0 : Int32))) - (0 : Int32))).toNatClampNeg ≤ 8) (hc26 : (((0 : Int32) + (x8 - (0 : Int32))) - (0 : Int32)) < (x2 - (0 : Int32))) (hc27 : ((((0 : Int32) + (x8 - (0 : Int32))) - (0 : Int32))).toNatClampNeg ≤ (x2).toNatClampNeg) :
    own_MF l mN12 prog_6_method_4_code 2 (some (.object "java/lang/String")) ws rR5_2_12_86 Z h0 #[(.ref r0)] (Q6_5 Z r0 r1 x2 c3 t4 x5 x6 w7 x8 x9 u10 h0 n0) := by
  refine own_open (plainFor_of_name pn_com_example_nearmiss_nearmiss_Element) (L0 := #[lR r0, lU]) (fun _ => by first | (simp [entryFrame, mkF, argsToLocals, Value.category]; done) | rfl) ?_
  intro p e s m below meth c s₁ hx hby hml hret hnn hZ hown X0 e0
  have N0 := Fr.nil n0; have w := @ww Z a0 hw
  obtain ⟨_, T15, Lc15, X15, hQ15, st15⟩ := own_cV X0 hx hZ hown e0 (rm7_2 l Z a0 hw [] r0 r1 x2 c3 t4 x5 x6 w7 x8 x9 h0 n0 O0 f1 f2 f3 f4 hc5 f6 hc7 hc8 hc9 hT10 hc11 he12 hc13 hc14) f1 (w 34 rfl) (w 35 rfl) (w 37 rfl) (w 36 rfl) (w 38 rfl) (w 10 rfl) (by decide) (W := 0) (by decide) (by decide) (by decide) (by decide) (g := (mkF m 3 #[lR r0, lU] [vI47, (.ref r0)])) rfl (by rw [hml]; rfl) (argsL := [vI47]) (rest := []) (lenOf pd__I_I rfl) rfl (own_W rfl) (hb hby d6_3)
  obtain ⟨rfl, N15q, E15⟩ := hQ15
  have N15 := Fr.app N0 N15q
  obtain ⟨_, T28, Lc28, X28, hQ28, st28⟩ := own_cV X15 hx hZ hown E15 (rm18_1 l Z a0 hw [] r0 x8 r1 x2 c3 t4 x5 x6 u10 h0 n0 O0 f1 f2 f3 f4 hc5 f6 f17 hc18 hc11 hc19 hc20 hc7 hc21 hc22 hc23 hc24 hc25 hc26 hc27) f1 (w 81 rfl) (w 82 rfl) (w 84 rfl) (w 83 rfl) (w 85 rfl) (w 10 rfl) (by decide) (W := 0) (by decide) (by decide) (by decide) (by decide) (g := (mkF m 14 #[lR r0, lI x8] [(.int x8), vI0, (.ref r0)])) rfl (by rw [hml]; rfl) (argsL := [vI0, (.int x8)]) (rest := []) (lenOf pd__II_Ljava_lang_String_ rfl) rfl (own_W rfl) (hb hby d6_14)
  obtain ⟨b28_0, b28_1, k28_0, rfl, N28q, K28, f29, f30, f31, f32, f33, f34, f35, f36⟩ := hQ28
  have N28 := Fr.app N15 N28q
  have kp37 : Keep h0 T28.heap [] := (Keep.refl h0 []).trans K28 all0
  refine ⟨some (.ref b28_0), _, _, _, _, nofun, X28, by decide, by decide, ?_, fun fs hr => ?_⟩
  · exact ⟨b28_0, b28_1, k28_0, rfl, N28, kp37, f29, f30, f31, f32, f33, f34, f35, f36⟩
  · show SG p e below s₁ (mkF m 0 #[lR r0, lU] []) _
    refine qaN X0 hx hby d6_0 ?_
    refine qb X0 hx hby d6_1 ?_
    refine st15 _ ?_
    show SG p e below T15 (mkF m 6 #[lR r0, lU] [(.int x8)]) _
    refine XS.istoreN X15.here hx rfl (hb hby d6_6) rfl (l' := #[lR r0, lI x8]) rfl ?_
    refine qiN X15 hx hby d6_7 ?_
    refine XS.ifNo X15.here hx rfl (hb hby d6_8) rfl ((if0 _ _).trans (tlt hc16).2.2.2) ?_
    refine qaN X15 hx hby d6_11 ?_
    refine qc X15 hx hby d6_12 ?_
    refine qiN X15 hx hby d6_13 ?_
    refine st28 _ ?_
    show SG p e below T28 (mkF m 17 #[lR r0, lI x8] [(.ref b28_0)]) _
    refine XS.goto X28.here hx rfl (pc0 := 17) (pc' := 21) rfl (hb hby d6_17) (by decide) (by decide) ?_
    show SG p e below T28 (mkF m 21 #[lR r0, lI x8] [(.ref b28_0)]) _
    exact retOut X28 hx (i := .areturn) hret rfl (Or.inr (Or.inr (Or.inr (Or.inr ⟨rfl, rfl, rfl⟩)))) (hb hby d6_21) hr
theorem pd__Ljava_lang_Object__Z : parseMethodDescriptor "(Ljava/lang/Object;)Z" = some ⟨[(.object "java/lang/Object")], some .boolean⟩ := by decide +kernel
def Q0_4 (Z : State) (x0 x1 : Int32) (x2 x3 : Int32) (x4 x5 : Int32) (x6 x7 : Int32) (x8 x9 : Int32) (x10 x11 : Int32) (x12 x13 : Int32) (u14 : Value) (h0 : Heap) (n0 : Nat) (v : Option Value) (h : Heap) (L : List Loc) : Prop := v = some vI1 ∧ Fr n0 L
theorem rm0_4 (l : Launch) (Z : State) (a0 : Array Value) (hw : own_HW a0 Z) (ws : List Jvm.Cond) (x0 x1 : Int32) (x2 x3 : Int32) (x4 x5 : Int32) (x6 x7 : Int32) (x8 x9 : Int32) (x10 x11 : Int32) (x12 x13 : Int32) (u14 : Value) (h0 : Heap) (n0 : Nat) (O0 : Old Z n0 h0) (hc2 : ((x0 &&& (2147483647 : Int32)) % (6 : Int32)) = (2 : Int32)) (hq4 : (nar .char (if (x1 &&& (1 : Int32)) = (0 : Int32) then ((((x1.toUInt32 >>> ((1 : Int32) &&& 31).toUInt32).toInt32) &&& (255 : Int32)).toUInt32.toUInt16.toUInt32.toInt32) else (47 : Int32))) = x6) (hq6 : (nar .char (if (x2 &&& (1 : Int32)) = (0 : Int32) then ((((x2.toUInt32 >>> ((1 : Int32) &&& 31).toUInt32).toInt32) &&& (255 : Int32)).toUInt32.toUInt16.toUInt32.toInt32) else (47 : Int32))) = x7) (hq8 : (nar .char (if (x3 &&& (1 : Int32)) = (0 : Int32) then ((((x3.toUInt32 >>> ((1 : Int32) &&& 31).toUInt32).toInt32) &&& (255 : Int32)).toUInt32.toUInt16.toUInt32.toInt32) else (47 : Int32))) = x8) (hq10 : (nar .char (if (x4 &&& (1 : Int32)) = (0 : Int32) then ((((x4.toUInt32 >>> ((1 : Int32) &&& 31).toUInt32).toInt32) &&& (255 : Int32)).toUInt32.toUInt16.toUInt32.toInt32) else (47 : Int32))) = x9) (hq12 : (nar .char (if (x5 &&& (1 : Int32)) = (0 : Int32) then ((((x5.toUInt32 >>> ((1 : Int32) &&& 31).toUInt32).toInt32) &&& (255 : Int32)).toUInt32.toUInt16.toUInt32.toInt32) else (47 : Int32))) = x10) (f13 : Sta Z Z.heap "java/lang/String" "COMPACT_STRINGS" "Z" (.int x11)) (hc14 : ¬ (x11 = (0 : Int32))) (hc15 : ¬ ((255 : Int32) < (nar .char x6))) (hc16 : ¬ ((255 : Int32) < (nar .char x7))) (hq30 : (if x6 = (47 : Int32) then (0 : Int32) else (-1 : Int32)) = x12) (hq32 : (if x7 = (47 : Int32) then (1 : Int32) else x12) = x13) (hc33 : ((nar .char x7).toInt8.toInt32) = (47 : Int32)) (f34 : Sta Z Z.heap cs4 "SIOOBE_FORMATTER" cs5 u14) (hc35 : u14.isRef = true) (hc49 : x13 = (1 : Int32)) :
    own_MH l x code maxLocals ret ws room_1 Z h0 #[(.int x0), (.int x1), (.int x2), (.int x3), (.int x4), (.int x5)] (Q0_4 Z x0 x1 x2 x3 x4 x5 x6 x7 x8 x9 x10 x11 x12 x13 u14 h0 n0) := by
  have hEL : EW Z a0 consts_1 := own_EW hw
  refine own_openH hEL (plainFor_of_name pn_com_example_nearmiss_nearmiss_ElementParentPathPinLaw) (L0 := #[lI x0, lI x1, lI x2, lI x3, lI x4, lI x5, lU, lU, lU, lU, lU, lU, lU, lU, lU, lU]) (fun _ => by first | (simp [entryFrame, mkF, argsToLocals, Value.category, maxLocals]; done) | rfl) ?_
  intro p e s m below meth c s₁ hx hby hml hret hnn hZ hown X0 e0 R0
  have N0 := Fr.nil n0; have w := @ww Z a0 hw
  have hS1 := (State.WarmedH.refl s).since 0
  obtain ⟨_, T3, Lc3, X3, hQ3, st3⟩ := own_cS X0 hx hZ hown e0 (rm1_1 l Z a0 hw [] x1 h0 n0 O0) (w 1 rfl) (w 2 rfl) (w 3 rfl) (w 4 rfl) (by decide) (W := 0) (by decide) (by decide) (by decide) (by decide) (g := (mkF m 10 #[lI x0, lI x1, lI x2, lI x3, lI x4, lI x5, lV vI2, lU, lU, lU, lU, lU, lU, lU, lU, lU] [(.int x1)])) rfl (by rw [hml]; rfl) (argsL := [(.int x1)]) (rest := []) (lenOf pd__I_C rfl) rfl (own_W rfl) (hb hby at_10)
  obtain ⟨rfl, N3q, E3⟩ := hQ3
  have N3 := Fr.app N0 N3q
  obtain ⟨_, T5, Lc5, X5, hQ5, st5⟩ := own_cS X3 hx hZ hown E3 (rm1_1 l Z a0 hw [] x2 h0 n0 O0) (w 1 rfl) (w 2 rfl) (w 3 rfl) (w 4 rfl) (by decide) (W := 0) (by decide) (by decide) (by decide) (by decide) (g := (mkF m 16 #[lI x0, lI x1, lI x2, lI x3, lI x4, lI x5, lV vI2, lI x6, lU, lU, lU, lU, lU, lU, lU, lU] [(.int x2)])) rfl (by rw [hml]; rfl) (argsL := [(.int x2)]) (rest := []) (lenOf pd__I_C rfl) rfl (own_W rfl) (hb hby at_16)
  obtain ⟨rfl, N5q, E5⟩ := hQ5
  have N5 := Fr.app N3 N5q
  obtain ⟨_, T7, Lc7, X7, hQ7, st7⟩ := own_cS X5 hx hZ hown E5 (rm1_1 l Z a0 hw [] x3 h0 n0 O0) (w 1 rfl) (w 2 rfl) (w 3 rfl) (w 4 rfl) (by decide) (W := 0) (by decide) (by decide) (by decide) (by decide) (g := (mkF m 22 #[lI x0, lI x1, lI x2, lI x3, lI x4, lI x5, lV vI2, lI x6, lI x7, lU, lU, lU, lU, lU, lU, lU] [(.int x3)])) rfl (by rw [hml]; rfl) (argsL := [(.int x3)]) (rest := []) (lenOf pd__I_C rfl) rfl (own_W rfl) (hb hby at_22)
  obtain ⟨rfl, N7q, E7⟩ := hQ7
  have N7 := Fr.app N5 N7q
  obtain ⟨_, T9, Lc9, X9, hQ9, st9⟩ := own_cS X7 hx hZ hown E7 (rm1_1 l Z a0 hw [] x4 h0 n0 O0) (w 1 rfl) (w 2 rfl) (w 3 rfl) (w 4 rfl) (by decide) (W := 0) (by decide) (by decide) (by decide) (by decide) (g := (mkF m 29 #[lI x0, lI x1, lI x2, lI x3, lI x4, lI x5, lV vI2, lI x6, lI x7, lI x8, lU, lU, lU, lU, lU, lU] [(.int x4)])) rfl (by rw [hml]; rfl) (argsL := [(.int x4)]) (rest := []) (lenOf pd__I_C rfl) rfl (own_W rfl) (hb hby at_29)
  obtain ⟨rfl, N9q, E9⟩ := hQ9
  have N9 := Fr.app N7 N9q
  obtain ⟨_, T11, Lc11, X11, hQ11, st11⟩ := own_cS X9 hx hZ hown E9 (rm1_1 l Z a0 hw [] x5 h0 n0 O0) (w 1 rfl) (w 2 rfl) (w 3 rfl) (w 4 rfl) (by decide) (W := 0) (by decide) (by decide) (by decide) (by decide) (g := (mkF m 36 #[lI x0, lI x1, lI x2, lI x3, lI x4, lI x5, lV vI2, lI x6, lI x7, lI x8, lI x9, lU, lU, lU, lU, lU] [(.int x5)])) rfl (by rw [hml]; rfl) (argsL := [(.int x5)]) (rest := []) (lenOf pd__I_C rfl) rfl (own_W rfl) (hb hby at_36)
  obtain ⟨rfl, N11q, E11⟩ := hQ11
  have N11 := Fr.app N9 N11q
  obtain ⟨_, T17, Lc17, X17, hQ17, st17⟩ := own_cS X11 hx hZ hown E11 (rm2_3 l Z a0 hw [] x6 x7 x8 x9 x10 x11 h0 n0 O0 f13 hc14 hc15 hc16) (w 5 rfl) (w 6 rfl) (w 3 rfl) (w 7 rfl) (by decide) (W := 0) (by decide) (by decide) (by decide) (by decide) (g := (mkF m 53 #[lI x0, lI x1, lI x2, lI x3, lI x4, lI x5, lV vI2, lI x6, lI x7, lI x8, lI x9, lI x10, lU, lU, lU, lU] [(.int x10), (.int x9), (.int x8), (.int x7), (.int x6), vI2])) rfl (by rw [hml]; rfl) (argsL := [vI2, (.int x6), (.int x7), (.int x8), (.int x9), (.int x10)]) (rest := []) (lenOf pd__ICCCCC_Ljava_lang_String_ rfl) rfl (own_W rfl) (hb hby at_53)
  obtain ⟨b17_0, b17_1, k17_0, rfl, N17q, K17, f18, f19, f20, f21, f22, f23, f24, f25⟩ := hQ17
  have N17 := Fr.app N11 N17q
  have R26 := CHr.trans R0 (CHr.keep K17 sf0 R0.1)
  have sf27 : Safe Z consts_1 s.vm h0 b17_0 := Safe.new f18
  have sf28 : Safe Z consts_1 s.vm h0 b17_1 := Safe.new f22
  have dm29 : ∀ t, Steps p.tables e below (T17.setTop (mkF m 76 #[lI x0, lI x1, lI x2, lI x3, lI x4, lI x5, lV vI2, lI x6, lI x7, lI x8, lI x9, lI x10, lR b17_0, .val (.int (if x6 = (47 : Int32) then (0 : Int32) else (-1 : Int32))), lU, lU] [])) t → Steps p.tables e below (T17.setTop (mkF m 70 #[lI x0, lI x1, lI x2, lI x3, lI x4, lI x5, lV vI2, lI x6, lI x7, lI x8, lI x9, lI x10, lR b17_0, .val (.int (-1 : Int32)), lU, lU] [vI47, (.int x6)])) t := by
    intro t kk
    by_cases hd : x6 = (47 : Int32)
    · show SG p e below T17 (mkF m 70 #[lI x0, lI x1, lI x2, lI x3, lI x4, lI x5, lV vI2, lI x6, lI x7, lI x8, lI x9, lI x10, lR b17_0, .val (.int (-1 : Int32)), lU, lU] [vI47, (.int x6)]) _
      refine XS.icmpNo X17.here hx rfl (hb hby at_70) rfl (teq hd).2 ?_
      refine qc X17 hx hby at_73 ?_
      refine XS.istore X17.here hx rfl (hb hby at_74) rfl (l' := #[lI x0, lI x1, lI x2, lI x3, lI x4, lI x5, lV vI2, lI x6, lI x7, lI x8, lI x9, lI x10, lR b17_0, lV vI0, lU, lU]) rfl ?_
      simp only [if_pos hd] at kk
      exact kk
    · show SG p e below T17 (mkF m 70 #[lI x0, lI x1, lI x2, lI x3, lI x4, lI x5, lV vI2, lI x6, lI x7, lI x8, lI x9, lI x10, lR b17_0, .val (.int (-1 : Int32)), lU, lU] [vI47, (.int x6)]) _
      refine XS.icmpYes X17.here hx rfl (pc0 := 70) (pc' := 76) rfl (hb hby at_70) rfl (feq hd).2 (by decide) (by decide) ?_
      simp only [if_neg hd] at kk
      exact kk
  have dm31 : ∀ t, Steps p.tables e below (T17.setTop (mkF m 92 #[lI x0, lI x1, lI x2, lI x3, lI x4, lI x5, lV vI2, lI x6, lI x7, lI x8, lI x9, lI x10, lR b17_0, .val (.int (if x7 = (47 : Int32) then (1 : Int32) else x12)), lU, lU] [])) t → Steps p.tables e below (T17.setTop (mkF m 86 #[lI x0, lI x1, lI x2, lI x3, lI x4, lI x5, lV vI2, lI x6, lI x7, lI x8, lI x9, lI x10, lR b17_0, lI x12, lU, lU] [vI47, (.int x7)])) t := by
    intro t kk
    by_cases hd : x7 = (47 : Int32)
    · show SG p e below T17 (mkF m 86 #[lI x0, lI x1, lI x2, lI x3, lI x4, lI x5, lV vI2, lI x6, lI x7, lI x8, lI x9, lI x10, lR b17_0, lI x12, lU, lU] [vI47, (.int x7)]) _
      refine XS.icmpNo X17.here hx rfl (hb hby at_86) rfl (teq hd).2 ?_
      refine qc X17 hx hby at_89 ?_
      refine XS.istore X17.here hx rfl (hb hby at_90) rfl (l' := #[lI x0, lI x1, lI x2, lI x3, lI x4, lI x5, lV vI2, lI x6, lI x7, lI x8, lI x9, lI x10, lR b17_0, lV vI1, lU, lU]) rfl ?_
      simp only [if_pos hd] at kk
      exact kk
    · show SG p e below T17 (mkF m 86 #[lI x0, lI x1, lI x2, lI x3, lI x4, lI x5, lV vI2, lI x6, lI x7, lI x8, lI x9, lI x10, lR b17_0, lI x12, lU, lU] [vI47, (.int x7)]) _
      refine XS.icmpYes X17.here hx rfl (pc0 := 86) (pc' := 92) rfl (hb hby at_86) rfl (feq hd).2 (by decide) (by decide) ?_
      simp only [if_neg hd] at kk
      exact kk
  have o36 := Old.keep O0 K17 all0
  obtain ⟨_, T37, Lc37, X37, hQ37, st37⟩ := own_cS X17 hx hZ hown rfl (rm6_5 l Z a0 hw [] b17_0 b17_1 (2 : Int32) k17_0 ([(.int ((nar .char x6).toInt8.toInt32)), (.int ((nar .char x7).toInt8.toInt32))]) x11 (0 : Int32) 0 (1 : Int32) ((nar .char x7).toInt8.toInt32) u14 T17.heap n0 o36 f19 f21 f23 f13 hc14 f20 (by decide) (by decide) (by decide) (fun j hj => absurd hj (Nat.not_lt_zero j)) (by decide) (own_gd (n := 1) rfl rfl) (by decide) hc33 (by decide) f34 hc35 (by decide) (by decide) (by decide) (by decide) (by decide) (by decide) (by decide) (by decide) (by decide)) (w 30 rfl) (w 31 rfl) (w 32 rfl) (w 33 rfl) (by decide) (W := 0) (by decide) (by decide) (by decide) (by decide) (g := (mkF m 142 #[lI x0, lI x1, lI x2, lI x3, lI x4, lI x5, lV vI2, lI x6, lI x7, lI x8, lI x9, lI x10, lR b17_0, lI x13, lU, lU] [(.ref b17_0)])) rfl (by rw [hml]; rfl) (argsL := [(.ref b17_0)]) (rest := []) (lenOf pd__Ljava_lang_String__Ljava_lang_String_ rfl) rfl (own_W rfl) (hb hby at_142)
  obtain ⟨b37_0, b37_1, k37_0, rfl, N37q, K37, f38, f39, f40, f41, f42, f43, f44, f45⟩ := hQ37
  have N37 := Fr.app N17 N37q
  have R46 := CHr.trans R26 (CHr.keep K37 sf0 R26.1)
  have sf47 : Safe Z consts_1 s.vm T17.heap b37_0 := Safe.new f38
  have sf48 : Safe Z consts_1 s.vm T17.heap b37_1 := Safe.new f42
  have o50 := Old.keep o36 K37 all0
  obtain ⟨_, T51, Lc51, X51, hQ51, st51⟩ := own_cS X37 hx hZ hown rfl (rm2_2 l Z a0 hw [] x6 x7 x8 x9 x10 x11 T37.heap n0 o50 f13 hc14 hc15) (w 5 rfl) (w 6 rfl) (w 3 rfl) (w 7 rfl) (by decide) (W := 0) (by decide) (by decide) (by decide) (by decide) (g := (mkF m 175 #[lI x0, lI x1, lI x2, lI x3, lI x4, lI x5, lV vI2, lI x6, lI x7, lI x8, lI x9, lI x10, lR b17_0, lV vI1, lR b37_0, lU] [(.int x10), (.int x9), (.int x8), (.int x7), (.int x6), vI1])) rfl (by rw [hml]; rfl) (argsL := [vI1, (.int x6), (.int x7), (.int x8), (.int x9), (.int x10)]) (rest := []) (lenOf pd__ICCCCC_Ljava_lang_String_ rfl) rfl (own_W rfl) (hb hby at_175)
  obtain ⟨b51_0, b51_1, k51_0, rfl, N51q, K51, f52, f53, f54, f55, f56, f57, f58, f59⟩ := hQ51
  have N51 := Fr.app N37 N51q
  have R60 := CHr.trans R46 (CHr.keep K51 sf0 R46.1)
  have sf61 : Safe Z consts_1 s.vm T37.heap b51_0 := Safe.new f52
  have sf62 : Safe Z consts_1 s.vm T37.heap b51_1 := Safe.new f56
  have f63 := (f41.keep K51 nin0)
  have f64 := (f40.keep K51 nin0)
  have f65 := (f43.keep K51 nin0)
  have f66 := (f39.keep K51)
  have o67 := Old.keep o50 K51 all0
  have f68 := f13.ext o67.2
  obtain ⟨cqq70, kqq70, qq70a, qq70b, qq70c⟩ := isOf hZ rfl f66
  obtain ⟨_, T69, Lc69, X69, hQ69, st69⟩ := own_fin (X51.virtualBack hx (y := mN21) (z := mN21) hown (mvT hZ (w 116 rfl)) (mvT hZ (w 117 rfl)) (notFace_of_selects (args := #[]) (mvT hZ (w 119 rfl))) (mvT hZ (w 119 rfl)) (mvT hZ (w 118 rfl)) (by decide) (own_strEq hZ hw (w 9 rfl) (bs := [((nar .char x6).toInt8.toInt32)]) f66 f64 f63 (own_trunc (ws := [(.int ((nar .char x6).toInt8.toInt32))]) (rest := [(.int ((nar .char x7).toInt8.toInt32))]) (own_lenK (n := 1) rfl (by decide)) f65) (own_ofLen (n := 1) (by decide) rfl) (Nat.le_of_ble_eq_true rfl) (ds := [((nar .char x6).toInt8.toInt32)]) f53 f55 f54 f57 (own_ofLen (n := 1) (by decide) rfl) (Nat.le_of_ble_eq_true rfl) f68 hc14 (r := 1) (n0 := n0) (Or.inl ⟨rfl, rfl⟩) (by decide) (by decide : 0 + 28 ≤ _)) qq70a qq70c (g := (mkF m 189 #[lI x0, lI x1, lI x2, lI x3, lI x4, lI x5, lV vI2, lI x6, lI x7, lI x8, lI x9, lI x10, lR b17_0, lV vI1, lR b37_0, lR b51_0] [(.ref b51_0), (.ref b37_0)])) rfl (by rw [hml]; rfl) (Steps.refl _) (argsL := [(.ref b51_0)]) (rest := []) (lenOf pd__Ljava_lang_Object__Z rfl) rfl (own_W rfl) (hb hby at_189) (fun _ _ => ⟨rfl, rfl, (by decide : 8 + 0 ≤ _), (by decide : 26 + 0 ≤ _)⟩))
  obtain ⟨rfl, N69q, E69⟩ := hQ69
  have N69 := Fr.app N51 N69q
  refine ⟨some vI1, _, _, _, _, _, _, _, nofun, X69, by decide, by decide, hS1, (by rw [E69]; exact (Nat.zero_le _)), hZ, E69, R60, ?_, fun fs hr => ?_⟩
  · rw [E69]; exact ⟨rfl, N69⟩
  · show SG p e below s₁ (mkF m 0 #[lI x0, lI x1, lI x2, lI x3, lI x4, lI x5, lU, lU, lU, lU, lU, lU, lU, lU, lU, lU] []) _
    refine qiN X0 hx hby at_0 ?_
    refine X0.ldcInt hx hown (mvT hZ (w 0 rfl)) (g := (mkF m 1 #[lI x0, lI x1, lI x2, lI x3, lI x4, lI x5, lU, lU, lU, lU, lU, lU, lU, lU, lU, lU] [(.int x0)])) rfl (hb hby at_1) _ ?_
    show SG p e below s₁ (mkF m 3 #[lI x0, lI x1, lI x2, lI x3, lI x4, lI x5, lU, lU, lU, lU, lU, lU, lU, lU, lU, lU] [vI2147483647, (.int x0)]) _
    refine XS.iand X0.here hx rfl (hb hby at_3) rfl ?_
    refine qb X0 hx hby at_4 ?_
    refine iremM (g := (mkF m 6 #[lI x0, lI x1, lI x2, lI x3, lI x4, lI x5, lU, lU, lU, lU, lU, lU, lU, lU, lU, lU] [vI6, (.int (x0 &&& (2147483647 : Int32)))])) X0 hx rfl (hb hby at_6) rfl (by decide : ¬ ((6 : Int32) = (0 : Int32))) ?_
    show SG p e below s₁ (mkF m 7 #[lI x0, lI x1, lI x2, lI x3, lI x4, lI x5, lU, lU, lU, lU, lU, lU, lU, lU, lU, lU] [(.int ((x0 &&& (2147483647 : Int32)) % (6 : Int32)))]) _
    rw [hc2]
    show SG p e below s₁ (mkF m 7 #[lI x0, lI x1, lI x2, lI x3, lI x4, lI x5, lU, lU, lU, lU, lU, lU, lU, lU, lU, lU] [vI2]) _
    refine XS.istore X0.here hx rfl (hb hby at_7) rfl (l' := #[lI x0, lI x1, lI x2, lI x3, lI x4, lI x5, lV vI2, lU, lU, lU, lU, lU, lU, lU, lU, lU]) rfl ?_
    refine qiN X0 hx hby at_9 ?_
    refine st3 _ ?_
    show SG p e below T3 (mkF m 13 #[lI x0, lI x1, lI x2, lI x3, lI x4, lI x5, lV vI2, lU, lU, lU, lU, lU, lU, lU, lU, lU] [(.int (nar .char (if (x1 &&& (1 : Int32)) = (0 : Int32) then ((((x1.toUInt32 >>> ((1 : Int32) &&& 31).toUInt32).toInt32) &&& (255 : Int32)).toUInt32.toUInt16.toUInt32.toInt32) else (47 : Int32))))]) _
    rw [hq4]
    show SG p e below T3 (mkF m 13 #[lI x0, lI x1, lI x2, lI x3, lI x4, lI x5, lV vI2, lU, lU, lU, lU, lU, lU, lU, lU, lU] [(.int x6)]) _
    refine XS.istore X3.here hx rfl (hb hby at_13) rfl (l' := #[lI x0, lI x1, lI x2, lI x3, lI x4, lI x5, lV vI2, lI x6, lU, lU, lU, lU, lU, lU, lU, lU]) rfl ?_
    refine qiN X3 hx hby at_15 ?_
    refine st5 _ ?_
    show SG p e below T5 (mkF m 19 #[lI x0, lI x1, lI x2, lI x3, lI x4, lI x5, lV vI2, lI x6, lU, lU, lU, lU, lU, lU, lU, lU] [(.int (nar .char (if (x2 &&& (1 : Int32)) = (0 : Int32) then ((((x2.toUInt32 >>> ((1 : Int32) &&& 31).toUInt32).toInt32) &&& (255 : Int32)).toUInt32.toUInt16.toUInt32.toInt32) else (47 : Int32))))]) _
    rw [hq6]
    show SG p e below T5 (mkF m 19 #[lI x0, lI x1, lI x2, lI x3, lI x4, lI x5, lV vI2, lI x6, lU, lU, lU, lU, lU, lU, lU, lU] [(.int x7)]) _
    refine XS.istore X5.here hx rfl (hb hby at_19) rfl (l' := #[lI x0, lI x1, lI x2, lI x3, lI x4, lI x5, lV vI2, lI x6, lI x7, lU, lU, lU, lU, lU, lU, lU]) rfl ?_
    refine qiN X5 hx hby at_21 ?_
    refine st7 _ ?_
    show SG p e below T7 (mkF m 25 #[lI x0, lI x1, lI x2, lI x3, lI x4, lI x5, lV vI2, lI x6, lI x7, lU, lU, lU, lU, lU, lU, lU] [(.int (nar .char (if (x3 &&& (1 : Int32)) = (0 : Int32) then ((((x3.toUInt32 >>> ((1 : Int32) &&& 31).toUInt32).toInt32) &&& (255 : Int32)).toUInt32.toUInt16.toUInt32.toInt32) else (47 : Int32))))]) _
    rw [hq8]
    show SG p e below T7 (mkF m 25 #[lI x0, lI x1, lI x2, lI x3, lI x4, lI x5, lV vI2, lI x6, lI x7, lU, lU, lU, lU, lU, lU, lU] [(.int x8)]) _
    refine XS.istore X7.here hx rfl (hb hby at_25) rfl (l' := #[lI x0, lI x1, lI x2, lI x3, lI x4, lI x5, lV vI2, lI x6, lI x7, lI x8, lU, lU, lU, lU, lU, lU]) rfl ?_
    refine qi X7 hx hby at_27 ?_
    refine st9 _ ?_
    show SG p e below T9 (mkF m 32 #[lI x0, lI x1, lI x2, lI x3, lI x4, lI x5, lV vI2, lI x6, lI x7, lI x8, lU, lU, lU, lU, lU, lU] [(.int (nar .char (if (x4 &&& (1 : Int32)) = (0 : Int32) then ((((x4.toUInt32 >>> ((1 : Int32) &&& 31).toUInt32).toInt32) &&& (255 : Int32)).toUInt32.toUInt16.toUInt32.toInt32) else (47 : Int32))))]) _
    rw [hq10]
    show SG p e below T9 (mkF m 32 #[lI x0, lI x1, lI x2, lI x3, lI x4, lI x5, lV vI2, lI x6, lI x7, lI x8, lU, lU, lU, lU, lU, lU] [(.int x9)]) _
    refine XS.istore X9.here hx rfl (hb hby at_32) rfl (l' := #[lI x0, lI x1, lI x2, lI x3, lI x4, lI x5, lV vI2, lI x6, lI x7, lI x8, lI x9, lU, lU, lU, lU, lU]) rfl ?_
    refine qi X9 hx hby at_34 ?_
    refine st11 _ ?_
    show SG p e below T11 (mkF m 39 #[lI x0, lI x1, lI x2, lI x3, lI x4, lI x5, lV vI2, lI x6, lI x7, lI x8, lI x9, lU, lU, lU, lU, lU] [(.int (nar .char (if (x5 &&& (1 : Int32)) = (0 : Int32) then ((((x5.toUInt32 >>> ((1 : Int32) &&& 31).toUInt32).toInt32) &&& (255 : Int32)).toUInt32.toUInt16.toUInt32.toInt32) else (47 : Int32))))]) _
    rw [hq12]
    show SG p e below T11 (mkF m 39 #[lI x0, lI x1, lI x2, lI x3, lI x4, lI x5, lV vI2, lI x6, lI x7, lI x8, lI x9, lU, lU, lU, lU, lU] [(.int x10)]) _
    refine XS.istore X11.here hx rfl (hb hby at_39) rfl (l' := #[lI x0, lI x1, lI x2, lI x3, lI x4, lI x5, lV vI2, lI x6, lI x7, lI x8, lI x9, lI x10, lU, lU, lU, lU]) rfl ?_
    refine qi X11 hx hby at_41 ?_
    refine qi X11 hx hby at_43 ?_
    refine qi X11 hx hby at_45 ?_
    refine qi X11 hx hby at_47 ?_
    refine qi X11 hx hby at_49 ?_
    refine qi X11 hx hby at_51 ?_
    refine st17 _ ?_
    show SG p e below T17 (mkF m 56 #[lI x0, lI x1, lI x2, lI x3, lI x4, lI x5, lV vI2, lI x6, lI x7, lI x8, lI x9, lI x10, lU, lU, lU, lU] [(.ref b17_0)]) _
    refine XS.astore X17.here hx rfl (hb hby at_56) rfl rfl (l' := #[lI x0, lI x1, lI x2, lI x3, lI x4, lI x5, lV vI2, lI x6, lI x7, lI x8, lI x9, lI x10, lR b17_0, lU, lU, lU]) rfl ?_
    refine qc X17 hx hby at_58 ?_
    refine XS.istore X17.here hx rfl (hb hby at_59) rfl (l' := #[lI x0, lI x1, lI x2, lI x3, lI x4, lI x5, lV vI2, lI x6, lI x7, lI x8, lI x9, lI x10, lR b17_0, .val (.int (-1 : Int32)), lU, lU]) rfl ?_
    refine qi X17 hx hby at_61 ?_
    refine XS.ifNo X17.here hx rfl (hb hby at_63) rfl ((if0 _ _).trans (tlt (by decide : (0 : Int32) < (2 : Int32))).2.2.2) ?_
    refine qi X17 hx hby at_66 ?_
    refine qb X17 hx hby at_68 ?_
    show SG p e below T17 (mkF m 70 #[lI x0, lI x1, lI x2, lI x3, lI x4, lI x5, lV vI2, lI x6, lI x7, lI x8, lI x9, lI x10, lR b17_0, .val (.int (-1 : Int32)), lU, lU] [vI47, (.int x6)]) _
    refine dm29 _ ?_
    show SG p e below T17 (mkF m 76 #[lI x0, lI x1, lI x2, lI x3, lI x4, lI x5, lV vI2, lI x6, lI x7, lI x8, lI x9, lI x10, lR b17_0, .val (.int (if x6 = (47 : Int32) then (0 : Int32) else (-1 : Int32))), lU, lU] []) _
    rw [hq30]
    show SG p e below T17 (mkF m 76 #[lI x0, lI x1, lI x2, lI x3, lI x4, lI x5, lV vI2, lI x6, lI x7, lI x8, lI x9, lI x10, lR b17_0, lI x12, lU, lU] []) _
    refine qi X17 hx hby at_76 ?_
    refine qc X17 hx hby at_78 ?_
    refine XS.icmpNo X17.here hx rfl (hb hby at_79) rfl (tlt (by decide : (1 : Int32) < (2 : Int32))).2.2.2 ?_
    refine qi X17 hx hby at_82 ?_
    refine qb X17 hx hby at_84 ?_
    show SG p e below T17 (mkF m 86 #[lI x0, lI x1, lI x2, lI x3, lI x4, lI x5, lV vI2, lI x6, lI x7, lI x8, lI x9, lI x10, lR b17_0, lI x12, lU, lU] [vI47, (.int x7)]) _
    refine dm31 _ ?_
    show SG p e below T17 (mkF m 92 #[lI x0, lI x1, lI x2, lI x3, lI x4, lI x5, lV vI2, lI x6, lI x7, lI x8, lI x9, lI x10, lR b17_0, .val (.int (if x7 = (47 : Int32) then (1 : Int32) else x12)), lU, lU] []) _
    rw [hq32]
    show SG p e below T17 (mkF m 92 #[lI x0, lI x1, lI x2, lI x3, lI x4, lI x5, lV vI2, lI x6, lI x7, lI x8, lI x9, lI x10, lR b17_0, lI x13, lU, lU] []) _
    refine qi X17 hx hby at_92 ?_
    refine qc X17 hx hby at_94 ?_
    refine XS.icmpYes X17.here hx rfl (pc0 := 95) (pc' := 108) rfl (hb hby at_95) rfl (flt (by decide : ¬ ((2 : Int32) < (2 : Int32)))).2.2.2 (by decide) (by decide) ?_
    show SG p e below T17 (mkF m 108 #[lI x0, lI x1, lI x2, lI x3, lI x4, lI x5, lV vI2, lI x6, lI x7, lI x8, lI x9, lI x10, lR b17_0, lI x13, lU, lU] []) _
    refine qi X17 hx hby at_108 ?_
    refine qc X17 hx hby at_110 ?_
    refine XS.icmpYes X17.here hx rfl (pc0 := 111) (pc' := 124) rfl (hb hby at_111) rfl (flt (by decide : ¬ ((3 : Int32) < (2 : Int32)))).2.2.2 (by decide) (by decide) ?_
    show SG p e below T17 (mkF m 124 #[lI x0, lI x1, lI x2, lI x3, lI x4, lI x5, lV vI2, lI x6, lI x7, lI x8, lI x9, lI x10, lR b17_0, lI x13, lU, lU] []) _
    refine qi X17 hx hby at_124 ?_
    refine qc X17 hx hby at_126 ?_
    refine XS.icmpYes X17.here hx rfl (pc0 := 127) (pc' := 140) rfl (hb hby at_127) rfl (flt (by decide : ¬ ((4 : Int32) < (2 : Int32)))).2.2.2 (by decide) (by decide) ?_
    show SG p e below T17 (mkF m 140 #[lI x0, lI x1, lI x2, lI x3, lI x4, lI x5, lV vI2, lI x6, lI x7, lI x8, lI x9, lI x10, lR b17_0, lI x13, lU, lU] []) _
    refine qa X17 hx hby at_140 ?_
    refine st37 _ ?_
    show SG p e below T37 (mkF m 145 #[lI x0, lI x1, lI x2, lI x3, lI x4, lI x5, lV vI2, lI x6, lI x7, lI x8, lI x9, lI x10, lR b17_0, lI x13, lU, lU] [(.ref b37_0)]) _
    refine XS.astore X37.here hx rfl (hb hby at_145) rfl rfl (l' := #[lI x0, lI x1, lI x2, lI x3, lI x4, lI x5, lV vI2, lI x6, lI x7, lI x8, lI x9, lI x10, lR b17_0, lI x13, lR b37_0, lU]) rfl ?_
    refine qi X37 hx hby at_147 ?_
    show SG p e below T37 (mkF m 149 #[lI x0, lI x1, lI x2, lI x3, lI x4, lI x5, lV vI2, lI x6, lI x7, lI x8, lI x9, lI x10, lR b17_0, lI x13, lR b37_0, lU] [(.int x13)]) _
    rw [hc49]
    show SG p e below T37 (mkF m 149 #[lI x0, lI x1, lI x2, lI x3, lI x4, lI x5, lV vI2, lI x6, lI x7, lI x8, lI x9, lI x10, lR b17_0, lV vI1, lR b37_0, lU] [vI1]) _
    refine XS.ifYes X37.here hx rfl (pc0 := 149) (pc' := 163) rfl (hb hby at_149) rfl ((if0 _ _).trans (tlt (by decide : (0 : Int32) < (1 : Int32))).2.2.1) (by decide) (by decide) ?_
    show SG p e below T37 (mkF m 163 #[lI x0, lI x1, lI x2, lI x3, lI x4, lI x5, lV vI2, lI x6, lI x7, lI x8, lI x9, lI x10, lR b17_0, lV vI1, lR b37_0, lU] []) _
    refine qi X37 hx hby at_163 ?_
    refine qi X37 hx hby at_165 ?_
    refine qi X37 hx hby at_167 ?_
    refine qi X37 hx hby at_169 ?_
    refine qi X37 hx hby at_171 ?_
    refine qi X37 hx hby at_173 ?_
    refine st51 _ ?_
    show SG p e below T51 (mkF m 178 #[lI x0, lI x1, lI x2, lI x3, lI x4, lI x5, lV vI2, lI x6, lI x7, lI x8, lI x9, lI x10, lR b17_0, lV vI1, lR b37_0, lU] [(.ref b51_0)]) _
    refine XS.astore X51.here hx rfl (hb hby at_178) rfl rfl (l' := #[lI x0, lI x1, lI x2, lI x3, lI x4, lI x5, lV vI2, lI x6, lI x7, lI x8, lI x9, lI x10, lR b17_0, lV vI1, lR b37_0, lR b51_0]) rfl ?_
    refine qa X51 hx hby at_180 ?_
    refine XS.ifnullNo X51.here hx rfl (hb hby at_182) rfl ?_
    refine qa X51 hx hby at_185 ?_
    refine qa X51 hx hby at_187 ?_
    refine st69.trans ?_
    show SG p e below T69 (mkF m 192 #[lI x0, lI x1, lI x2, lI x3, lI x4, lI x5, lV vI2, lI x6, lI x7, lI x8, lI x9, lI x10, lR b17_0, lV vI1, lR b37_0, lR b51_0] [vI1]) _
    refine XS.ifNo X69.here hx rfl (hb hby at_192) rfl ((if0 _ _).trans (feq (by decide : ¬ ((1 : Int32) = (0 : Int32)))).1) ?_
    refine qc X69 hx hby at_195 ?_
    refine XS.goto X69.here hx rfl (pc0 := 196) (pc' := 200) rfl (hb hby at_196) (by decide) (by decide) ?_
    show SG p e below T69 (mkF m 200 #[lI x0, lI x1, lI x2, lI x3, lI x4, lI x5, lV vI2, lI x6, lI x7, lI x8, lI x9, lI x10, lR b17_0, lV vI1, lR b37_0, lR b51_0] [vI1]) _
    exact retN X69 hx (t := .boolean) hret (by simp) (hb hby at_200) hr
theorem d2_59 : DK cB2 59 (.iload_n 0) 1 := by decide +kernel
theorem d2_60 : DK cB2 60 (.iconst 3) 1 := by decide +kernel
theorem d2_61 : DK cB2 61 (.if_icmp .ne 26) 3 := by decide +kernel
theorem d2_64 : DK cB2 64 (.new 7) 3 := by decide +kernel
theorem d2_67 : DK cB2 67 (.dup) 1 := by decide +kernel
theorem d2_68 : DK cB2 68 (.iconst 3) 1 := by decide +kernel
theorem d2_69 : DK cB2 69 (.newarray .char) 2 := by decide +kernel
theorem d2_71 : DK cB2 71 (.dup) 1 := by decide +kernel
theorem d2_72 : DK cB2 72 (.iconst 0) 1 := by decide +kernel
theorem d2_73 : DK cB2 73 (.iload_n 1) 1 := by decide +kernel
theorem d2_74 : DK cB2 74 (.castore) 1 := by decide +kernel
theorem d2_75 : DK cB2 75 (.dup) 1 := by decide +kernel
theorem d2_76 : DK cB2 76 (.iconst 1) 1 := by decide +kernel
theorem d2_77 : DK cB2 77 (.iload_n 2) 1 := by decide +kernel
theorem d2_78 : DK cB2 78 (.castore) 1 := by decide +kernel
theorem d2_79 : DK cB2 79 (.dup) 1 := by decide +kernel
theorem d2_80 : DK cB2 80 (.iconst 2) 1 := by decide +kernel
theorem d2_81 : DK cB2 81 (.iload_n 3) 1 := by decide +kernel
theorem d2_82 : DK cB2 82 (.castore) 1 := by decide +kernel
theorem d2_83 : DK cB2 83 (.invokespecial 9) 3 := by decide +kernel
theorem d2_86 : DK cB2 86 (.areturn) 1 := by decide +kernel
def Q2_4 (Z : State) (x0 x1 : Int32) (x2 x3 : Int32) (x4 x5 : Int32) (h0 : Heap) (n0 : Nat) (v : Option Value) (h : Heap) (L : List Loc) : Prop := ∃ (b1 b27_0 : Addr) (k27_0 : ClassId), v = some (.ref b1) ∧ Fr n0 L ∧ Keep h0 h [] ∧ h0.size ≤ b1 ∧ Exa Z h b1 "java/lang/String" ∧ Fld Z h b1 "java/lang/String" "coder" "B" vI0 ∧ Fld Z h b1 "java/lang/String" "value" "[B" (.ref b27_0) ∧ h0.size ≤ b27_0 ∧ Arv Z h b27_0 k27_0 .byte (3 : Int32) [(.int ((nar .char x0).toInt8.toInt32)), (.int ((nar .char x1).toInt8.toInt32)), (.int ((nar .char x2).toInt8.toInt32))] vI0 ∧ Exa Z h b27_0 "[B" ∧ b1 ≠ b27_0
theorem rm2_4 (l : Launch) (Z : State) (a0 : Array Value) (hw : own_HW a0 Z) (ws : List Jvm.Cond) (x0 x1 : Int32) (x2 x3 : Int32) (x4 x5 : Int32) (h0 : Heap) (n0 : Nat) (O0 : Old Z n0 h0) (f17 : Sta Z Z.heap "java/lang/String" "COMPACT_STRINGS" "Z" (.int x5)) (hc21 : ¬ (x5 = (0 : Int32))) (hc24 : ¬ ((255 : Int32) < (nar .char x0))) (hc25 : ¬ ((255 : Int32) < (nar .char x1))) (hc26 : ¬ ((255 : Int32) < (nar .char x2))) :
    own_MF l mN3 method_3_code 6 (some (.object "java/lang/String")) ws rR4_3_10_66 Z h0 #[vI3, (.int x0), (.int x1), (.int x2), (.int x3), (.int x4)] (Q2_4 Z x0 x1 x2 x3 x4 x5 h0 n0) := by
  refine own_open (plainFor_of_name pn_com_example_nearmiss_nearmiss_ElementParentPathPinLaw) (L0 := #[lV vI3, lI x0, lI x1, lI x2, lI x3, lI x4]) (fun _ => by first | (simp [entryFrame, mkF, argsToLocals, Value.category]; done) | rfl) ?_
  intro p e s m below meth c s₁ hx hby hml hret hnn hZ hown X0 e0
  have N0 := Fr.nil n0; have w := @ww Z a0 hw
  obtain ⟨T1, h1, X1, e1, E1, A1, D1, -, st1⟩ := newO X0 hx hZ hown (w 8 rfl) (w 9 rfl) (w 10 rfl) e0 (g := (mkF m 64 #[lV vI3, lI x0, lI x1, lI x2, lI x3, lI x4] [])) rfl (hb hby d2_64) (by decide) (by decide)
  obtain ⟨b1, g1⟩ : ∃ z, z = h0.size := ⟨_, rfl⟩
  rw [← g1] at A1 D1 st1
  have f2 : Fld Z h1 b1 "java/lang/String" "value" "[B" .null := D1 (Or.inr (w 24 rfl)) (ty := (.array .byte)) (by decide)
  have f3 : Fld Z h1 b1 "java/lang/String" "coder" "B" vI0 := D1 (Or.inr (w 25 rfl)) (ty := .byte) (by decide)
  obtain ⟨T4, h4, k4, X4, e4, E4, A4, B4, st4⟩ := newPE X1 hx hZ (w 11 rfl) e1 (g := (mkF m 69 #[lV vI3, lI x0, lI x1, lI x2, lI x3, lI x4] [vI3, (.ref b1), (.ref b1)])) rfl (hb hby d2_69) rfl (by decide) (cap := 3) (by decide) (by decide) (by decide) (by decide) (ad := "[C") rfl
  obtain ⟨b4, g4⟩ : ∃ z, z = h1.size := ⟨_, rfl⟩
  rw [← g4] at A4 B4 st4
  have V4 : Arv Z h4 b4 k4 .char (3 : Int32) [vI0, vI0, vI0] vI0 := (Arv.new A4 (by decide)).pad (pad_rep [] vI0 3)
  have o7 := Old.ext O0 E1
  have zz6 : n0 ≤ h1.size := by rw [← o7.1]; exact o7.2.1
  have g8 := Nat.le_trans zz6 (Nat.le_of_eq g4.symm)
  obtain ⟨T9, h9, L9, X9, e9, N9, K9, V9, st9⟩ := own_stC X4 hx hZ e4 (Keep.refl _ _) V4 N0 g8 0 rfl (Nat.le_of_ble_eq_true rfl) ⟨by decide, by decide⟩ (g := (mkF m 74 #[lV vI3, lI x0, lI x1, lI x2, lI x3, lI x4] [(.int x0), vI0, (.ref b4), (.ref b4), (.ref b1), (.ref b1)])) rfl rfl (hb hby d2_74)
  obtain ⟨T10, h10, L10, X10, e10, N10, K10, V10, st10⟩ := own_stC X9 hx hZ e9 K9 V9 N9 g8 1 rfl (Nat.le_of_ble_eq_true rfl) ⟨by decide, by decide⟩ (g := (mkF m 78 #[lV vI3, lI x0, lI x1, lI x2, lI x3, lI x4] [(.int x1), vI1, (.ref b4), (.ref b4), (.ref b1), (.ref b1)])) rfl rfl (hb hby d2_78)
  obtain ⟨T11, h11, L11, X11, e11, N11, K11, V11, st11⟩ := own_stC X10 hx hZ e10 K10 V10 N10 g8 2 rfl (Nat.le_of_ble_eq_true rfl) ⟨by decide, by decide⟩ (g := (mkF m 82 #[lV vI3, lI x0, lI x1, lI x2, lI x3, lI x4] [(.int x2), vI2, (.ref b4), (.ref b4), (.ref b1), (.ref b1)])) rfl rfl (hb hby d2_82)
  have f12 : Arv Z h11 b4 k4 .char (3 : Int32) [(.int (nar .char x0)), (.int (nar .char x1)), (.int (nar .char x2))] vI0 := V11
  have f13 := ((A1.ext E4).keep K11)
  have n14 := Nat.ne_of_lt (Nat.lt_of_lt_of_le A1.lt (Nat.le_of_eq g4.symm))
  have f15 := ((f2.ext E4).keep K11 (ninS n14 nin0))
  have f16 := ((f3.ext E4).keep K11 (ninS n14 nin0))
  have o18 := Old.ext o7 E4
  have o19 := Old.keep o18 K11 (allS g8 all0)
  have f20 := f17.ext o19.2
  have zz22 : n0 ≤ h0.size := by rw [← O0.1]; exact O0.2.1
  have g23 := Nat.le_trans zz22 (Nat.le_of_eq g1.symm)
  obtain ⟨_, T27, Lc27, X27, hQ27, st27⟩ := own_fin (X11.specialBack hx (y := mN2) rfl hown (mvT hZ (w 12 rfl)) (mvT hZ (w 13 rfl)) (mvT hZ (w 14 rfl)) (by decide) (own_newStr hZ hw (w 9 rfl) (cs := [(nar .char x0), (nar .char x1), (nar .char x2)]) (n := 3) g23 f13 f15 f16 f12 f20 hc21 rfl rfl (by decide) (by decide) (own_acS hc24 (own_acS hc25 (own_acS hc26 own_ac0))) (own_bsS rfl (own_bsS rfl (own_bsS rfl own_bs0))) (by decide) (by decide : 1 + 65 ≤ _)) (g := (mkF m 83 #[lV vI3, lI x0, lI x1, lI x2, lI x3, lI x4] [(.ref b4), (.ref b1), (.ref b1)])) rfl (by rw [hml]; rfl) (Steps.refl _) (a := b1) (argsL := [(.ref b4)]) (rest := [(.ref b1)]) (lenOf pd___C_V rfl) rfl (own_W rfl) (hb hby d2_83) (fun _ _ => ⟨rfl, e11, (by decide : 2 + 1 ≤ _), (by decide : 7 + 3 ≤ _)⟩))
  obtain ⟨b27_0, k27_0, rfl, N27q, K27, f28, f29, f30, f31, f32, f33⟩ := hQ27
  have N27 := Fr.app N11 N27q
  have f34 := (f13.keep K27)
  have zs35 := E1.1
  have zs36 := Nat.le_trans zs35 E4.1
  have zs37 := Nat.le_trans zs36 K11.1
  have zs38 := E4.1
  have zs39 := Nat.le_trans zs38 K11.1
  have n40 := Nat.ne_of_lt (Nat.lt_of_lt_of_le (Nat.lt_of_lt_of_le A1.lt zs39) f30)
  have kp41 : Keep h0 h1 [] := (Keep.refl h0 []).ext E1
  have kp42 : Keep h0 h4 [] := kp41.ext E4
  have kp43 : Keep h0 h11 [] := kp42.trans K11 (allS (Or.inr (Nat.le_trans zs35 (Nat.le_of_eq g4.symm))) all0)
  have kp44 : Keep h0 T27.heap [] := kp43.trans K27 (allS (Or.inr (Nat.le_of_eq g1.symm)) all0)
  refine ⟨some (.ref b1), _, _, _, _, nofun, X27, by decide, by decide, ?_, fun fs hr => ?_⟩
  · exact ⟨b1, b27_0, k27_0, rfl, N27, kp44, (Nat.le_of_eq g1.symm), f34, f28, f29, (Nat.le_trans zs37 f30), f31, f32, n40⟩
  · show SG p e below s₁ (mkF m 0 #[lV vI3, lI x0, lI x1, lI x2, lI x3, lI x4] []) _
    refine qiN X0 hx hby d2_0 ?_
    refine XS.ifYes X0.here hx rfl (pc0 := 1) (pc' := 15) rfl (hb hby d2_1) rfl ((if0 _ _).trans (tlt (by decide : (0 : Int32) < (3 : Int32))).2.2.1) (by decide) (by decide) ?_
    show SG p e below s₁ (mkF m 15 #[lV vI3, lI x0, lI x1, lI x2, lI x3, lI x4] []) _
    refine qiN X0 hx hby d2_15 ?_
    refine qc X0 hx hby d2_16 ?_
    refine XS.icmpYes X0.here hx rfl (pc0 := 17) (pc' := 35) rfl (hb hby d2_17) rfl (feq (by decide : ¬ ((3 : Int32) = (1 : Int32)))).2 (by decide) (by decide) ?_
    show SG p e below s₁ (mkF m 35 #[lV vI3, lI x0, lI x1, lI x2, lI x3, lI x4] []) _
    refine qiN X0 hx hby d2_35 ?_
    refine qc X0 hx hby d2_36 ?_
    refine XS.icmpYes X0.here hx rfl (pc0 := 37) (pc' := 59) rfl (hb hby d2_37) rfl (feq (by decide : ¬ ((3 : Int32) = (2 : Int32)))).2 (by decide) (by decide) ?_
    show SG p e below s₁ (mkF m 59 #[lV vI3, lI x0, lI x1, lI x2, lI x3, lI x4] []) _
    refine qiN X0 hx hby d2_59 ?_
    refine qc X0 hx hby d2_60 ?_
    refine XS.icmpNo X0.here hx rfl (hb hby d2_61) rfl (teq (rfl : (3 : Int32) = (3 : Int32))).2 ?_
    refine st1 _ ?_
    show SG p e below T1 (mkF m 67 #[lV vI3, lI x0, lI x1, lI x2, lI x3, lI x4] [(.ref b1)]) _
    refine qd X1 hx hby d2_67 ?_
    refine qc X1 hx hby d2_68 ?_
    refine st4 _ ?_
    show SG p e below T4 (mkF m 71 #[lV vI3, lI x0, lI x1, lI x2, lI x3, lI x4] [(.ref b4), (.ref b1), (.ref b1)]) _
    refine qd X4 hx hby d2_71 ?_
    refine qc X4 hx hby d2_72 ?_
    refine qiN X4 hx hby d2_73 ?_
    refine st9 _ ?_
    show SG p e below T9 (mkF m 75 #[lV vI3, lI x0, lI x1, lI x2, lI x3, lI x4] [(.ref b4), (.ref b1), (.ref b1)]) _
    refine qd X9 hx hby d2_75 ?_
    refine qc X9 hx hby d2_76 ?_
    refine qiN X9 hx hby d2_77 ?_
    refine st10 _ ?_
    show SG p e below T10 (mkF m 79 #[lV vI3, lI x0, lI x1, lI x2, lI x3, lI x4] [(.ref b4), (.ref b1), (.ref b1)]) _
    refine qd X10 hx hby d2_79 ?_
    refine qc X10 hx hby d2_80 ?_
    refine qiN X10 hx hby d2_81 ?_
    refine st11 _ ?_
    show SG p e below T11 (mkF m 83 #[lV vI3, lI x0, lI x1, lI x2, lI x3, lI x4] [(.ref b4), (.ref b1), (.ref b1)]) _
    refine st27.trans ?_
    show SG p e below T27 (mkF m 86 #[lV vI3, lI x0, lI x1, lI x2, lI x3, lI x4] [(.ref b1)]) _
    exact retOut X27 hx (i := .areturn) hret rfl (Or.inr (Or.inr (Or.inr (Or.inr ⟨rfl, rfl, rfl⟩)))) (hb hby d2_86) hr
def Q6_6 (Z : State) (r0 r1 : Addr) (c2 : ClassId) (x3 x4 : Int32) (x5 x6 : Int32) (h0 : Heap) (n0 : Nat) (v : Option Value) (h : Heap) (L : List Loc) : Prop := v = some .null ∧ Fr n0 L ∧ h = h0
theorem rm6_6 (l : Launch) (Z : State) (a0 : Array Value) (hw : own_HW a0 Z) (ws : List Jvm.Cond) (r0 r1 : Addr) (c2 : ClassId) (x3 x4 : Int32) (x5 x6 : Int32) (h0 : Heap) (n0 : Nat) (O0 : Old Z n0 h0) (f1 : Fld Z h0 r0 "java/lang/String" "value" "[B" (.ref r1)) (f2 : Arv Z h0 r1 c2 .byte (3 : Int32) [(.int x3), (.int x4), (.int x5)] vI0) (f3 : Exa Z h0 r0 "java/lang/String") (f4 : Sta Z Z.heap "java/lang/String" "COMPACT_STRINGS" "Z" (.int x6)) (hc5 : ¬ (x6 = (0 : Int32))) (f6 : Fld Z h0 r0 "java/lang/String" "coder" "B" vI0) (hc7 : ¬ (x4 = (47 : Int32))) (hc8 : ¬ (x5 = (47 : Int32))) :
    MetFree l mN12 (head1 (Jvm.Cond.code mN12 prog_6_method_4_code 2 (some (.object "java/lang/String")) :: ws) rR4_0_0_55) (fun a U => a = #[(.ref r0)] ∧ Z.Warmed39 U.vm ∧ U.heap = h0) (fun _ _ _ _ _ => True) (fun _ U o U' => ∃ v L, o = .returned v ∧ Q6_6 Z r0 r1 c2 x3 x4 x5 x6 h0 n0 v U'.heap L ∧ FrameEnd U o U' L rR4_0_0_55.cells rR4_0_0_55.slots) := by
  by_cases hs : x3 = (47 : Int32)
  · exact rm6_2 l Z a0 hw ws r0 r1 (3 : Int32) c2 ([(.int x3), (.int x4), (.int x5)]) x6 (0 : Int32) 2 (0 : Int32) x3 h0 n0 O0 f3 f1 f2 f4 hc5 f6 (by decide) (by decide) (by decide) (fun j hj => match j, hj with | 0, _ => ⟨by decide, rfl, by decide, by decide, by decide, by decide, own_atN (n := 1) (by decide) rfl hc7⟩ | 1, _ => ⟨by decide, rfl, by decide, by decide, by decide, by decide, own_atN (n := 2) (by decide) rfl hc8⟩ | z + 2, hz => absurd hz (by omega)) (by decide) (own_gd (n := 0) rfl rfl) (by decide) hs (by decide)
  · exact rm6_1 l Z a0 hw ws r0 r1 (3 : Int32) c2 ([(.int x3), (.int x4), (.int x5)]) x6 (0 : Int32) 3 (-1 : Int32) h0 n0 O0 f3 f1 f2 f4 hc5 f6 (by decide) (by decide) (by decide) (fun j hj => match j, hj with | 0, _ => ⟨by decide, rfl, by decide, by decide, by decide, by decide, own_atN (n := 0) (by decide) rfl hs⟩ | 1, _ => ⟨by decide, rfl, by decide, by decide, by decide, by decide, own_atN (n := 1) (by decide) rfl hc7⟩ | 2, _ => ⟨by decide, rfl, by decide, by decide, by decide, by decide, own_atN (n := 2) (by decide) rfl hc8⟩ | z + 3, hz => absurd hz (by omega)) (by decide)
def Q0_5 (Z : State) (x0 x1 : Int32) (x2 x3 : Int32) (x4 x5 : Int32) (x6 x7 : Int32) (x8 x9 : Int32) (x10 x11 : Int32) (x12 x13 x14 : Int32) (h0 : Heap) (n0 : Nat) (v : Option Value) (h : Heap) (L : List Loc) : Prop := v = some vI1 ∧ Fr n0 L
theorem rm0_5 (l : Launch) (Z : State) (a0 : Array Value) (hw : own_HW a0 Z) (ws : List Jvm.Cond) (x0 x1 : Int32) (x2 x3 : Int32) (x4 x5 : Int32) (x6 x7 : Int32) (x8 x9 : Int32) (x10 x11 : Int32) (x12 x13 x14 : Int32) (h0 : Heap) (n0 : Nat) (O0 : Old Z n0 h0) (hc2 : ((x0 &&& (2147483647 : Int32)) % (6 : Int32)) = (3 : Int32)) (hq4 : (nar .char (if (x1 &&& (1 : Int32)) = (0 : Int32) then ((((x1.toUInt32 >>> ((1 : Int32) &&& 31).toUInt32).toInt32) &&& (255 : Int32)).toUInt32.toUInt16.toUInt32.toInt32) else (47 : Int32))) = x6) (hq6 : (nar .char (if (x2 &&& (1 : Int32)) = (0 : Int32) then ((((x2.toUInt32 >>> ((1 : Int32) &&& 31).toUInt32).toInt32) &&& (255 : Int32)).toUInt32.toUInt16.toUInt32.toInt32) else (47 : Int32))) = x7) (hq8 : (nar .char (if (x3 &&& (1 : Int32)) = (0 : Int32) then ((((x3.toUInt32 >>> ((1 : Int32) &&& 31).toUInt32).toInt32) &&& (255 : Int32)).toUInt32.toUInt16.toUInt32.toInt32) else (47 : Int32))) = x8) (hq10 : (nar .char (if (x4 &&& (1 : Int32)) = (0 : Int32) then ((((x4.toUInt32 >>> ((1 : Int32) &&& 31).toUInt32).toInt32) &&& (255 : Int32)).toUInt32.toUInt16.toUInt32.toInt32) else (47 : Int32))) = x9) (hq12 : (nar .char (if (x5 &&& (1 : Int32)) = (0 : Int32) then ((((x5.toUInt32 >>> ((1 : Int32) &&& 31).toUInt32).toInt32) &&& (255 : Int32)).toUInt32.toUInt16.toUInt32.toInt32) else (47 : Int32))) = x10) (f13 : Sta Z Z.heap "java/lang/String" "COMPACT_STRINGS" "Z" (.int x11)) (hc14 : ¬ (x11 = (0 : Int32))) (hc15 : ¬ ((255 : Int32) < (nar .char x6))) (hc16 : ¬ ((255 : Int32) < (nar .char x7))) (hc17 : ¬ ((255 : Int32) < (nar .char x8))) (hq31 : (if x6 = (47 : Int32) then (0 : Int32) else (-1 : Int32)) = x12) (hq33 : (if x7 = (47 : Int32) then (1 : Int32) else x12) = x13) (hq35 : (if x8 = (47 : Int32) then (2 : Int32) else x13) = x14) (hc36 : ¬ (((nar .char x7).toInt8.toInt32) = (47 : Int32))) (hc37 : ¬ (((nar .char x8).toInt8.toInt32) = (47 : Int32))) (hc40 : ¬ ((0 : Int32) < x14)) :
    own_MH l x code maxLocals ret ws room_1 Z h0 #[(.int x0), (.int x1), (.int x2), (.int x3), (.int x4), (.int x5)] (Q0_5 Z x0 x1 x2 x3 x4 x5 x6 x7 x8 x9 x10 x11 x12 x13 x14 h0 n0) := by
  have hEL : EW Z a0 consts_1 := own_EW hw
  refine own_openH hEL (plainFor_of_name pn_com_example_nearmiss_nearmiss_ElementParentPathPinLaw) (L0 := #[lI x0, lI x1, lI x2, lI x3, lI x4, lI x5, lU, lU, lU, lU, lU, lU, lU, lU, lU, lU]) (fun _ => by first | (simp [entryFrame, mkF, argsToLocals, Value.category, maxLocals]; done) | rfl) ?_
  intro p e s m below meth c s₁ hx hby hml hret hnn hZ hown X0 e0 R0
  have N0 := Fr.nil n0; have w := @ww Z a0 hw
  have hS1 := (State.WarmedH.refl s).since 0
  obtain ⟨_, T3, Lc3, X3, hQ3, st3⟩ := own_cS X0 hx hZ hown e0 (rm1_1 l Z a0 hw [] x1 h0 n0 O0) (w 1 rfl) (w 2 rfl) (w 3 rfl) (w 4 rfl) (by decide) (W := 0) (by decide) (by decide) (by decide) (by decide) (g := (mkF m 10 #[lI x0, lI x1, lI x2, lI x3, lI x4, lI x5, lV vI3, lU, lU, lU, lU, lU, lU, lU, lU, lU] [(.int x1)])) rfl (by rw [hml]; rfl) (argsL := [(.int x1)]) (rest := []) (lenOf pd__I_C rfl) rfl (own_W rfl) (hb hby at_10)
  obtain ⟨rfl, N3q, E3⟩ := hQ3
  have N3 := Fr.app N0 N3q
  obtain ⟨_, T5, Lc5, X5, hQ5, st5⟩ := own_cS X3 hx hZ hown E3 (rm1_1 l Z a0 hw [] x2 h0 n0 O0) (w 1 rfl) (w 2 rfl) (w 3 rfl) (w 4 rfl) (by decide) (W := 0) (by decide) (by decide) (by decide) (by decide) (g := (mkF m 16 #[lI x0, lI x1, lI x2, lI x3, lI x4, lI x5, lV vI3, lI x6, lU, lU, lU, lU, lU, lU, lU, lU] [(.int x2)])) rfl (by rw [hml]; rfl) (argsL := [(.int x2)]) (rest := []) (lenOf pd__I_C rfl) rfl (own_W rfl) (hb hby at_16)
  obtain ⟨rfl, N5q, E5⟩ := hQ5
  have N5 := Fr.app N3 N5q
  obtain ⟨_, T7, Lc7, X7, hQ7, st7⟩ := own_cS X5 hx hZ hown E5 (rm1_1 l Z a0 hw [] x3 h0 n0 O0) (w 1 rfl) (w 2 rfl) (w 3 rfl) (w 4 rfl) (by decide) (W := 0) (by decide) (by decide) (by decide) (by decide) (g := (mkF m 22 #[lI x0, lI x1, lI x2, lI x3, lI x4, lI x5, lV vI3, lI x6, lI x7, lU, lU, lU, lU, lU, lU, lU] [(.int x3)])) rfl (by rw [hml]; rfl) (argsL := [(.int x3)]) (rest := []) (lenOf pd__I_C rfl) rfl (own_W rfl) (hb hby at_22)
  obtain ⟨rfl, N7q, E7⟩ := hQ7
  have N7 := Fr.app N5 N7q
  obtain ⟨_, T9, Lc9, X9, hQ9, st9⟩ := own_cS X7 hx hZ hown E7 (rm1_1 l Z a0 hw [] x4 h0 n0 O0) (w 1 rfl) (w 2 rfl) (w 3 rfl) (w 4 rfl) (by decide) (W := 0) (by decide) (by decide) (by decide) (by decide) (g := (mkF m 29 #[lI x0, lI x1, lI x2, lI x3, lI x4, lI x5, lV vI3, lI x6, lI x7, lI x8, lU, lU, lU, lU, lU, lU] [(.int x4)])) rfl (by rw [hml]; rfl) (argsL := [(.int x4)]) (rest := []) (lenOf pd__I_C rfl) rfl (own_W rfl) (hb hby at_29)
  obtain ⟨rfl, N9q, E9⟩ := hQ9
  have N9 := Fr.app N7 N9q
  obtain ⟨_, T11, Lc11, X11, hQ11, st11⟩ := own_cS X9 hx hZ hown E9 (rm1_1 l Z a0 hw [] x5 h0 n0 O0) (w 1 rfl) (w 2 rfl) (w 3 rfl) (w 4 rfl) (by decide) (W := 0) (by decide) (by decide) (by decide) (by decide) (g := (mkF m 36 #[lI x0, lI x1, lI x2, lI x3, lI x4, lI x5, lV vI3, lI x6, lI x7, lI x8, lI x9, lU, lU, lU, lU, lU] [(.int x5)])) rfl (by rw [hml]; rfl) (argsL := [(.int x5)]) (rest := []) (lenOf pd__I_C rfl) rfl (own_W rfl) (hb hby at_36)
  obtain ⟨rfl, N11q, E11⟩ := hQ11
  have N11 := Fr.app N9 N11q
  obtain ⟨_, T18, Lc18, X18, hQ18, st18⟩ := own_cS X11 hx hZ hown E11 (rm2_4 l Z a0 hw [] x6 x7 x8 x9 x10 x11 h0 n0 O0 f13 hc14 hc15 hc16 hc17) (w 5 rfl) (w 6 rfl) (w 3 rfl) (w 7 rfl) (by decide) (W := 0) (by decide) (by decide) (by decide) (by decide) (g := (mkF m 53 #[lI x0, lI x1, lI x2, lI x3, lI x4, lI x5, lV vI3, lI x6, lI x7, lI x8, lI x9, lI x10, lU, lU, lU, lU] [(.int x10), (.int x9), (.int x8), (.int x7), (.int x6), vI3])) rfl (by rw [hml]; rfl) (argsL := [vI3, (.int x6), (.int x7), (.int x8), (.int x9), (.int x10)]) (rest := []) (lenOf pd__ICCCCC_Ljava_lang_String_ rfl) rfl (own_W rfl) (hb hby at_53)
  obtain ⟨b18_0, b18_1, k18_0, rfl, N18q, K18, f19, f20, f21, f22, f23, f24, f25, f26⟩ := hQ18
  have N18 := Fr.app N11 N18q
  have R27 := CHr.trans R0 (CHr.keep K18 sf0 R0.1)
  have sf28 : Safe Z consts_1 s.vm h0 b18_0 := Safe.new f19
  have sf29 : Safe Z consts_1 s.vm h0 b18_1 := Safe.new f23
  have dm30 : ∀ t, Steps p.tables e below (T18.setTop (mkF m 76 #[lI x0, lI x1, lI x2, lI x3, lI x4, lI x5, lV vI3, lI x6, lI x7, lI x8, lI x9, lI x10, lR b18_0, .val (.int (if x6 = (47 : Int32) then (0 : Int32) else (-1 : Int32))), lU, lU] [])) t → Steps p.tables e below (T18.setTop (mkF m 70 #[lI x0, lI x1, lI x2, lI x3, lI x4, lI x5, lV vI3, lI x6, lI x7, lI x8, lI x9, lI x10, lR b18_0, .val (.int (-1 : Int32)), lU, lU] [vI47, (.int x6)])) t := by
    intro t kk
    by_cases hd : x6 = (47 : Int32)
    · show SG p e below T18 (mkF m 70 #[lI x0, lI x1, lI x2, lI x3, lI x4, lI x5, lV vI3, lI x6, lI x7, lI x8, lI x9, lI x10, lR b18_0, .val (.int (-1 : Int32)), lU, lU] [vI47, (.int x6)]) _
      refine XS.icmpNo X18.here hx rfl (hb hby at_70) rfl (teq hd).2 ?_
      refine qc X18 hx hby at_73 ?_
      refine XS.istore X18.here hx rfl (hb hby at_74) rfl (l' := #[lI x0, lI x1, lI x2, lI x3, lI x4, lI x5, lV vI3, lI x6, lI x7, lI x8, lI x9, lI x10, lR b18_0, lV vI0, lU, lU]) rfl ?_
      simp only [if_pos hd] at kk
      exact kk
    · show SG p e below T18 (mkF m 70 #[lI x0, lI x1, lI x2, lI x3, lI x4, lI x5, lV vI3, lI x6, lI x7, lI x8, lI x9, lI x10, lR b18_0, .val (.int (-1 : Int32)), lU, lU] [vI47, (.int x6)]) _
      refine XS.icmpYes X18.here hx rfl (pc0 := 70) (pc' := 76) rfl (hb hby at_70) rfl (feq hd).2 (by decide) (by decide) ?_
      simp only [if_neg hd] at kk
      exact kk
  have dm32 : ∀ t, Steps p.tables e below (T18.setTop (mkF m 92 #[lI x0, lI x1, lI x2, lI x3, lI x4, lI x5, lV vI3, lI x6, lI x7, lI x8, lI x9, lI x10, lR b18_0, .val (.int (if x7 = (47 : Int32) then (1 : Int32) else x12)), lU, lU] [])) t → Steps p.tables e below (T18.setTop (mkF m 86 #[lI x0, lI x1, lI x2, lI x3, lI x4, lI x5, lV vI3, lI x6, lI x7, lI x8, lI x9, lI x10, lR b18_0, lI x12, lU, lU] [vI47, (.int x7)])) t := by
    intro t kk
    by_cases hd : x7 = (47 : Int32)
    · show SG p e below T18 (mkF m 86 #[lI x0, lI x1, lI x2, lI x3, lI x4, lI x5, lV vI3, lI x6, lI x7, lI x8, lI x9, lI x10, lR b18_0, lI x12, lU, lU] [vI47, (.int x7)]) _
      refine XS.icmpNo X18.here hx rfl (hb hby at_86) rfl (teq hd).2 ?_
      refine qc X18 hx hby at_89 ?_
      refine XS.istore X18.here hx rfl (hb hby at_90) rfl (l' := #[lI x0, lI x1, lI x2, lI x3, lI x4, lI x5, lV vI3, lI x6, lI x7, lI x8, lI x9, lI x10, lR b18_0, lV vI1, lU, lU]) rfl ?_
      simp only [if_pos hd] at kk
      exact kk
    · show SG p e below T18 (mkF m 86 #[lI x0, lI x1, lI x2, lI x3, lI x4, lI x5, lV vI3, lI x6, lI x7, lI x8, lI x9, lI x10, lR b18_0, lI x12, lU, lU] [vI47, (.int x7)]) _
      refine XS.icmpYes X18.here hx rfl (pc0 := 86) (pc' := 92) rfl (hb hby at_86) rfl (feq hd).2 (by decide) (by decide) ?_
      simp only [if_neg hd] at kk
      exact kk
  have dm34 : ∀ t, Steps p.tables e below (T18.setTop (mkF m 108 #[lI x0, lI x1, lI x2, lI x3, lI x4, lI x5, lV vI3, lI x6, lI x7, lI x8, lI x9, lI x10, lR b18_0, .val (.int (if x8 = (47 : Int32) then (2 : Int32) else x13)), lU, lU] [])) t → Steps p.tables e below (T18.setTop (mkF m 102 #[lI x0, lI x1, lI x2, lI x3, lI x4, lI x5, lV vI3, lI x6, lI x7, lI x8, lI x9, lI x10, lR b18_0, lI x13, lU, lU] [vI47, (.int x8)])) t := by
    intro t kk
    by_cases hd : x8 = (47 : Int32)
    · show SG p e below T18 (mkF m 102 #[lI x0, lI x1, lI x2, lI x3, lI x4, lI x5, lV vI3, lI x6, lI x7, lI x8, lI x9, lI x10, lR b18_0, lI x13, lU, lU] [vI47, (.int x8)]) _
      refine XS.icmpNo X18.here hx rfl (hb hby at_102) rfl (teq hd).2 ?_
      refine qc X18 hx hby at_105 ?_
      refine XS.istore X18.here hx rfl (hb hby at_106) rfl (l' := #[lI x0, lI x1, lI x2, lI x3, lI x4, lI x5, lV vI3, lI x6, lI x7, lI x8, lI x9, lI x10, lR b18_0, lV vI2, lU, lU]) rfl ?_
      simp only [if_pos hd] at kk
      exact kk
    · show SG p e below T18 (mkF m 102 #[lI x0, lI x1, lI x2, lI x3, lI x4, lI x5, lV vI3, lI x6, lI x7, lI x8, lI x9, lI x10, lR b18_0, lI x13, lU, lU] [vI47, (.int x8)]) _
      refine XS.icmpYes X18.here hx rfl (pc0 := 102) (pc' := 108) rfl (hb hby at_102) rfl (feq hd).2 (by decide) (by decide) ?_
      simp only [if_neg hd] at kk
      exact kk
  have o38 := Old.keep O0 K18 all0
  obtain ⟨_, T39, Lc39, X39, hQ39, st39⟩ := own_cS X18 hx hZ hown rfl (rm6_6 l Z a0 hw [] b18_0 b18_1 k18_0 ((nar .char x6).toInt8.toInt32) ((nar .char x7).toInt8.toInt32) ((nar .char x8).toInt8.toInt32) x11 T18.heap n0 o38 f22 f24 f20 f13 hc14 f21 hc36 hc37) (w 30 rfl) (w 31 rfl) (w 32 rfl) (w 33 rfl) (by decide) (W := 0) (by decide) (by decide) (by decide) (by decide) (g := (mkF m 142 #[lI x0, lI x1, lI x2, lI x3, lI x4, lI x5, lV vI3, lI x6, lI x7, lI x8, lI x9, lI x10, lR b18_0, lI x14, lU, lU] [(.ref b18_0)])) rfl (by rw [hml]; rfl) (argsL := [(.ref b18_0)]) (rest := []) (lenOf pd__Ljava_lang_String__Ljava_lang_String_ rfl) rfl (own_W rfl) (hb hby at_142)
  obtain ⟨rfl, N39q, E39⟩ := hQ39
  have N39 := Fr.app N18 N39q
  refine ⟨some vI1, _, _, _, _, _, _, _, nofun, X39, by decide, by decide, hS1, (by rw [E39]; exact (Nat.zero_le _)), hZ, E39, R27, ?_, fun fs hr => ?_⟩
  · rw [E39]; exact ⟨rfl, N39⟩
  · show SG p e below s₁ (mkF m 0 #[lI x0, lI x1, lI x2, lI x3, lI x4, lI x5, lU, lU, lU, lU, lU, lU, lU, lU, lU, lU] []) _
    refine qiN X0 hx hby at_0 ?_
    refine X0.ldcInt hx hown (mvT hZ (w 0 rfl)) (g := (mkF m 1 #[lI x0, lI x1, lI x2, lI x3, lI x4, lI x5, lU, lU, lU, lU, lU, lU, lU, lU, lU, lU] [(.int x0)])) rfl (hb hby at_1) _ ?_
    show SG p e below s₁ (mkF m 3 #[lI x0, lI x1, lI x2, lI x3, lI x4, lI x5, lU, lU, lU, lU, lU, lU, lU, lU, lU, lU] [vI2147483647, (.int x0)]) _
    refine XS.iand X0.here hx rfl (hb hby at_3) rfl ?_
    refine qb X0 hx hby at_4 ?_
    refine iremM (g := (mkF m 6 #[lI x0, lI x1, lI x2, lI x3, lI x4, lI x5, lU, lU, lU, lU, lU, lU, lU, lU, lU, lU] [vI6, (.int (x0 &&& (2147483647 : Int32)))])) X0 hx rfl (hb hby at_6) rfl (by decide : ¬ ((6 : Int32) = (0 : Int32))) ?_
    show SG p e below s₁ (mkF m 7 #[lI x0, lI x1, lI x2, lI x3, lI x4, lI x5, lU, lU, lU, lU, lU, lU, lU, lU, lU, lU] [(.int ((x0 &&& (2147483647 : Int32)) % (6 : Int32)))]) _
    rw [hc2]
    show SG p e below s₁ (mkF m 7 #[lI x0, lI x1, lI x2, lI x3, lI x4, lI x5, lU, lU, lU, lU, lU, lU, lU, lU, lU, lU] [vI3]) _
    refine XS.istore X0.here hx rfl (hb hby at_7) rfl (l' := #[lI x0, lI x1, lI x2, lI x3, lI x4, lI x5, lV vI3, lU, lU, lU, lU, lU, lU, lU, lU, lU]) rfl ?_
    refine qiN X0 hx hby at_9 ?_
    refine st3 _ ?_
    show SG p e below T3 (mkF m 13 #[lI x0, lI x1, lI x2, lI x3, lI x4, lI x5, lV vI3, lU, lU, lU, lU, lU, lU, lU, lU, lU] [(.int (nar .char (if (x1 &&& (1 : Int32)) = (0 : Int32) then ((((x1.toUInt32 >>> ((1 : Int32) &&& 31).toUInt32).toInt32) &&& (255 : Int32)).toUInt32.toUInt16.toUInt32.toInt32) else (47 : Int32))))]) _
    rw [hq4]
    show SG p e below T3 (mkF m 13 #[lI x0, lI x1, lI x2, lI x3, lI x4, lI x5, lV vI3, lU, lU, lU, lU, lU, lU, lU, lU, lU] [(.int x6)]) _
    refine XS.istore X3.here hx rfl (hb hby at_13) rfl (l' := #[lI x0, lI x1, lI x2, lI x3, lI x4, lI x5, lV vI3, lI x6, lU, lU, lU, lU, lU, lU, lU, lU]) rfl ?_
    refine qiN X3 hx hby at_15 ?_
    refine st5 _ ?_
    show SG p e below T5 (mkF m 19 #[lI x0, lI x1, lI x2, lI x3, lI x4, lI x5, lV vI3, lI x6, lU, lU, lU, lU, lU, lU, lU, lU] [(.int (nar .char (if (x2 &&& (1 : Int32)) = (0 : Int32) then ((((x2.toUInt32 >>> ((1 : Int32) &&& 31).toUInt32).toInt32) &&& (255 : Int32)).toUInt32.toUInt16.toUInt32.toInt32) else (47 : Int32))))]) _
    rw [hq6]
    show SG p e below T5 (mkF m 19 #[lI x0, lI x1, lI x2, lI x3, lI x4, lI x5, lV vI3, lI x6, lU, lU, lU, lU, lU, lU, lU, lU] [(.int x7)]) _
    refine XS.istore X5.here hx rfl (hb hby at_19) rfl (l' := #[lI x0, lI x1, lI x2, lI x3, lI x4, lI x5, lV vI3, lI x6, lI x7, lU, lU, lU, lU, lU, lU, lU]) rfl ?_
    refine qiN X5 hx hby at_21 ?_
    refine st7 _ ?_
    show SG p e below T7 (mkF m 25 #[lI x0, lI x1, lI x2, lI x3, lI x4, lI x5, lV vI3, lI x6, lI x7, lU, lU, lU, lU, lU, lU, lU] [(.int (nar .char (if (x3 &&& (1 : Int32)) = (0 : Int32) then ((((x3.toUInt32 >>> ((1 : Int32) &&& 31).toUInt32).toInt32) &&& (255 : Int32)).toUInt32.toUInt16.toUInt32.toInt32) else (47 : Int32))))]) _
    rw [hq8]
    show SG p e below T7 (mkF m 25 #[lI x0, lI x1, lI x2, lI x3, lI x4, lI x5, lV vI3, lI x6, lI x7, lU, lU, lU, lU, lU, lU, lU] [(.int x8)]) _
    refine XS.istore X7.here hx rfl (hb hby at_25) rfl (l' := #[lI x0, lI x1, lI x2, lI x3, lI x4, lI x5, lV vI3, lI x6, lI x7, lI x8, lU, lU, lU, lU, lU, lU]) rfl ?_
    refine qi X7 hx hby at_27 ?_
    refine st9 _ ?_
    show SG p e below T9 (mkF m 32 #[lI x0, lI x1, lI x2, lI x3, lI x4, lI x5, lV vI3, lI x6, lI x7, lI x8, lU, lU, lU, lU, lU, lU] [(.int (nar .char (if (x4 &&& (1 : Int32)) = (0 : Int32) then ((((x4.toUInt32 >>> ((1 : Int32) &&& 31).toUInt32).toInt32) &&& (255 : Int32)).toUInt32.toUInt16.toUInt32.toInt32) else (47 : Int32))))]) _
    rw [hq10]
    show SG p e below T9 (mkF m 32 #[lI x0, lI x1, lI x2, lI x3, lI x4, lI x5, lV vI3, lI x6, lI x7, lI x8, lU, lU, lU, lU, lU, lU] [(.int x9)]) _
    refine XS.istore X9.here hx rfl (hb hby at_32) rfl (l' := #[lI x0, lI x1, lI x2, lI x3, lI x4, lI x5, lV vI3, lI x6, lI x7, lI x8, lI x9, lU, lU, lU, lU, lU]) rfl ?_
    refine qi X9 hx hby at_34 ?_
    refine st11 _ ?_
    show SG p e below T11 (mkF m 39 #[lI x0, lI x1, lI x2, lI x3, lI x4, lI x5, lV vI3, lI x6, lI x7, lI x8, lI x9, lU, lU, lU, lU, lU] [(.int (nar .char (if (x5 &&& (1 : Int32)) = (0 : Int32) then ((((x5.toUInt32 >>> ((1 : Int32) &&& 31).toUInt32).toInt32) &&& (255 : Int32)).toUInt32.toUInt16.toUInt32.toInt32) else (47 : Int32))))]) _
    rw [hq12]
    show SG p e below T11 (mkF m 39 #[lI x0, lI x1, lI x2, lI x3, lI x4, lI x5, lV vI3, lI x6, lI x7, lI x8, lI x9, lU, lU, lU, lU, lU] [(.int x10)]) _
    refine XS.istore X11.here hx rfl (hb hby at_39) rfl (l' := #[lI x0, lI x1, lI x2, lI x3, lI x4, lI x5, lV vI3, lI x6, lI x7, lI x8, lI x9, lI x10, lU, lU, lU, lU]) rfl ?_
    refine qi X11 hx hby at_41 ?_
    refine qi X11 hx hby at_43 ?_
    refine qi X11 hx hby at_45 ?_
    refine qi X11 hx hby at_47 ?_
    refine qi X11 hx hby at_49 ?_
    refine qi X11 hx hby at_51 ?_
    refine st18 _ ?_
    show SG p e below T18 (mkF m 56 #[lI x0, lI x1, lI x2, lI x3, lI x4, lI x5, lV vI3, lI x6, lI x7, lI x8, lI x9, lI x10, lU, lU, lU, lU] [(.ref b18_0)]) _
    refine XS.astore X18.here hx rfl (hb hby at_56) rfl rfl (l' := #[lI x0, lI x1, lI x2, lI x3, lI x4, lI x5, lV vI3, lI x6, lI x7, lI x8, lI x9, lI x10, lR b18_0, lU, lU, lU]) rfl ?_
    refine qc X18 hx hby at_58 ?_
    refine XS.istore X18.here hx rfl (hb hby at_59) rfl (l' := #[lI x0, lI x1, lI x2, lI x3, lI x4, lI x5, lV vI3, lI x6, lI x7, lI x8, lI x9, lI x10, lR b18_0, .val (.int (-1 : Int32)), lU, lU]) rfl ?_
    refine qi X18 hx hby at_61 ?_
    refine XS.ifNo X18.here hx rfl (hb hby at_63) rfl ((if0 _ _).trans (tlt (by decide : (0 : Int32) < (3 : Int32))).2.2.2) ?_
    refine qi X18 hx hby at_66 ?_
    refine qb X18 hx hby at_68 ?_
    show SG p e below T18 (mkF m 70 #[lI x0, lI x1, lI x2, lI x3, lI x4, lI x5, lV vI3, lI x6, lI x7, lI x8, lI x9, lI x10, lR b18_0, .val (.int (-1 : Int32)), lU, lU] [vI47, (.int x6)]) _
    refine dm30 _ ?_
    show SG p e below T18 (mkF m 76 #[lI x0, lI x1, lI x2, lI x3, lI x4, lI x5, lV vI3, lI x6, lI x7, lI x8, lI x9, lI x10, lR b18_0, .val (.int (if x6 = (47 : Int32) then (0 : Int32) else (-1 : Int32))), lU, lU] []) _
    rw [hq31]
    show SG p e below T18 (mkF m 76 #[lI x0, lI x1, lI x2, lI x3, lI x4, lI x5, lV vI3, lI x6, lI x7, lI x8, lI x9, lI x10, lR b18_0, lI x12, lU, lU] []) _
    refine qi X18 hx hby at_76 ?_
    refine qc X18 hx hby at_78 ?_
    refine XS.icmpNo X18.here hx rfl (hb hby at_79) rfl (tlt (by decide : (1 : Int32) < (3 : Int32))).2.2.2 ?_
    refine qi X18 hx hby at_82 ?_
    refine qb X18 hx hby at_84 ?_
    show SG p e below T18 (mkF m 86 #[lI x0, lI x1, lI x2, lI x3, lI x4, lI x5, lV vI3, lI x6, lI x7, lI x8, lI x9, lI x10, lR b18_0, lI x12, lU, lU] [vI47, (.int x7)]) _
    refine dm32 _ ?_
    show SG p e below T18 (mkF m 92 #[lI x0, lI x1, lI x2, lI x3, lI x4, lI x5, lV vI3, lI x6, lI x7, lI x8, lI x9, lI x10, lR b18_0, .val (.int (if x7 = (47 : Int32) then (1 : Int32) else x12)), lU, lU] []) _
    rw [hq33]
    show SG p e below T18 (mkF m 92 #[lI x0, lI x1, lI x2, lI x3, lI x4, lI x5, lV vI3, lI x6, lI x7, lI x8, lI x9, lI x10, lR b18_0, lI x13, lU, lU] []) _
    refine qi X18 hx hby at_92 ?_
    refine qc X18 hx hby at_94 ?_
    refine XS.icmpNo X18.here hx rfl (hb hby at_95) rfl (tlt (by decide : (2 : Int32) < (3 : Int32))).2.2.2 ?_
    refine qi X18 hx hby at_98 ?_
    refine qb X18 hx hby at_100 ?_
    show SG p e below T18 (mkF m 102 #[lI x0, lI x1, lI x2, lI x3, lI x4, lI x5, lV vI3, lI x6, lI x7, lI x8, lI x9, lI x10, lR b18_0, lI x13, lU, lU] [vI47, (.int x8)]) _
    refine dm34 _ ?_
    show SG p e below T18 (mkF m 108 #[lI x0, lI x1, lI x2, lI x3, lI x4, lI x5, lV vI3, lI x6, lI x7, lI x8, lI x9, lI x10, lR b18_0, .val (.int (if x8 = (47 : Int32) then (2 : Int32) else x13)), lU, lU] []) _
    rw [hq35]
    show SG p e below T18 (mkF m 108 #[lI x0, lI x1, lI x2, lI x3, lI x4, lI x5, lV vI3, lI x6, lI x7, lI x8, lI x9, lI x10, lR b18_0, lI x14, lU, lU] []) _
    refine qi X18 hx hby at_108 ?_
    refine qc X18 hx hby at_110 ?_
    refine XS.icmpYes X18.here hx rfl (pc0 := 111) (pc' := 124) rfl (hb hby at_111) rfl (flt (by decide : ¬ ((3 : Int32) < (3 : Int32)))).2.2.2 (by decide) (by decide) ?_
    show SG p e below T18 (mkF m 124 #[lI x0, lI x1, lI x2, lI x3, lI x4, lI x5, lV vI3, lI x6, lI x7, lI x8, lI x9, lI x10, lR b18_0, lI x14, lU, lU] []) _
    refine qi X18 hx hby at_124 ?_
    refine qc X18 hx hby at_126 ?_
    refine XS.icmpYes X18.here hx rfl (pc0 := 127) (pc' := 140) rfl (hb hby at_127) rfl (flt (by decide : ¬ ((4 : Int32) < (3 : Int32)))).2.2.2 (by decide) (by decide) ?_
    show SG p e below T18 (mkF m 140 #[lI x0, lI x1, lI x2, lI x3, lI x4, lI x5, lV vI3, lI x6, lI x7, lI x8, lI x9, lI x10, lR b18_0, lI x14, lU, lU] []) _
    refine qa X18 hx hby at_140 ?_
    refine st39 _ ?_
    show SG p e below T39 (mkF m 145 #[lI x0, lI x1, lI x2, lI x3, lI x4, lI x5, lV vI3, lI x6, lI x7, lI x8, lI x9, lI x10, lR b18_0, lI x14, lU, lU] [.null]) _
    refine XS.astore X39.here hx rfl (hb hby at_145) rfl rfl (l' := #[lI x0, lI x1, lI x2, lI x3, lI x4, lI x5, lV vI3, lI x6, lI x7, lI x8, lI x9, lI x10, lR b18_0, lI x14, .val .null, lU]) rfl ?_
    refine qi X39 hx hby at_147 ?_
    refine XS.ifNo X39.here hx rfl (hb hby at_149) rfl ((if0 _ _).trans (flt hc40).2.2.1) ?_
    refine qa X39 hx hby at_152 ?_
    refine XS.ifnonnullNo X39.here hx rfl (hb hby at_154) rfl ?_
    refine qc X39 hx hby at_157 ?_
    refine XS.goto X39.here hx rfl (pc0 := 158) (pc' := 162) rfl (hb hby at_158) (by decide) (by decide) ?_
    show SG p e below T39 (mkF m 162 #[lI x0, lI x1, lI x2, lI x3, lI x4, lI x5, lV vI3, lI x6, lI x7, lI x8, lI x9, lI x10, lR b18_0, lI x14, .val .null, lU] [vI1]) _
    exact retN X39 hx (t := .boolean) hret (by simp) (hb hby at_162) hr
def Q0_6 (Z : State) (x0 x1 : Int32) (x2 x3 : Int32) (x4 x5 : Int32) (x6 x7 : Int32) (x8 x9 : Int32) (x10 x11 : Int32) (x12 x13 x14 : Int32) (u15 : Value) (h0 : Heap) (n0 : Nat) (v : Option Value) (h : Heap) (L : List Loc) : Prop := v = some vI1 ∧ Fr n0 L
theorem rm0_6 (l : Launch) (Z : State) (a0 : Array Value) (hw : own_HW a0 Z) (ws : List Jvm.Cond) (x0 x1 : Int32) (x2 x3 : Int32) (x4 x5 : Int32) (x6 x7 : Int32) (x8 x9 : Int32) (x10 x11 : Int32) (x12 x13 x14 : Int32) (u15 : Value) (h0 : Heap) (n0 : Nat) (O0 : Old Z n0 h0) (hc2 : ((x0 &&& (2147483647 : Int32)) % (6 : Int32)) = (3 : Int32)) (hq4 : (nar .char (if (x1 &&& (1 : Int32)) = (0 : Int32) then ((((x1.toUInt32 >>> ((1 : Int32) &&& 31).toUInt32).toInt32) &&& (255 : Int32)).toUInt32.toUInt16.toUInt32.toInt32) else (47 : Int32))) = x6) (hq6 : (nar .char (if (x2 &&& (1 : Int32)) = (0 : Int32) then ((((x2.toUInt32 >>> ((1 : Int32) &&& 31).toUInt32).toInt32) &&& (255 : Int32)).toUInt32.toUInt16.toUInt32.toInt32) else (47 : Int32))) = x7) (hq8 : (nar .char (if (x3 &&& (1 : Int32)) = (0 : Int32) then ((((x3.toUInt32 >>> ((1 : Int32) &&& 31).toUInt32).toInt32) &&& (255 : Int32)).toUInt32.toUInt16.toUInt32.toInt32) else (47 : Int32))) = x8) (hq10 : (nar .char (if (x4 &&& (1 : Int32)) = (0 : Int32) then ((((x4.toUInt32 >>> ((1 : Int32) &&& 31).toUInt32).toInt32) &&& (255 : Int32)).toUInt32.toUInt16.toUInt32.toInt32) else (47 : Int32))) = x9) (hq12 : (nar .char (if (x5 &&& (1 : Int32)) = (0 : Int32) then ((((x5.toUInt32 >>> ((1 : Int32) &&& 31).toUInt32).toInt32) &&& (255 : Int32)).toUInt32.toUInt16.toUInt32.toInt32) else (47 : Int32))) = x10) (f13 : Sta Z Z.heap "java/lang/String" "COMPACT_STRINGS" "Z" (.int x11)) (hc14 : ¬ (x11 = (0 : Int32))) (hc15 : ¬ ((255 : Int32) < (nar .char x6))) (hc16 : ¬ ((255 : Int32) < (nar .char x7))) (hc17 : ¬ ((255 : Int32) < (nar .char x8))) (hq31 : (if x6 = (47 : Int32) then (0 : Int32) else (-1 : Int32)) = x12) (hq33 : (if x7 = (47 : Int32) then (1 : Int32) else x12) = x13) (hq35 : (if x8 = (47 : Int32) then (2 : Int32) else x13) = x14) (hc36 : ¬ (((nar .char x8).toInt8.toInt32) = (47 : Int32))) (hc37 : ((nar .char x7).toInt8.toInt32) = (47 : Int32)) (f38 : Sta Z Z.heap cs4 "SIOOBE_FORMATTER" cs5 u15) (hc39 : u15.isRef = true) (hc53 : x14 = (1 : Int32)) :
    own_MH l x code maxLocals ret ws room_1 Z h0 #[(.int x0), (.int x1), (.int x2), (.int x3), (.int x4), (.int x5)] (Q0_6 Z x0 x1 x2 x3 x4 x5 x6 x7 x8 x9 x10 x11 x12 x13 x14 u15 h0 n0) := by
  have hEL : EW Z a0 consts_1 := own_EW hw
  refine own_openH hEL (plainFor_of_name pn_com_example_nearmiss_nearmiss_ElementParentPathPinLaw) (L0 := #[lI x0, lI x1, lI x2, lI x3, lI x4, lI x5, lU, lU, lU, lU, lU, lU, lU, lU, lU, lU]) (fun _ => by first | (simp [entryFrame, mkF, argsToLocals, Value.category, maxLocals]; done) | rfl) ?_
  intro p e s m below meth c s₁ hx hby hml hret hnn hZ hown X0 e0 R0
  have N0 := Fr.nil n0; have w := @ww Z a0 hw
  have hS1 := (State.WarmedH.refl s).since 0
  obtain ⟨_, T3, Lc3, X3, hQ3, st3⟩ := own_cS X0 hx hZ hown e0 (rm1_1 l Z a0 hw [] x1 h0 n0 O0) (w 1 rfl) (w 2 rfl) (w 3 rfl) (w 4 rfl) (by decide) (W := 0) (by decide) (by decide) (by decide) (by decide) (g := (mkF m 10 #[lI x0, lI x1, lI x2, lI x3, lI x4, lI x5, lV vI3, lU, lU, lU, lU, lU, lU, lU, lU, lU] [(.int x1)])) rfl (by rw [hml]; rfl) (argsL := [(.int x1)]) (rest := []) (lenOf pd__I_C rfl) rfl (own_W rfl) (hb hby at_10)
  obtain ⟨rfl, N3q, E3⟩ := hQ3
  have N3 := Fr.app N0 N3q
  obtain ⟨_, T5, Lc5, X5, hQ5, st5⟩ := own_cS X3 hx hZ hown E3 (rm1_1 l Z a0 hw [] x2 h0 n0 O0) (w 1 rfl) (w 2 rfl) (w 3 rfl) (w 4 rfl) (by decide) (W := 0) (by decide) (by decide) (by decide) (by decide) (g := (mkF m 16 #[lI x0, lI x1, lI x2, lI x3, lI x4, lI x5, lV vI3, lI x6, lU, lU, lU, lU, lU, lU, lU, lU] [(.int x2)])) rfl (by rw [hml]; rfl) (argsL := [(.int x2)]) (rest := []) (lenOf pd__I_C rfl) rfl (own_W rfl) (hb hby at_16)
  obtain ⟨rfl, N5q, E5⟩ := hQ5
  have N5 := Fr.app N3 N5q
  obtain ⟨_, T7, Lc7, X7, hQ7, st7⟩ := own_cS X5 hx hZ hown E5 (rm1_1 l Z a0 hw [] x3 h0 n0 O0) (w 1 rfl) (w 2 rfl) (w 3 rfl) (w 4 rfl) (by decide) (W := 0) (by decide) (by decide) (by decide) (by decide) (g := (mkF m 22 #[lI x0, lI x1, lI x2, lI x3, lI x4, lI x5, lV vI3, lI x6, lI x7, lU, lU, lU, lU, lU, lU, lU] [(.int x3)])) rfl (by rw [hml]; rfl) (argsL := [(.int x3)]) (rest := []) (lenOf pd__I_C rfl) rfl (own_W rfl) (hb hby at_22)
  obtain ⟨rfl, N7q, E7⟩ := hQ7
  have N7 := Fr.app N5 N7q
  obtain ⟨_, T9, Lc9, X9, hQ9, st9⟩ := own_cS X7 hx hZ hown E7 (rm1_1 l Z a0 hw [] x4 h0 n0 O0) (w 1 rfl) (w 2 rfl) (w 3 rfl) (w 4 rfl) (by decide) (W := 0) (by decide) (by decide) (by decide) (by decide) (g := (mkF m 29 #[lI x0, lI x1, lI x2, lI x3, lI x4, lI x5, lV vI3, lI x6, lI x7, lI x8, lU, lU, lU, lU, lU, lU] [(.int x4)])) rfl (by rw [hml]; rfl) (argsL := [(.int x4)]) (rest := []) (lenOf pd__I_C rfl) rfl (own_W rfl) (hb hby at_29)
  obtain ⟨rfl, N9q, E9⟩ := hQ9
  have N9 := Fr.app N7 N9q
  obtain ⟨_, T11, Lc11, X11, hQ11, st11⟩ := own_cS X9 hx hZ hown E9 (rm1_1 l Z a0 hw [] x5 h0 n0 O0) (w 1 rfl) (w 2 rfl) (w 3 rfl) (w 4 rfl) (by decide) (W := 0) (by decide) (by decide) (by decide) (by decide) (g := (mkF m 36 #[lI x0, lI x1, lI x2, lI x3, lI x4, lI x5, lV vI3, lI x6, lI x7, lI x8, lI x9, lU, lU, lU, lU, lU] [(.int x5)])) rfl (by rw [hml]; rfl) (argsL := [(.int x5)]) (rest := []) (lenOf pd__I_C rfl) rfl (own_W rfl) (hb hby at_36)
  obtain ⟨rfl, N11q, E11⟩ := hQ11
  have N11 := Fr.app N9 N11q
  obtain ⟨_, T18, Lc18, X18, hQ18, st18⟩ := own_cS X11 hx hZ hown E11 (rm2_4 l Z a0 hw [] x6 x7 x8 x9 x10 x11 h0 n0 O0 f13 hc14 hc15 hc16 hc17) (w 5 rfl) (w 6 rfl) (w 3 rfl) (w 7 rfl) (by decide) (W := 0) (by decide) (by decide) (by decide) (by decide) (g := (mkF m 53 #[lI x0, lI x1, lI x2, lI x3, lI x4, lI x5, lV vI3, lI x6, lI x7, lI x8, lI x9, lI x10, lU, lU, lU, lU] [(.int x10), (.int x9), (.int x8), (.int x7), (.int x6), vI3])) rfl (by rw [hml]; rfl) (argsL := [vI3, (.int x6), (.int x7), (.int x8), (.int x9), (.int x10)]) (rest := []) (lenOf pd__ICCCCC_Ljava_lang_String_ rfl) rfl (own_W rfl) (hb hby at_53)
  obtain ⟨b18_0, b18_1, k18_0, rfl, N18q, K18, f19, f20, f21, f22, f23, f24, f25, f26⟩ := hQ18
  have N18 := Fr.app N11 N18q
  have R27 := CHr.trans R0 (CHr.keep K18 sf0 R0.1)
  have sf28 : Safe Z consts_1 s.vm h0 b18_0 := Safe.new f19
  have sf29 : Safe Z consts_1 s.vm h0 b18_1 := Safe.new f23
  have dm30 : ∀ t, Steps p.tables e below (T18.setTop (mkF m 76 #[lI x0, lI x1, lI x2, lI x3, lI x4, lI x5, lV vI3, lI x6, lI x7, lI x8, lI x9, lI x10, lR b18_0, .val (.int (if x6 = (47 : Int32) then (0 : Int32) else (-1 : Int32))), lU, lU] [])) t → Steps p.tables e below (T18.setTop (mkF m 70 #[lI x0, lI x1, lI x2, lI x3, lI x4, lI x5, lV vI3, lI x6, lI x7, lI x8, lI x9, lI x10, lR b18_0, .val (.int (-1 : Int32)), lU, lU] [vI47, (.int x6)])) t := by
    intro t kk
    by_cases hd : x6 = (47 : Int32)
    · show SG p e below T18 (mkF m 70 #[lI x0, lI x1, lI x2, lI x3, lI x4, lI x5, lV vI3, lI x6, lI x7, lI x8, lI x9, lI x10, lR b18_0, .val (.int (-1 : Int32)), lU, lU] [vI47, (.int x6)]) _
      refine XS.icmpNo X18.here hx rfl (hb hby at_70) rfl (teq hd).2 ?_
      refine qc X18 hx hby at_73 ?_
      refine XS.istore X18.here hx rfl (hb hby at_74) rfl (l' := #[lI x0, lI x1, lI x2, lI x3, lI x4, lI x5, lV vI3, lI x6, lI x7, lI x8, lI x9, lI x10, lR b18_0, lV vI0, lU, lU]) rfl ?_
      simp only [if_pos hd] at kk
      exact kk
    · show SG p e below T18 (mkF m 70 #[lI x0, lI x1, lI x2, lI x3, lI x4, lI x5, lV vI3, lI x6, lI x7, lI x8, lI x9, lI x10, lR b18_0, .val (.int (-1 : Int32)), lU, lU] [vI47, (.int x6)]) _
      refine XS.icmpYes X18.here hx rfl (pc0 := 70) (pc' := 76) rfl (hb hby at_70) rfl (feq hd).2 (by decide) (by decide) ?_
      simp only [if_neg hd] at kk
      exact kk
  have dm32 : ∀ t, Steps p.tables e below (T18.setTop (mkF m 92 #[lI x0, lI x1, lI x2, lI x3, lI x4, lI x5, lV vI3, lI x6, lI x7, lI x8, lI x9, lI x10, lR b18_0, .val (.int (if x7 = (47 : Int32) then (1 : Int32) else x12)), lU, lU] [])) t → Steps p.tables e below (T18.setTop (mkF m 86 #[lI x0, lI x1, lI x2, lI x3, lI x4, lI x5, lV vI3, lI x6, lI x7, lI x8, lI x9, lI x10, lR b18_0, lI x12, lU, lU] [vI47, (.int x7)])) t := by
    intro t kk
    by_cases hd : x7 = (47 : Int32)
    · show SG p e below T18 (mkF m 86 #[lI x0, lI x1, lI x2, lI x3, lI x4, lI x5, lV vI3, lI x6, lI x7, lI x8, lI x9, lI x10, lR b18_0, lI x12, lU, lU] [vI47, (.int x7)]) _
      refine XS.icmpNo X18.here hx rfl (hb hby at_86) rfl (teq hd).2 ?_
      refine qc X18 hx hby at_89 ?_
      refine XS.istore X18.here hx rfl (hb hby at_90) rfl (l' := #[lI x0, lI x1, lI x2, lI x3, lI x4, lI x5, lV vI3, lI x6, lI x7, lI x8, lI x9, lI x10, lR b18_0, lV vI1, lU, lU]) rfl ?_
      simp only [if_pos hd] at kk
      exact kk
    · show SG p e below T18 (mkF m 86 #[lI x0, lI x1, lI x2, lI x3, lI x4, lI x5, lV vI3, lI x6, lI x7, lI x8, lI x9, lI x10, lR b18_0, lI x12, lU, lU] [vI47, (.int x7)]) _
      refine XS.icmpYes X18.here hx rfl (pc0 := 86) (pc' := 92) rfl (hb hby at_86) rfl (feq hd).2 (by decide) (by decide) ?_
      simp only [if_neg hd] at kk
      exact kk
  have dm34 : ∀ t, Steps p.tables e below (T18.setTop (mkF m 108 #[lI x0, lI x1, lI x2, lI x3, lI x4, lI x5, lV vI3, lI x6, lI x7, lI x8, lI x9, lI x10, lR b18_0, .val (.int (if x8 = (47 : Int32) then (2 : Int32) else x13)), lU, lU] [])) t → Steps p.tables e below (T18.setTop (mkF m 102 #[lI x0, lI x1, lI x2, lI x3, lI x4, lI x5, lV vI3, lI x6, lI x7, lI x8, lI x9, lI x10, lR b18_0, lI x13, lU, lU] [vI47, (.int x8)])) t := by
    intro t kk
    by_cases hd : x8 = (47 : Int32)
    · show SG p e below T18 (mkF m 102 #[lI x0, lI x1, lI x2, lI x3, lI x4, lI x5, lV vI3, lI x6, lI x7, lI x8, lI x9, lI x10, lR b18_0, lI x13, lU, lU] [vI47, (.int x8)]) _
      refine XS.icmpNo X18.here hx rfl (hb hby at_102) rfl (teq hd).2 ?_
      refine qc X18 hx hby at_105 ?_
      refine XS.istore X18.here hx rfl (hb hby at_106) rfl (l' := #[lI x0, lI x1, lI x2, lI x3, lI x4, lI x5, lV vI3, lI x6, lI x7, lI x8, lI x9, lI x10, lR b18_0, lV vI2, lU, lU]) rfl ?_
      simp only [if_pos hd] at kk
      exact kk
    · show SG p e below T18 (mkF m 102 #[lI x0, lI x1, lI x2, lI x3, lI x4, lI x5, lV vI3, lI x6, lI x7, lI x8, lI x9, lI x10, lR b18_0, lI x13, lU, lU] [vI47, (.int x8)]) _
      refine XS.icmpYes X18.here hx rfl (pc0 := 102) (pc' := 108) rfl (hb hby at_102) rfl (feq hd).2 (by decide) (by decide) ?_
      simp only [if_neg hd] at kk
      exact kk
  have o40 := Old.keep O0 K18 all0
  obtain ⟨_, T41, Lc41, X41, hQ41, st41⟩ := own_cS X18 hx hZ hown rfl (rm6_5 l Z a0 hw [] b18_0 b18_1 (3 : Int32) k18_0 ([(.int ((nar .char x6).toInt8.toInt32)), (.int ((nar .char x7).toInt8.toInt32)), (.int ((nar .char x8).toInt8.toInt32))]) x11 (0 : Int32) 1 (1 : Int32) ((nar .char x7).toInt8.toInt32) u15 T18.heap n0 o40 f20 f22 f24 f13 hc14 f21 (by decide) (by decide) (by decide) (fun j hj => match j, hj with | 0, _ => ⟨by decide, rfl, by decide, by decide, by decide, by decide, own_atN (n := 2) (by decide) rfl hc36⟩ | z + 1, hz => absurd hz (by omega)) (by decide) (own_gd (n := 1) rfl rfl) (by decide) hc37 (by decide) f38 hc39 (by decide) (by decide) (by decide) (by decide) (by decide) (by decide) (by decide) (by decide) (by decide)) (w 30 rfl) (w 31 rfl) (w 32 rfl) (w 33 rfl) (by decide) (W := 0) (by decide) (by decide) (by decide) (by decide) (g := (mkF m 142 #[lI x0, lI x1, lI x2, lI x3, lI x4, lI x5, lV vI3, lI x6, lI x7, lI x8, lI x9, lI x10, lR b18_0, lI x14, lU, lU] [(.ref b18_0)])) rfl (by rw [hml]; rfl) (argsL := [(.ref b18_0)]) (rest := []) (lenOf pd__Ljava_lang_String__Ljava_lang_String_ rfl) rfl (own_W rfl) (hb hby at_142)
  obtain ⟨b41_0, b41_1, k41_0, rfl, N41q, K41, f42, f43, f44, f45, f46, f47, f48, f49⟩ := hQ41
  have N41 := Fr.app N18 N41q
  have R50 := CHr.trans R27 (CHr.keep K41 sf0 R27.1)
  have sf51 : Safe Z consts_1 s.vm T18.heap b41_0 := Safe.new f42
  have sf52 : Safe Z consts_1 s.vm T18.heap b41_1 := Safe.new f46
  have o54 := Old.keep o40 K41 all0
  obtain ⟨_, T55, Lc55, X55, hQ55, st55⟩ := own_cS X41 hx hZ hown rfl (rm2_2 l Z a0 hw [] x6 x7 x8 x9 x10 x11 T41.heap n0 o54 f13 hc14 hc15) (w 5 rfl) (w 6 rfl) (w 3 rfl) (w 7 rfl) (by decide) (W := 0) (by decide) (by decide) (by decide) (by decide) (g := (mkF m 175 #[lI x0, lI x1, lI x2, lI x3, lI x4, lI x5, lV vI3, lI x6, lI x7, lI x8, lI x9, lI x10, lR b18_0, lV vI1, lR b41_0, lU] [(.int x10), (.int x9), (.int x8), (.int x7), (.int x6), vI1])) rfl (by rw [hml]; rfl) (argsL := [vI1, (.int x6), (.int x7), (.int x8), (.int x9), (.int x10)]) (rest := []) (lenOf pd__ICCCCC_Ljava_lang_String_ rfl) rfl (own_W rfl) (hb hby at_175)
  obtain ⟨b55_0, b55_1, k55_0, rfl, N55q, K55, f56, f57, f58, f59, f60, f61, f62, f63⟩ := hQ55
  have N55 := Fr.app N41 N55q
  have R64 := CHr.trans R50 (CHr.keep K55 sf0 R50.1)
  have sf65 : Safe Z consts_1 s.vm T41.heap b55_0 := Safe.new f56
  have sf66 : Safe Z consts_1 s.vm T41.heap b55_1 := Safe.new f60
  have f67 := (f45.keep K55 nin0)
  have f68 := (f44.keep K55 nin0)
  have f69 := (f47.keep K55 nin0)
  have f70 := (f43.keep K55)
  have o71 := Old.keep o54 K55 all0
  have f72 := f13.ext o71.2
  obtain ⟨cqq74, kqq74, qq74a, qq74b, qq74c⟩ := isOf hZ rfl f70
  obtain ⟨_, T73, Lc73, X73, hQ73, st73⟩ := own_fin (X55.virtualBack hx (y := mN21) (z := mN21) hown (mvT hZ (w 116 rfl)) (mvT hZ (w 117 rfl)) (notFace_of_selects (args := #[]) (mvT hZ (w 119 rfl))) (mvT hZ (w 119 rfl)) (mvT hZ (w 118 rfl)) (by decide) (own_strEq hZ hw (w 9 rfl) (bs := [((nar .char x6).toInt8.toInt32)]) f70 f68 f67 (own_trunc (ws := [(.int ((nar .char x6).toInt8.toInt32))]) (rest := [(.int ((nar .char x7).toInt8.toInt32)), (.int ((nar .char x8).toInt8.toInt32))]) (own_lenK (n := 1) rfl (by decide)) f69) (own_ofLen (n := 1) (by decide) rfl) (Nat.le_of_ble_eq_true rfl) (ds := [((nar .char x6).toInt8.toInt32)]) f57 f59 f58 f61 (own_ofLen (n := 1) (by decide) rfl) (Nat.le_of_ble_eq_true rfl) f72 hc14 (r := 1) (n0 := n0) (Or.inl ⟨rfl, rfl⟩) (by decide) (by decide : 0 + 28 ≤ _)) qq74a qq74c (g := (mkF m 189 #[lI x0, lI x1, lI x2, lI x3, lI x4, lI x5, lV vI3, lI x6, lI x7, lI x8, lI x9, lI x10, lR b18_0, lV vI1, lR b41_0, lR b55_0] [(.ref b55_0), (.ref b41_0)])) rfl (by rw [hml]; rfl) (Steps.refl _) (argsL := [(.ref b55_0)]) (rest := []) (lenOf pd__Ljava_lang_Object__Z rfl) rfl (own_W rfl) (hb hby at_189) (fun _ _ => ⟨rfl, rfl, (by decide : 8 + 0 ≤ _), (by decide : 28 + 0 ≤ _)⟩))
  obtain ⟨rfl, N73q, E73⟩ := hQ73
  have N73 := Fr.app N55 N73q
  refine ⟨some vI1, _, _, _, _, _, _, _, nofun, X73, by decide, by decide, hS1, (by rw [E73]; exact (Nat.zero_le _)), hZ, E73, R64, ?_, fun fs hr => ?_⟩
  · rw [E73]; exact ⟨rfl, N73⟩
  · show SG p e below s₁ (mkF m 0 #[lI x0, lI x1, lI x2, lI x3, lI x4, lI x5, lU, lU, lU, lU, lU, lU, lU, lU, lU, lU] []) _
    refine qiN X0 hx hby at_0 ?_
    refine X0.ldcInt hx hown (mvT hZ (w 0 rfl)) (g := (mkF m 1 #[lI x0, lI x1, lI x2, lI x3, lI x4, lI x5, lU, lU, lU, lU, lU, lU, lU, lU, lU, lU] [(.int x0)])) rfl (hb hby at_1) _ ?_
    show SG p e below s₁ (mkF m 3 #[lI x0, lI x1, lI x2, lI x3, lI x4, lI x5, lU, lU, lU, lU, lU, lU, lU, lU, lU, lU] [vI2147483647, (.int x0)]) _
    refine XS.iand X0.here hx rfl (hb hby at_3) rfl ?_
    refine qb X0 hx hby at_4 ?_
    refine iremM (g := (mkF m 6 #[lI x0, lI x1, lI x2, lI x3, lI x4, lI x5, lU, lU, lU, lU, lU, lU, lU, lU, lU, lU] [vI6, (.int (x0 &&& (2147483647 : Int32)))])) X0 hx rfl (hb hby at_6) rfl (by decide : ¬ ((6 : Int32) = (0 : Int32))) ?_
    show SG p e below s₁ (mkF m 7 #[lI x0, lI x1, lI x2, lI x3, lI x4, lI x5, lU, lU, lU, lU, lU, lU, lU, lU, lU, lU] [(.int ((x0 &&& (2147483647 : Int32)) % (6 : Int32)))]) _
    rw [hc2]
    show SG p e below s₁ (mkF m 7 #[lI x0, lI x1, lI x2, lI x3, lI x4, lI x5, lU, lU, lU, lU, lU, lU, lU, lU, lU, lU] [vI3]) _
    refine XS.istore X0.here hx rfl (hb hby at_7) rfl (l' := #[lI x0, lI x1, lI x2, lI x3, lI x4, lI x5, lV vI3, lU, lU, lU, lU, lU, lU, lU, lU, lU]) rfl ?_
    refine qiN X0 hx hby at_9 ?_
    refine st3 _ ?_
    show SG p e below T3 (mkF m 13 #[lI x0, lI x1, lI x2, lI x3, lI x4, lI x5, lV vI3, lU, lU, lU, lU, lU, lU, lU, lU, lU] [(.int (nar .char (if (x1 &&& (1 : Int32)) = (0 : Int32) then ((((x1.toUInt32 >>> ((1 : Int32) &&& 31).toUInt32).toInt32) &&& (255 : Int32)).toUInt32.toUInt16.toUInt32.toInt32) else (47 : Int32))))]) _
    rw [hq4]
    show SG p e below T3 (mkF m 13 #[lI x0, lI x1, lI x2, lI x3, lI x4, lI x5, lV vI3, lU, lU, lU, lU, lU, lU, lU, lU, lU] [(.int x6)]) _
    refine XS.istore X3.here hx rfl (hb hby at_13) rfl (l' := #[lI x0, lI x1, lI x2, lI x3, lI x4, lI x5, lV vI3, lI x6, lU, lU, lU, lU, lU, lU, lU, lU]) rfl ?_
    refine qiN X3 hx hby at_15 ?_
    refine st5 _ ?_
    show SG p e below T5 (mkF m 19 #[lI x0, lI x1, lI x2, lI x3, lI x4, lI x5, lV vI3, lI x6, lU, lU, lU, lU, lU, lU, lU, lU] [(.int (nar .char (if (x2 &&& (1 : Int32)) = (0 : Int32) then ((((x2.toUInt32 >>> ((1 : Int32) &&& 31).toUInt32).toInt32) &&& (255 : Int32)).toUInt32.toUInt16.toUInt32.toInt32) else (47 : Int32))))]) _
    rw [hq6]
    show SG p e below T5 (mkF m 19 #[lI x0, lI x1, lI x2, lI x3, lI x4, lI x5, lV vI3, lI x6, lU, lU, lU, lU, lU, lU, lU, lU] [(.int x7)]) _
    refine XS.istore X5.here hx rfl (hb hby at_19) rfl (l' := #[lI x0, lI x1, lI x2, lI x3, lI x4, lI x5, lV vI3, lI x6, lI x7, lU, lU, lU, lU, lU, lU, lU]) rfl ?_
    refine qiN X5 hx hby at_21 ?_
    refine st7 _ ?_
    show SG p e below T7 (mkF m 25 #[lI x0, lI x1, lI x2, lI x3, lI x4, lI x5, lV vI3, lI x6, lI x7, lU, lU, lU, lU, lU, lU, lU] [(.int (nar .char (if (x3 &&& (1 : Int32)) = (0 : Int32) then ((((x3.toUInt32 >>> ((1 : Int32) &&& 31).toUInt32).toInt32) &&& (255 : Int32)).toUInt32.toUInt16.toUInt32.toInt32) else (47 : Int32))))]) _
    rw [hq8]
    show SG p e below T7 (mkF m 25 #[lI x0, lI x1, lI x2, lI x3, lI x4, lI x5, lV vI3, lI x6, lI x7, lU, lU, lU, lU, lU, lU, lU] [(.int x8)]) _
    refine XS.istore X7.here hx rfl (hb hby at_25) rfl (l' := #[lI x0, lI x1, lI x2, lI x3, lI x4, lI x5, lV vI3, lI x6, lI x7, lI x8, lU, lU, lU, lU, lU, lU]) rfl ?_
    refine qi X7 hx hby at_27 ?_
    refine st9 _ ?_
    show SG p e below T9 (mkF m 32 #[lI x0, lI x1, lI x2, lI x3, lI x4, lI x5, lV vI3, lI x6, lI x7, lI x8, lU, lU, lU, lU, lU, lU] [(.int (nar .char (if (x4 &&& (1 : Int32)) = (0 : Int32) then ((((x4.toUInt32 >>> ((1 : Int32) &&& 31).toUInt32).toInt32) &&& (255 : Int32)).toUInt32.toUInt16.toUInt32.toInt32) else (47 : Int32))))]) _
    rw [hq10]
    show SG p e below T9 (mkF m 32 #[lI x0, lI x1, lI x2, lI x3, lI x4, lI x5, lV vI3, lI x6, lI x7, lI x8, lU, lU, lU, lU, lU, lU] [(.int x9)]) _
    refine XS.istore X9.here hx rfl (hb hby at_32) rfl (l' := #[lI x0, lI x1, lI x2, lI x3, lI x4, lI x5, lV vI3, lI x6, lI x7, lI x8, lI x9, lU, lU, lU, lU, lU]) rfl ?_
    refine qi X9 hx hby at_34 ?_
    refine st11 _ ?_
    show SG p e below T11 (mkF m 39 #[lI x0, lI x1, lI x2, lI x3, lI x4, lI x5, lV vI3, lI x6, lI x7, lI x8, lI x9, lU, lU, lU, lU, lU] [(.int (nar .char (if (x5 &&& (1 : Int32)) = (0 : Int32) then ((((x5.toUInt32 >>> ((1 : Int32) &&& 31).toUInt32).toInt32) &&& (255 : Int32)).toUInt32.toUInt16.toUInt32.toInt32) else (47 : Int32))))]) _
    rw [hq12]
    show SG p e below T11 (mkF m 39 #[lI x0, lI x1, lI x2, lI x3, lI x4, lI x5, lV vI3, lI x6, lI x7, lI x8, lI x9, lU, lU, lU, lU, lU] [(.int x10)]) _
    refine XS.istore X11.here hx rfl (hb hby at_39) rfl (l' := #[lI x0, lI x1, lI x2, lI x3, lI x4, lI x5, lV vI3, lI x6, lI x7, lI x8, lI x9, lI x10, lU, lU, lU, lU]) rfl ?_
    refine qi X11 hx hby at_41 ?_
    refine qi X11 hx hby at_43 ?_
    refine qi X11 hx hby at_45 ?_
    refine qi X11 hx hby at_47 ?_
    refine qi X11 hx hby at_49 ?_
    refine qi X11 hx hby at_51 ?_
    refine st18 _ ?_
    show SG p e below T18 (mkF m 56 #[lI x0, lI x1, lI x2, lI x3, lI x4, lI x5, lV vI3, lI x6, lI x7, lI x8, lI x9, lI x10, lU, lU, lU, lU] [(.ref b18_0)]) _
    refine XS.astore X18.here hx rfl (hb hby at_56) rfl rfl (l' := #[lI x0, lI x1, lI x2, lI x3, lI x4, lI x5, lV vI3, lI x6, lI x7, lI x8, lI x9, lI x10, lR b18_0, lU, lU, lU]) rfl ?_
    refine qc X18 hx hby at_58 ?_
    refine XS.istore X18.here hx rfl (hb hby at_59) rfl (l' := #[lI x0, lI x1, lI x2, lI x3, lI x4, lI x5, lV vI3, lI x6, lI x7, lI x8, lI x9, lI x10, lR b18_0, .val (.int (-1 : Int32)), lU, lU]) rfl ?_
    refine qi X18 hx hby at_61 ?_
    refine XS.ifNo X18.here hx rfl (hb hby at_63) rfl ((if0 _ _).trans (tlt (by decide : (0 : Int32) < (3 : Int32))).2.2.2) ?_
    refine qi X18 hx hby at_66 ?_
    refine qb X18 hx hby at_68 ?_
    show SG p e below T18 (mkF m 70 #[lI x0, lI x1, lI x2, lI x3, lI x4, lI x5, lV vI3, lI x6, lI x7, lI x8, lI x9, lI x10, lR b18_0, .val (.int (-1 : Int32)), lU, lU] [vI47, (.int x6)]) _
    refine dm30 _ ?_
    show SG p e below T18 (mkF m 76 #[lI x0, lI x1, lI x2, lI x3, lI x4, lI x5, lV vI3, lI x6, lI x7, lI x8, lI x9, lI x10, lR b18_0, .val (.int (if x6 = (47 : Int32) then (0 : Int32) else (-1 : Int32))), lU, lU] []) _
    rw [hq31]
    show SG p e below T18 (mkF m 76 #[lI x0, lI x1, lI x2, lI x3, lI x4, lI x5, lV vI3, lI x6, lI x7, lI x8, lI x9, lI x10, lR b18_0, lI x12, lU, lU] []) _
    refine qi X18 hx hby at_76 ?_
    refine qc X18 hx hby at_78 ?_
    refine XS.icmpNo X18.here hx rfl (hb hby at_79) rfl (tlt (by decide : (1 : Int32) < (3 : Int32))).2.2.2 ?_
    refine qi X18 hx hby at_82 ?_
    refine qb X18 hx hby at_84 ?_
    show SG p e below T18 (mkF m 86 #[lI x0, lI x1, lI x2, lI x3, lI x4, lI x5, lV vI3, lI x6, lI x7, lI x8, lI x9, lI x10, lR b18_0, lI x12, lU, lU] [vI47, (.int x7)]) _
    refine dm32 _ ?_
    show SG p e below T18 (mkF m 92 #[lI x0, lI x1, lI x2, lI x3, lI x4, lI x5, lV vI3, lI x6, lI x7, lI x8, lI x9, lI x10, lR b18_0, .val (.int (if x7 = (47 : Int32) then (1 : Int32) else x12)), lU, lU] []) _
    rw [hq33]
    show SG p e below T18 (mkF m 92 #[lI x0, lI x1, lI x2, lI x3, lI x4, lI x5, lV vI3, lI x6, lI x7, lI x8, lI x9, lI x10, lR b18_0, lI x13, lU, lU] []) _
    refine qi X18 hx hby at_92 ?_
    refine qc X18 hx hby at_94 ?_
    refine XS.icmpNo X18.here hx rfl (hb hby at_95) rfl (tlt (by decide : (2 : Int32) < (3 : Int32))).2.2.2 ?_
    refine qi X18 hx hby at_98 ?_
    refine qb X18 hx hby at_100 ?_
    show SG p e below T18 (mkF m 102 #[lI x0, lI x1, lI x2, lI x3, lI x4, lI x5, lV vI3, lI x6, lI x7, lI x8, lI x9, lI x10, lR b18_0, lI x13, lU, lU] [vI47, (.int x8)]) _
    refine dm34 _ ?_
    show SG p e below T18 (mkF m 108 #[lI x0, lI x1, lI x2, lI x3, lI x4, lI x5, lV vI3, lI x6, lI x7, lI x8, lI x9, lI x10, lR b18_0, .val (.int (if x8 = (47 : Int32) then (2 : Int32) else x13)), lU, lU] []) _
    rw [hq35]
    show SG p e below T18 (mkF m 108 #[lI x0, lI x1, lI x2, lI x3, lI x4, lI x5, lV vI3, lI x6, lI x7, lI x8, lI x9, lI x10, lR b18_0, lI x14, lU, lU] []) _
    refine qi X18 hx hby at_108 ?_
    refine qc X18 hx hby at_110 ?_
    refine XS.icmpYes X18.here hx rfl (pc0 := 111) (pc' := 124) rfl (hb hby at_111) rfl (flt (by decide : ¬ ((3 : Int32) < (3 : Int32)))).2.2.2 (by decide) (by decide) ?_
    show SG p e below T18 (mkF m 124 #[lI x0, lI x1, lI x2, lI x3, lI x4, lI x5, lV vI3, lI x6, lI x7, lI x8, lI x9, lI x10, lR b18_0, lI x14, lU, lU] []) _
    refine qi X18 hx hby at_124 ?_
    refine qc X18 hx hby at_126 ?_
    refine XS.icmpYes X18.here hx rfl (pc0 := 127) (pc' := 140) rfl (hb hby at_127) rfl (flt (by decide : ¬ ((4 : Int32) < (3 : Int32)))).2.2.2 (by decide) (by decide) ?_
    show SG p e below T18 (mkF m 140 #[lI x0, lI x1, lI x2, lI x3, lI x4, lI x5, lV vI3, lI x6, lI x7, lI x8, lI x9, lI x10, lR b18_0, lI x14, lU, lU] []) _
    refine qa X18 hx hby at_140 ?_
    refine st41 _ ?_
    show SG p e below T41 (mkF m 145 #[lI x0, lI x1, lI x2, lI x3, lI x4, lI x5, lV vI3, lI x6, lI x7, lI x8, lI x9, lI x10, lR b18_0, lI x14, lU, lU] [(.ref b41_0)]) _
    refine XS.astore X41.here hx rfl (hb hby at_145) rfl rfl (l' := #[lI x0, lI x1, lI x2, lI x3, lI x4, lI x5, lV vI3, lI x6, lI x7, lI x8, lI x9, lI x10, lR b18_0, lI x14, lR b41_0, lU]) rfl ?_
    refine qi X41 hx hby at_147 ?_
    show SG p e below T41 (mkF m 149 #[lI x0, lI x1, lI x2, lI x3, lI x4, lI x5, lV vI3, lI x6, lI x7, lI x8, lI x9, lI x10, lR b18_0, lI x14, lR b41_0, lU] [(.int x14)]) _
    rw [hc53]
    show SG p e below T41 (mkF m 149 #[lI x0, lI x1, lI x2, lI x3, lI x4, lI x5, lV vI3, lI x6, lI x7, lI x8, lI x9, lI x10, lR b18_0, lV vI1, lR b41_0, lU] [vI1]) _
    refine XS.ifYes X41.here hx rfl (pc0 := 149) (pc' := 163) rfl (hb hby at_149) rfl ((if0 _ _).trans (tlt (by decide : (0 : Int32) < (1 : Int32))).2.2.1) (by decide) (by decide) ?_
    show SG p e below T41 (mkF m 163 #[lI x0, lI x1, lI x2, lI x3, lI x4, lI x5, lV vI3, lI x6, lI x7, lI x8, lI x9, lI x10, lR b18_0, lV vI1, lR b41_0, lU] []) _
    refine qi X41 hx hby at_163 ?_
    refine qi X41 hx hby at_165 ?_
    refine qi X41 hx hby at_167 ?_
    refine qi X41 hx hby at_169 ?_
    refine qi X41 hx hby at_171 ?_
    refine qi X41 hx hby at_173 ?_
    refine st55 _ ?_
    show SG p e below T55 (mkF m 178 #[lI x0, lI x1, lI x2, lI x3, lI x4, lI x5, lV vI3, lI x6, lI x7, lI x8, lI x9, lI x10, lR b18_0, lV vI1, lR b41_0, lU] [(.ref b55_0)]) _
    refine XS.astore X55.here hx rfl (hb hby at_178) rfl rfl (l' := #[lI x0, lI x1, lI x2, lI x3, lI x4, lI x5, lV vI3, lI x6, lI x7, lI x8, lI x9, lI x10, lR b18_0, lV vI1, lR b41_0, lR b55_0]) rfl ?_
    refine qa X55 hx hby at_180 ?_
    refine XS.ifnullNo X55.here hx rfl (hb hby at_182) rfl ?_
    refine qa X55 hx hby at_185 ?_
    refine qa X55 hx hby at_187 ?_
    refine st73.trans ?_
    show SG p e below T73 (mkF m 192 #[lI x0, lI x1, lI x2, lI x3, lI x4, lI x5, lV vI3, lI x6, lI x7, lI x8, lI x9, lI x10, lR b18_0, lV vI1, lR b41_0, lR b55_0] [vI1]) _
    refine XS.ifNo X73.here hx rfl (hb hby at_192) rfl ((if0 _ _).trans (feq (by decide : ¬ ((1 : Int32) = (0 : Int32)))).1) ?_
    refine qc X73 hx hby at_195 ?_
    refine XS.goto X73.here hx rfl (pc0 := 196) (pc' := 200) rfl (hb hby at_196) (by decide) (by decide) ?_
    show SG p e below T73 (mkF m 200 #[lI x0, lI x1, lI x2, lI x3, lI x4, lI x5, lV vI3, lI x6, lI x7, lI x8, lI x9, lI x10, lR b18_0, lV vI1, lR b41_0, lR b55_0] [vI1]) _
    exact retN X73 hx (t := .boolean) hret (by simp) (hb hby at_200) hr
def Q0_7 (Z : State) (x0 x1 : Int32) (x2 x3 : Int32) (x4 x5 : Int32) (x6 x7 : Int32) (x8 x9 : Int32) (x10 x11 : Int32) (x12 x13 x14 : Int32) (u15 : Value) (h0 : Heap) (n0 : Nat) (v : Option Value) (h : Heap) (L : List Loc) : Prop := v = some vI1 ∧ Fr n0 L
theorem rm0_7 (l : Launch) (Z : State) (a0 : Array Value) (hw : own_HW a0 Z) (ws : List Jvm.Cond) (x0 x1 : Int32) (x2 x3 : Int32) (x4 x5 : Int32) (x6 x7 : Int32) (x8 x9 : Int32) (x10 x11 : Int32) (x12 x13 x14 : Int32) (u15 : Value) (h0 : Heap) (n0 : Nat) (O0 : Old Z n0 h0) (hc2 : ((x0 &&& (2147483647 : Int32)) % (6 : Int32)) = (3 : Int32)) (hq4 : (nar .char (if (x1 &&& (1 : Int32)) = (0 : Int32) then ((((x1.toUInt32 >>> ((1 : Int32) &&& 31).toUInt32).toInt32) &&& (255 : Int32)).toUInt32.toUInt16.toUInt32.toInt32) else (47 : Int32))) = x6) (hq6 : (nar .char (if (x2 &&& (1 : Int32)) = (0 : Int32) then ((((x2.toUInt32 >>> ((1 : Int32) &&& 31).toUInt32).toInt32) &&& (255 : Int32)).toUInt32.toUInt16.toUInt32.toInt32) else (47 : Int32))) = x7) (hq8 : (nar .char (if (x3 &&& (1 : Int32)) = (0 : Int32) then ((((x3.toUInt32 >>> ((1 : Int32) &&& 31).toUInt32).toInt32) &&& (255 : Int32)).toUInt32.toUInt16.toUInt32.toInt32) else (47 : Int32))) = x8) (hq10 : (nar .char (if (x4 &&& (1 : Int32)) = (0 : Int32) then ((((x4.toUInt32 >>> ((1 : Int32) &&& 31).toUInt32).toInt32) &&& (255 : Int32)).toUInt32.toUInt16.toUInt32.toInt32) else (47 : Int32))) = x9) (hq12 : (nar .char (if (x5 &&& (1 : Int32)) = (0 : Int32) then ((((x5.toUInt32 >>> ((1 : Int32) &&& 31).toUInt32).toInt32) &&& (255 : Int32)).toUInt32.toUInt16.toUInt32.toInt32) else (47 : Int32))) = x10) (f13 : Sta Z Z.heap "java/lang/String" "COMPACT_STRINGS" "Z" (.int x11)) (hc14 : ¬ (x11 = (0 : Int32))) (hc15 : ¬ ((255 : Int32) < (nar .char x6))) (hc16 : ¬ ((255 : Int32) < (nar .char x7))) (hc17 : ¬ ((255 : Int32) < (nar .char x8))) (hq31 : (if x6 = (47 : Int32) then (0 : Int32) else (-1 : Int32)) = x12) (hq33 : (if x7 = (47 : Int32) then (1 : Int32) else x12) = x13) (hq35 : (if x8 = (47 : Int32) then (2 : Int32) else x13) = x14) (hc36 : ((nar .char x8).toInt8.toInt32) = (47 : Int32)) (f37 : Sta Z Z.heap cs4 "SIOOBE_FORMATTER" cs5 u15) (hc38 : u15.isRef = true) (hc52 : x14 = (2 : Int32)) :
    own_MH l x code maxLocals ret ws room_1 Z h0 #[(.int x0), (.int x1), (.int x2), (.int x3), (.int x4), (.int x5)] (Q0_7 Z x0 x1 x2 x3 x4 x5 x6 x7 x8 x9 x10 x11 x12 x13 x14 u15 h0 n0) := by
  have hEL : EW Z a0 consts_1 := own_EW hw
  refine own_openH hEL (plainFor_of_name pn_com_example_nearmiss_nearmiss_ElementParentPathPinLaw) (L0 := #[lI x0, lI x1, lI x2, lI x3, lI x4, lI x5, lU, lU, lU, lU, lU, lU, lU, lU, lU, lU]) (fun _ => by first | (simp [entryFrame, mkF, argsToLocals, Value.category, maxLocals]; done) | rfl) ?_
  intro p e s m below meth c s₁ hx hby hml hret hnn hZ hown X0 e0 R0
  have N0 := Fr.nil n0; have w := @ww Z a0 hw
  have hS1 := (State.WarmedH.refl s).since 0
  obtain ⟨_, T3, Lc3, X3, hQ3, st3⟩ := own_cS X0 hx hZ hown e0 (rm1_1 l Z a0 hw [] x1 h0 n0 O0) (w 1 rfl) (w 2 rfl) (w 3 rfl) (w 4 rfl) (by decide) (W := 0) (by decide) (by decide) (by decide) (by decide) (g := (mkF m 10 #[lI x0, lI x1, lI x2, lI x3, lI x4, lI x5, lV vI3, lU, lU, lU, lU, lU, lU, lU, lU, lU] [(.int x1)])) rfl (by rw [hml]; rfl) (argsL := [(.int x1)]) (rest := []) (lenOf pd__I_C rfl) rfl (own_W rfl) (hb hby at_10)
  obtain ⟨rfl, N3q, E3⟩ := hQ3
  have N3 := Fr.app N0 N3q
  obtain ⟨_, T5, Lc5, X5, hQ5, st5⟩ := own_cS X3 hx hZ hown E3 (rm1_1 l Z a0 hw [] x2 h0 n0 O0) (w 1 rfl) (w 2 rfl) (w 3 rfl) (w 4 rfl) (by decide) (W := 0) (by decide) (by decide) (by decide) (by decide) (g := (mkF m 16 #[lI x0, lI x1, lI x2, lI x3, lI x4, lI x5, lV vI3, lI x6, lU, lU, lU, lU, lU, lU, lU, lU] [(.int x2)])) rfl (by rw [hml]; rfl) (argsL := [(.int x2)]) (rest := []) (lenOf pd__I_C rfl) rfl (own_W rfl) (hb hby at_16)
  obtain ⟨rfl, N5q, E5⟩ := hQ5
  have N5 := Fr.app N3 N5q
  obtain ⟨_, T7, Lc7, X7, hQ7, st7⟩ := own_cS X5 hx hZ hown E5 (rm1_1 l Z a0 hw [] x3 h0 n0 O0) (w 1 rfl) (w 2 rfl) (w 3 rfl) (w 4 rfl) (by decide) (W := 0) (by decide) (by decide) (by decide) (by decide) (g := (mkF m 22 #[lI x0, lI x1, lI x2, lI x3, lI x4, lI x5, lV vI3, lI x6, lI x7, lU, lU, lU, lU, lU, lU, lU] [(.int x3)])) rfl (by rw [hml]; rfl) (argsL := [(.int x3)]) (rest := []) (lenOf pd__I_C rfl) rfl (own_W rfl) (hb hby at_22)
  obtain ⟨rfl, N7q, E7⟩ := hQ7
  have N7 := Fr.app N5 N7q
  obtain ⟨_, T9, Lc9, X9, hQ9, st9⟩ := own_cS X7 hx hZ hown E7 (rm1_1 l Z a0 hw [] x4 h0 n0 O0) (w 1 rfl) (w 2 rfl) (w 3 rfl) (w 4 rfl) (by decide) (W := 0) (by decide) (by decide) (by decide) (by decide) (g := (mkF m 29 #[lI x0, lI x1, lI x2, lI x3, lI x4, lI x5, lV vI3, lI x6, lI x7, lI x8, lU, lU, lU, lU, lU, lU] [(.int x4)])) rfl (by rw [hml]; rfl) (argsL := [(.int x4)]) (rest := []) (lenOf pd__I_C rfl) rfl (own_W rfl) (hb hby at_29)
  obtain ⟨rfl, N9q, E9⟩ := hQ9
  have N9 := Fr.app N7 N9q
  obtain ⟨_, T11, Lc11, X11, hQ11, st11⟩ := own_cS X9 hx hZ hown E9 (rm1_1 l Z a0 hw [] x5 h0 n0 O0) (w 1 rfl) (w 2 rfl) (w 3 rfl) (w 4 rfl) (by decide) (W := 0) (by decide) (by decide) (by decide) (by decide) (g := (mkF m 36 #[lI x0, lI x1, lI x2, lI x3, lI x4, lI x5, lV vI3, lI x6, lI x7, lI x8, lI x9, lU, lU, lU, lU, lU] [(.int x5)])) rfl (by rw [hml]; rfl) (argsL := [(.int x5)]) (rest := []) (lenOf pd__I_C rfl) rfl (own_W rfl) (hb hby at_36)
  obtain ⟨rfl, N11q, E11⟩ := hQ11
  have N11 := Fr.app N9 N11q
  obtain ⟨_, T18, Lc18, X18, hQ18, st18⟩ := own_cS X11 hx hZ hown E11 (rm2_4 l Z a0 hw [] x6 x7 x8 x9 x10 x11 h0 n0 O0 f13 hc14 hc15 hc16 hc17) (w 5 rfl) (w 6 rfl) (w 3 rfl) (w 7 rfl) (by decide) (W := 0) (by decide) (by decide) (by decide) (by decide) (g := (mkF m 53 #[lI x0, lI x1, lI x2, lI x3, lI x4, lI x5, lV vI3, lI x6, lI x7, lI x8, lI x9, lI x10, lU, lU, lU, lU] [(.int x10), (.int x9), (.int x8), (.int x7), (.int x6), vI3])) rfl (by rw [hml]; rfl) (argsL := [vI3, (.int x6), (.int x7), (.int x8), (.int x9), (.int x10)]) (rest := []) (lenOf pd__ICCCCC_Ljava_lang_String_ rfl) rfl (own_W rfl) (hb hby at_53)
  obtain ⟨b18_0, b18_1, k18_0, rfl, N18q, K18, f19, f20, f21, f22, f23, f24, f25, f26⟩ := hQ18
  have N18 := Fr.app N11 N18q
  have R27 := CHr.trans R0 (CHr.keep K18 sf0 R0.1)
  have sf28 : Safe Z consts_1 s.vm h0 b18_0 := Safe.new f19
  have sf29 : Safe Z consts_1 s.vm h0 b18_1 := Safe.new f23
  have dm30 : ∀ t, Steps p.tables e below (T18.setTop (mkF m 76 #[lI x0, lI x1, lI x2, lI x3, lI x4, lI x5, lV vI3, lI x6, lI x7, lI x8, lI x9, lI x10, lR b18_0, .val (.int (if x6 = (47 : Int32) then (0 : Int32) else (-1 : Int32))), lU, lU] [])) t → Steps p.tables e below (T18.setTop (mkF m 70 #[lI x0, lI x1, lI x2, lI x3, lI x4, lI x5, lV vI3, lI x6, lI x7, lI x8, lI x9, lI x10, lR b18_0, .val (.int (-1 : Int32)), lU, lU] [vI47, (.int x6)])) t := by
    intro t kk
    by_cases hd : x6 = (47 : Int32)
    · show SG p e below T18 (mkF m 70 #[lI x0, lI x1, lI x2, lI x3, lI x4, lI x5, lV vI3, lI x6, lI x7, lI x8, lI x9, lI x10, lR b18_0, .val (.int (-1 : Int32)), lU, lU] [vI47, (.int x6)]) _
      refine XS.icmpNo X18.here hx rfl (hb hby at_70) rfl (teq hd).2 ?_
      refine qc X18 hx hby at_73 ?_
      refine XS.istore X18.here hx rfl (hb hby at_74) rfl (l' := #[lI x0, lI x1, lI x2, lI x3, lI x4, lI x5, lV vI3, lI x6, lI x7, lI x8, lI x9, lI x10, lR b18_0, lV vI0, lU, lU]) rfl ?_
      simp only [if_pos hd] at kk
      exact kk
    · show SG p e below T18 (mkF m 70 #[lI x0, lI x1, lI x2, lI x3, lI x4, lI x5, lV vI3, lI x6, lI x7, lI x8, lI x9, lI x10, lR b18_0, .val (.int (-1 : Int32)), lU, lU] [vI47, (.int x6)]) _
      refine XS.icmpYes X18.here hx rfl (pc0 := 70) (pc' := 76) rfl (hb hby at_70) rfl (feq hd).2 (by decide) (by decide) ?_
      simp only [if_neg hd] at kk
      exact kk
  have dm32 : ∀ t, Steps p.tables e below (T18.setTop (mkF m 92 #[lI x0, lI x1, lI x2, lI x3, lI x4, lI x5, lV vI3, lI x6, lI x7, lI x8, lI x9, lI x10, lR b18_0, .val (.int (if x7 = (47 : Int32) then (1 : Int32) else x12)), lU, lU] [])) t → Steps p.tables e below (T18.setTop (mkF m 86 #[lI x0, lI x1, lI x2, lI x3, lI x4, lI x5, lV vI3, lI x6, lI x7, lI x8, lI x9, lI x10, lR b18_0, lI x12, lU, lU] [vI47, (.int x7)])) t := by
    intro t kk
    by_cases hd : x7 = (47 : Int32)
    · show SG p e below T18 (mkF m 86 #[lI x0, lI x1, lI x2, lI x3, lI x4, lI x5, lV vI3, lI x6, lI x7, lI x8, lI x9, lI x10, lR b18_0, lI x12, lU, lU] [vI47, (.int x7)]) _
      refine XS.icmpNo X18.here hx rfl (hb hby at_86) rfl (teq hd).2 ?_
      refine qc X18 hx hby at_89 ?_
      refine XS.istore X18.here hx rfl (hb hby at_90) rfl (l' := #[lI x0, lI x1, lI x2, lI x3, lI x4, lI x5, lV vI3, lI x6, lI x7, lI x8, lI x9, lI x10, lR b18_0, lV vI1, lU, lU]) rfl ?_
      simp only [if_pos hd] at kk
      exact kk
    · show SG p e below T18 (mkF m 86 #[lI x0, lI x1, lI x2, lI x3, lI x4, lI x5, lV vI3, lI x6, lI x7, lI x8, lI x9, lI x10, lR b18_0, lI x12, lU, lU] [vI47, (.int x7)]) _
      refine XS.icmpYes X18.here hx rfl (pc0 := 86) (pc' := 92) rfl (hb hby at_86) rfl (feq hd).2 (by decide) (by decide) ?_
      simp only [if_neg hd] at kk
      exact kk
  have dm34 : ∀ t, Steps p.tables e below (T18.setTop (mkF m 108 #[lI x0, lI x1, lI x2, lI x3, lI x4, lI x5, lV vI3, lI x6, lI x7, lI x8, lI x9, lI x10, lR b18_0, .val (.int (if x8 = (47 : Int32) then (2 : Int32) else x13)), lU, lU] [])) t → Steps p.tables e below (T18.setTop (mkF m 102 #[lI x0, lI x1, lI x2, lI x3, lI x4, lI x5, lV vI3, lI x6, lI x7, lI x8, lI x9, lI x10, lR b18_0, lI x13, lU, lU] [vI47, (.int x8)])) t := by
    intro t kk
    by_cases hd : x8 = (47 : Int32)
    · show SG p e below T18 (mkF m 102 #[lI x0, lI x1, lI x2, lI x3, lI x4, lI x5, lV vI3, lI x6, lI x7, lI x8, lI x9, lI x10, lR b18_0, lI x13, lU, lU] [vI47, (.int x8)]) _
      refine XS.icmpNo X18.here hx rfl (hb hby at_102) rfl (teq hd).2 ?_
      refine qc X18 hx hby at_105 ?_
      refine XS.istore X18.here hx rfl (hb hby at_106) rfl (l' := #[lI x0, lI x1, lI x2, lI x3, lI x4, lI x5, lV vI3, lI x6, lI x7, lI x8, lI x9, lI x10, lR b18_0, lV vI2, lU, lU]) rfl ?_
      simp only [if_pos hd] at kk
      exact kk
    · show SG p e below T18 (mkF m 102 #[lI x0, lI x1, lI x2, lI x3, lI x4, lI x5, lV vI3, lI x6, lI x7, lI x8, lI x9, lI x10, lR b18_0, lI x13, lU, lU] [vI47, (.int x8)]) _
      refine XS.icmpYes X18.here hx rfl (pc0 := 102) (pc' := 108) rfl (hb hby at_102) rfl (feq hd).2 (by decide) (by decide) ?_
      simp only [if_neg hd] at kk
      exact kk
  have o39 := Old.keep O0 K18 all0
  obtain ⟨_, T40, Lc40, X40, hQ40, st40⟩ := own_cS X18 hx hZ hown rfl (rm6_5 l Z a0 hw [] b18_0 b18_1 (3 : Int32) k18_0 ([(.int ((nar .char x6).toInt8.toInt32)), (.int ((nar .char x7).toInt8.toInt32)), (.int ((nar .char x8).toInt8.toInt32))]) x11 (0 : Int32) 0 (2 : Int32) ((nar .char x8).toInt8.toInt32) u15 T18.heap n0 o39 f20 f22 f24 f13 hc14 f21 (by decide) (by decide) (by decide) (fun j hj => absurd hj (Nat.not_lt_zero j)) (by decide) (own_gd (n := 2) rfl rfl) (by decide) hc36 (by decide) f37 hc38 (by decide) (by decide) (by decide) (by decide) (by decide) (by decide) (by decide) (by decide) (by decide)) (w 30 rfl) (w 31 rfl) (w 32 rfl) (w 33 rfl) (by decide) (W := 0) (by decide) (by decide) (by decide) (by decide) (g := (mkF m 142 #[lI x0, lI x1, lI x2, lI x3, lI x4, lI x5, lV vI3, lI x6, lI x7, lI x8, lI x9, lI x10, lR b18_0, lI x14, lU, lU] [(.ref b18_0)])) rfl (by rw [hml]; rfl) (argsL := [(.ref b18_0)]) (rest := []) (lenOf pd__Ljava_lang_String__Ljava_lang_String_ rfl) rfl (own_W rfl) (hb hby at_142)
  obtain ⟨b40_0, b40_1, k40_0, rfl, N40q, K40, f41, f42, f43, f44, f45, f46, f47, f48⟩ := hQ40
  have N40 := Fr.app N18 N40q
  have R49 := CHr.trans R27 (CHr.keep K40 sf0 R27.1)
  have sf50 : Safe Z consts_1 s.vm T18.heap b40_0 := Safe.new f41
  have sf51 : Safe Z consts_1 s.vm T18.heap b40_1 := Safe.new f45
  have o53 := Old.keep o39 K40 all0
  obtain ⟨_, T54, Lc54, X54, hQ54, st54⟩ := own_cS X40 hx hZ hown rfl (rm2_3 l Z a0 hw [] x6 x7 x8 x9 x10 x11 T40.heap n0 o53 f13 hc14 hc15 hc16) (w 5 rfl) (w 6 rfl) (w 3 rfl) (w 7 rfl) (by decide) (W := 0) (by decide) (by decide) (by decide) (by decide) (g := (mkF m 175 #[lI x0, lI x1, lI x2, lI x3, lI x4, lI x5, lV vI3, lI x6, lI x7, lI x8, lI x9, lI x10, lR b18_0, lV vI2, lR b40_0, lU] [(.int x10), (.int x9), (.int x8), (.int x7), (.int x6), vI2])) rfl (by rw [hml]; rfl) (argsL := [vI2, (.int x6), (.int x7), (.int x8), (.int x9), (.int x10)]) (rest := []) (lenOf pd__ICCCCC_Ljava_lang_String_ rfl) rfl (own_W rfl) (hb hby at_175)
  obtain ⟨b54_0, b54_1, k54_0, rfl, N54q, K54, f55, f56, f57, f58, f59, f60, f61, f62⟩ := hQ54
  have N54 := Fr.app N40 N54q
  have R63 := CHr.trans R49 (CHr.keep K54 sf0 R49.1)
  have sf64 : Safe Z consts_1 s.vm T40.heap b54_0 := Safe.new f55
  have sf65 : Safe Z consts_1 s.vm T40.heap b54_1 := Safe.new f59
  have f66 := (f44.keep K54 nin0)
  have f67 := (f43.keep K54 nin0)
  have f68 := (f46.keep K54 nin0)
  have f69 := (f42.keep K54)
  have o70 := Old.keep o53 K54 all0
  have f71 := f13.ext o70.2
  obtain ⟨cqq73, kqq73, qq73a, qq73b, qq73c⟩ := isOf hZ rfl f69
  obtain ⟨_, T72, Lc72, X72, hQ72, st72⟩ := own_fin (X54.virtualBack hx (y := mN21) (z := mN21) hown (mvT hZ (w 116 rfl)) (mvT hZ (w 117 rfl)) (notFace_of_selects (args := #[]) (mvT hZ (w 119 rfl))) (mvT hZ (w 119 rfl)) (mvT hZ (w 118 rfl)) (by decide) (own_strEq hZ hw (w 9 rfl) (bs := [((nar .char x6).toInt8.toInt32), ((nar .char x7).toInt8.toInt32)]) f69 f67 f66 (own_trunc (ws := [(.int ((nar .char x6).toInt8.toInt32)), (.int ((nar .char x7).toInt8.toInt32))]) (rest := [(.int ((nar .char x8).toInt8.toInt32))]) (own_lenK (n := 2) rfl (by decide)) f68) (own_ofLen (n := 2) (by decide) rfl) (Nat.le_of_ble_eq_true rfl) (ds := [((nar .char x6).toInt8.toInt32), ((nar .char x7).toInt8.toInt32)]) f56 f58 f57 f60 (own_ofLen (n := 2) (by decide) rfl) (Nat.le_of_ble_eq_true rfl) f71 hc14 (r := 1) (n0 := n0) (Or.inl ⟨rfl, rfl⟩) (by decide) (by decide : 0 + 28 ≤ _)) qq73a qq73c (g := (mkF m 189 #[lI x0, lI x1, lI x2, lI x3, lI x4, lI x5, lV vI3, lI x6, lI x7, lI x8, lI x9, lI x10, lR b18_0, lV vI2, lR b40_0, lR b54_0] [(.ref b54_0), (.ref b40_0)])) rfl (by rw [hml]; rfl) (Steps.refl _) (argsL := [(.ref b54_0)]) (rest := []) (lenOf pd__Ljava_lang_Object__Z rfl) rfl (own_W rfl) (hb hby at_189) (fun _ _ => ⟨rfl, rfl, (by decide : 8 + 0 ≤ _), (by decide : 30 + 0 ≤ _)⟩))
  obtain ⟨rfl, N72q, E72⟩ := hQ72
  have N72 := Fr.app N54 N72q
  refine ⟨some vI1, _, _, _, _, _, _, _, nofun, X72, by decide, by decide, hS1, (by rw [E72]; exact (Nat.zero_le _)), hZ, E72, R63, ?_, fun fs hr => ?_⟩
  · rw [E72]; exact ⟨rfl, N72⟩
  · show SG p e below s₁ (mkF m 0 #[lI x0, lI x1, lI x2, lI x3, lI x4, lI x5, lU, lU, lU, lU, lU, lU, lU, lU, lU, lU] []) _
    refine qiN X0 hx hby at_0 ?_
    refine X0.ldcInt hx hown (mvT hZ (w 0 rfl)) (g := (mkF m 1 #[lI x0, lI x1, lI x2, lI x3, lI x4, lI x5, lU, lU, lU, lU, lU, lU, lU, lU, lU, lU] [(.int x0)])) rfl (hb hby at_1) _ ?_
    show SG p e below s₁ (mkF m 3 #[lI x0, lI x1, lI x2, lI x3, lI x4, lI x5, lU, lU, lU, lU, lU, lU, lU, lU, lU, lU] [vI2147483647, (.int x0)]) _
    refine XS.iand X0.here hx rfl (hb hby at_3) rfl ?_
    refine qb X0 hx hby at_4 ?_
    refine iremM (g := (mkF m 6 #[lI x0, lI x1, lI x2, lI x3, lI x4, lI x5, lU, lU, lU, lU, lU, lU, lU, lU, lU, lU] [vI6, (.int (x0 &&& (2147483647 : Int32)))])) X0 hx rfl (hb hby at_6) rfl (by decide : ¬ ((6 : Int32) = (0 : Int32))) ?_
    show SG p e below s₁ (mkF m 7 #[lI x0, lI x1, lI x2, lI x3, lI x4, lI x5, lU, lU, lU, lU, lU, lU, lU, lU, lU, lU] [(.int ((x0 &&& (2147483647 : Int32)) % (6 : Int32)))]) _
    rw [hc2]
    show SG p e below s₁ (mkF m 7 #[lI x0, lI x1, lI x2, lI x3, lI x4, lI x5, lU, lU, lU, lU, lU, lU, lU, lU, lU, lU] [vI3]) _
    refine XS.istore X0.here hx rfl (hb hby at_7) rfl (l' := #[lI x0, lI x1, lI x2, lI x3, lI x4, lI x5, lV vI3, lU, lU, lU, lU, lU, lU, lU, lU, lU]) rfl ?_
    refine qiN X0 hx hby at_9 ?_
    refine st3 _ ?_
    show SG p e below T3 (mkF m 13 #[lI x0, lI x1, lI x2, lI x3, lI x4, lI x5, lV vI3, lU, lU, lU, lU, lU, lU, lU, lU, lU] [(.int (nar .char (if (x1 &&& (1 : Int32)) = (0 : Int32) then ((((x1.toUInt32 >>> ((1 : Int32) &&& 31).toUInt32).toInt32) &&& (255 : Int32)).toUInt32.toUInt16.toUInt32.toInt32) else (47 : Int32))))]) _
    rw [hq4]
    show SG p e below T3 (mkF m 13 #[lI x0, lI x1, lI x2, lI x3, lI x4, lI x5, lV vI3, lU, lU, lU, lU, lU, lU, lU, lU, lU] [(.int x6)]) _
    refine XS.istore X3.here hx rfl (hb hby at_13) rfl (l' := #[lI x0, lI x1, lI x2, lI x3, lI x4, lI x5, lV vI3, lI x6, lU, lU, lU, lU, lU, lU, lU, lU]) rfl ?_
    refine qiN X3 hx hby at_15 ?_
    refine st5 _ ?_
    show SG p e below T5 (mkF m 19 #[lI x0, lI x1, lI x2, lI x3, lI x4, lI x5, lV vI3, lI x6, lU, lU, lU, lU, lU, lU, lU, lU] [(.int (nar .char (if (x2 &&& (1 : Int32)) = (0 : Int32) then ((((x2.toUInt32 >>> ((1 : Int32) &&& 31).toUInt32).toInt32) &&& (255 : Int32)).toUInt32.toUInt16.toUInt32.toInt32) else (47 : Int32))))]) _
    rw [hq6]
    show SG p e below T5 (mkF m 19 #[lI x0, lI x1, lI x2, lI x3, lI x4, lI x5, lV vI3, lI x6, lU, lU, lU, lU, lU, lU, lU, lU] [(.int x7)]) _
    refine XS.istore X5.here hx rfl (hb hby at_19) rfl (l' := #[lI x0, lI x1, lI x2, lI x3, lI x4, lI x5, lV vI3, lI x6, lI x7, lU, lU, lU, lU, lU, lU, lU]) rfl ?_
    refine qiN X5 hx hby at_21 ?_
    refine st7 _ ?_
    show SG p e below T7 (mkF m 25 #[lI x0, lI x1, lI x2, lI x3, lI x4, lI x5, lV vI3, lI x6, lI x7, lU, lU, lU, lU, lU, lU, lU] [(.int (nar .char (if (x3 &&& (1 : Int32)) = (0 : Int32) then ((((x3.toUInt32 >>> ((1 : Int32) &&& 31).toUInt32).toInt32) &&& (255 : Int32)).toUInt32.toUInt16.toUInt32.toInt32) else (47 : Int32))))]) _
    rw [hq8]
    show SG p e below T7 (mkF m 25 #[lI x0, lI x1, lI x2, lI x3, lI x4, lI x5, lV vI3, lI x6, lI x7, lU, lU, lU, lU, lU, lU, lU] [(.int x8)]) _
    refine XS.istore X7.here hx rfl (hb hby at_25) rfl (l' := #[lI x0, lI x1, lI x2, lI x3, lI x4, lI x5, lV vI3, lI x6, lI x7, lI x8, lU, lU, lU, lU, lU, lU]) rfl ?_
    refine qi X7 hx hby at_27 ?_
    refine st9 _ ?_
    show SG p e below T9 (mkF m 32 #[lI x0, lI x1, lI x2, lI x3, lI x4, lI x5, lV vI3, lI x6, lI x7, lI x8, lU, lU, lU, lU, lU, lU] [(.int (nar .char (if (x4 &&& (1 : Int32)) = (0 : Int32) then ((((x4.toUInt32 >>> ((1 : Int32) &&& 31).toUInt32).toInt32) &&& (255 : Int32)).toUInt32.toUInt16.toUInt32.toInt32) else (47 : Int32))))]) _
    rw [hq10]
    show SG p e below T9 (mkF m 32 #[lI x0, lI x1, lI x2, lI x3, lI x4, lI x5, lV vI3, lI x6, lI x7, lI x8, lU, lU, lU, lU, lU, lU] [(.int x9)]) _
    refine XS.istore X9.here hx rfl (hb hby at_32) rfl (l' := #[lI x0, lI x1, lI x2, lI x3, lI x4, lI x5, lV vI3, lI x6, lI x7, lI x8, lI x9, lU, lU, lU, lU, lU]) rfl ?_
    refine qi X9 hx hby at_34 ?_
    refine st11 _ ?_
    show SG p e below T11 (mkF m 39 #[lI x0, lI x1, lI x2, lI x3, lI x4, lI x5, lV vI3, lI x6, lI x7, lI x8, lI x9, lU, lU, lU, lU, lU] [(.int (nar .char (if (x5 &&& (1 : Int32)) = (0 : Int32) then ((((x5.toUInt32 >>> ((1 : Int32) &&& 31).toUInt32).toInt32) &&& (255 : Int32)).toUInt32.toUInt16.toUInt32.toInt32) else (47 : Int32))))]) _
    rw [hq12]
    show SG p e below T11 (mkF m 39 #[lI x0, lI x1, lI x2, lI x3, lI x4, lI x5, lV vI3, lI x6, lI x7, lI x8, lI x9, lU, lU, lU, lU, lU] [(.int x10)]) _
    refine XS.istore X11.here hx rfl (hb hby at_39) rfl (l' := #[lI x0, lI x1, lI x2, lI x3, lI x4, lI x5, lV vI3, lI x6, lI x7, lI x8, lI x9, lI x10, lU, lU, lU, lU]) rfl ?_
    refine qi X11 hx hby at_41 ?_
    refine qi X11 hx hby at_43 ?_
    refine qi X11 hx hby at_45 ?_
    refine qi X11 hx hby at_47 ?_
    refine qi X11 hx hby at_49 ?_
    refine qi X11 hx hby at_51 ?_
    refine st18 _ ?_
    show SG p e below T18 (mkF m 56 #[lI x0, lI x1, lI x2, lI x3, lI x4, lI x5, lV vI3, lI x6, lI x7, lI x8, lI x9, lI x10, lU, lU, lU, lU] [(.ref b18_0)]) _
    refine XS.astore X18.here hx rfl (hb hby at_56) rfl rfl (l' := #[lI x0, lI x1, lI x2, lI x3, lI x4, lI x5, lV vI3, lI x6, lI x7, lI x8, lI x9, lI x10, lR b18_0, lU, lU, lU]) rfl ?_
    refine qc X18 hx hby at_58 ?_
    refine XS.istore X18.here hx rfl (hb hby at_59) rfl (l' := #[lI x0, lI x1, lI x2, lI x3, lI x4, lI x5, lV vI3, lI x6, lI x7, lI x8, lI x9, lI x10, lR b18_0, .val (.int (-1 : Int32)), lU, lU]) rfl ?_
    refine qi X18 hx hby at_61 ?_
    refine XS.ifNo X18.here hx rfl (hb hby at_63) rfl ((if0 _ _).trans (tlt (by decide : (0 : Int32) < (3 : Int32))).2.2.2) ?_
    refine qi X18 hx hby at_66 ?_
    refine qb X18 hx hby at_68 ?_
    show SG p e below T18 (mkF m 70 #[lI x0, lI x1, lI x2, lI x3, lI x4, lI x5, lV vI3, lI x6, lI x7, lI x8, lI x9, lI x10, lR b18_0, .val (.int (-1 : Int32)), lU, lU] [vI47, (.int x6)]) _
    refine dm30 _ ?_
    show SG p e below T18 (mkF m 76 #[lI x0, lI x1, lI x2, lI x3, lI x4, lI x5, lV vI3, lI x6, lI x7, lI x8, lI x9, lI x10, lR b18_0, .val (.int (if x6 = (47 : Int32) then (0 : Int32) else (-1 : Int32))), lU, lU] []) _
    rw [hq31]
    show SG p e below T18 (mkF m 76 #[lI x0, lI x1, lI x2, lI x3, lI x4, lI x5, lV vI3, lI x6, lI x7, lI x8, lI x9, lI x10, lR b18_0, lI x12, lU, lU] []) _
    refine qi X18 hx hby at_76 ?_
    refine qc X18 hx hby at_78 ?_
    refine XS.icmpNo X18.here hx rfl (hb hby at_79) rfl (tlt (by decide : (1 : Int32) < (3 : Int32))).2.2.2 ?_
    refine qi X18 hx hby at_82 ?_
    refine qb X18 hx hby at_84 ?_
    show SG p e below T18 (mkF m 86 #[lI x0, lI x1, lI x2, lI x3, lI x4, lI x5, lV vI3, lI x6, lI x7, lI x8, lI x9, lI x10, lR b18_0, lI x12, lU, lU] [vI47, (.int x7)]) _
    refine dm32 _ ?_
    show SG p e below T18 (mkF m 92 #[lI x0, lI x1, lI x2, lI x3, lI x4, lI x5, lV vI3, lI x6, lI x7, lI x8, lI x9, lI x10, lR b18_0, .val (.int (if x7 = (47 : Int32) then (1 : Int32) else x12)), lU, lU] []) _
    rw [hq33]
    show SG p e below T18 (mkF m 92 #[lI x0, lI x1, lI x2, lI x3, lI x4, lI x5, lV vI3, lI x6, lI x7, lI x8, lI x9, lI x10, lR b18_0, lI x13, lU, lU] []) _
    refine qi X18 hx hby at_92 ?_
    refine qc X18 hx hby at_94 ?_
    refine XS.icmpNo X18.here hx rfl (hb hby at_95) rfl (tlt (by decide : (2 : Int32) < (3 : Int32))).2.2.2 ?_
    refine qi X18 hx hby at_98 ?_
    refine qb X18 hx hby at_100 ?_
    show SG p e below T18 (mkF m 102 #[lI x0, lI x1, lI x2, lI x3, lI x4, lI x5, lV vI3, lI x6, lI x7, lI x8, lI x9, lI x10, lR b18_0, lI x13, lU, lU] [vI47, (.int x8)]) _
    refine dm34 _ ?_
    show SG p e below T18 (mkF m 108 #[lI x0, lI x1, lI x2, lI x3, lI x4, lI x5, lV vI3, lI x6, lI x7, lI x8, lI x9, lI x10, lR b18_0, .val (.int (if x8 = (47 : Int32) then (2 : Int32) else x13)), lU, lU] []) _
    rw [hq35]
    show SG p e below T18 (mkF m 108 #[lI x0, lI x1, lI x2, lI x3, lI x4, lI x5, lV vI3, lI x6, lI x7, lI x8, lI x9, lI x10, lR b18_0, lI x14, lU, lU] []) _
    refine qi X18 hx hby at_108 ?_
    refine qc X18 hx hby at_110 ?_
    refine XS.icmpYes X18.here hx rfl (pc0 := 111) (pc' := 124) rfl (hb hby at_111) rfl (flt (by decide : ¬ ((3 : Int32) < (3 : Int32)))).2.2.2 (by decide) (by decide) ?_
    show SG p e below T18 (mkF m 124 #[lI x0, lI x1, lI x2, lI x3, lI x4, lI x5, lV vI3, lI x6, lI x7, lI x8, lI x9, lI x10, lR b18_0, lI x14, lU, lU] []) _
    refine qi X18 hx hby at_124 ?_
    refine qc X18 hx hby at_126 ?_
    refine XS.icmpYes X18.here hx rfl (pc0 := 127) (pc' := 140) rfl (hb hby at_127) rfl (flt (by decide : ¬ ((4 : Int32) < (3 : Int32)))).2.2.2 (by decide) (by decide) ?_
    show SG p e below T18 (mkF m 140 #[lI x0, lI x1, lI x2, lI x3, lI x4, lI x5, lV vI3, lI x6, lI x7, lI x8, lI x9, lI x10, lR b18_0, lI x14, lU, lU] []) _
    refine qa X18 hx hby at_140 ?_
    refine st40 _ ?_
    show SG p e below T40 (mkF m 145 #[lI x0, lI x1, lI x2, lI x3, lI x4, lI x5, lV vI3, lI x6, lI x7, lI x8, lI x9, lI x10, lR b18_0, lI x14, lU, lU] [(.ref b40_0)]) _
    refine XS.astore X40.here hx rfl (hb hby at_145) rfl rfl (l' := #[lI x0, lI x1, lI x2, lI x3, lI x4, lI x5, lV vI3, lI x6, lI x7, lI x8, lI x9, lI x10, lR b18_0, lI x14, lR b40_0, lU]) rfl ?_
    refine qi X40 hx hby at_147 ?_
    show SG p e below T40 (mkF m 149 #[lI x0, lI x1, lI x2, lI x3, lI x4, lI x5, lV vI3, lI x6, lI x7, lI x8, lI x9, lI x10, lR b18_0, lI x14, lR b40_0, lU] [(.int x14)]) _
    rw [hc52]
    show SG p e below T40 (mkF m 149 #[lI x0, lI x1, lI x2, lI x3, lI x4, lI x5, lV vI3, lI x6, lI x7, lI x8, lI x9, lI x10, lR b18_0, lV vI2, lR b40_0, lU] [vI2]) _
    refine XS.ifYes X40.here hx rfl (pc0 := 149) (pc' := 163) rfl (hb hby at_149) rfl ((if0 _ _).trans (tlt (by decide : (0 : Int32) < (2 : Int32))).2.2.1) (by decide) (by decide) ?_
    show SG p e below T40 (mkF m 163 #[lI x0, lI x1, lI x2, lI x3, lI x4, lI x5, lV vI3, lI x6, lI x7, lI x8, lI x9, lI x10, lR b18_0, lV vI2, lR b40_0, lU] []) _
    refine qi X40 hx hby at_163 ?_
    refine qi X40 hx hby at_165 ?_
    refine qi X40 hx hby at_167 ?_
    refine qi X40 hx hby at_169 ?_
    refine qi X40 hx hby at_171 ?_
    refine qi X40 hx hby at_173 ?_
    refine st54 _ ?_
    show SG p e below T54 (mkF m 178 #[lI x0, lI x1, lI x2, lI x3, lI x4, lI x5, lV vI3, lI x6, lI x7, lI x8, lI x9, lI x10, lR b18_0, lV vI2, lR b40_0, lU] [(.ref b54_0)]) _
    refine XS.astore X54.here hx rfl (hb hby at_178) rfl rfl (l' := #[lI x0, lI x1, lI x2, lI x3, lI x4, lI x5, lV vI3, lI x6, lI x7, lI x8, lI x9, lI x10, lR b18_0, lV vI2, lR b40_0, lR b54_0]) rfl ?_
    refine qa X54 hx hby at_180 ?_
    refine XS.ifnullNo X54.here hx rfl (hb hby at_182) rfl ?_
    refine qa X54 hx hby at_185 ?_
    refine qa X54 hx hby at_187 ?_
    refine st72.trans ?_
    show SG p e below T72 (mkF m 192 #[lI x0, lI x1, lI x2, lI x3, lI x4, lI x5, lV vI3, lI x6, lI x7, lI x8, lI x9, lI x10, lR b18_0, lV vI2, lR b40_0, lR b54_0] [vI1]) _
    refine XS.ifNo X72.here hx rfl (hb hby at_192) rfl ((if0 _ _).trans (feq (by decide : ¬ ((1 : Int32) = (0 : Int32)))).1) ?_
    refine qc X72 hx hby at_195 ?_
    refine XS.goto X72.here hx rfl (pc0 := 196) (pc' := 200) rfl (hb hby at_196) (by decide) (by decide) ?_
    show SG p e below T72 (mkF m 200 #[lI x0, lI x1, lI x2, lI x3, lI x4, lI x5, lV vI3, lI x6, lI x7, lI x8, lI x9, lI x10, lR b18_0, lV vI2, lR b40_0, lR b54_0] [vI1]) _
    exact retN X72 hx (t := .boolean) hret (by simp) (hb hby at_200) hr
theorem d2_87 : DK cB2 87 (.iload_n 0) 1 := by decide +kernel
theorem d2_88 : DK cB2 88 (.iconst 4) 1 := by decide +kernel
theorem d2_89 : DK cB2 89 (.if_icmp .ne 31) 3 := by decide +kernel
theorem d2_92 : DK cB2 92 (.new 7) 3 := by decide +kernel
theorem d2_95 : DK cB2 95 (.dup) 1 := by decide +kernel
theorem d2_96 : DK cB2 96 (.iconst 4) 1 := by decide +kernel
theorem d2_97 : DK cB2 97 (.newarray .char) 2 := by decide +kernel
theorem d2_99 : DK cB2 99 (.dup) 1 := by decide +kernel
theorem d2_100 : DK cB2 100 (.iconst 0) 1 := by decide +kernel
theorem d2_101 : DK cB2 101 (.iload_n 1) 1 := by decide +kernel
theorem d2_102 : DK cB2 102 (.castore) 1 := by decide +kernel
theorem d2_103 : DK cB2 103 (.dup) 1 := by decide +kernel
theorem d2_104 : DK cB2 104 (.iconst 1) 1 := by decide +kernel
theorem d2_105 : DK cB2 105 (.iload_n 2) 1 := by decide +kernel
theorem d2_106 : DK cB2 106 (.castore) 1 := by decide +kernel
theorem d2_107 : DK cB2 107 (.dup) 1 := by decide +kernel
theorem d2_108 : DK cB2 108 (.iconst 2) 1 := by decide +kernel
theorem d2_109 : DK cB2 109 (.iload_n 3) 1 := by decide +kernel
theorem d2_110 : DK cB2 110 (.castore) 1 := by decide +kernel
theorem d2_111 : DK cB2 111 (.dup) 1 := by decide +kernel
theorem d2_112 : DK cB2 112 (.iconst 3) 1 := by decide +kernel
theorem d2_113 : DK cB2 113 (.iload 4) 2 := by decide +kernel
theorem d2_115 : DK cB2 115 (.castore) 1 := by decide +kernel
theorem d2_116 : DK cB2 116 (.invokespecial 9) 3 := by decide +kernel
theorem d2_119 : DK cB2 119 (.areturn) 1 := by decide +kernel
def Q2_5 (Z : State) (x0 x1 : Int32) (x2 x3 : Int32) (x4 x5 : Int32) (h0 : Heap) (n0 : Nat) (v : Option Value) (h : Heap) (L : List Loc) : Prop := ∃ (b1 b29_0 : Addr) (k29_0 : ClassId), v = some (.ref b1) ∧ Fr n0 L ∧ Keep h0 h [] ∧ h0.size ≤ b1 ∧ Exa Z h b1 "java/lang/String" ∧ Fld Z h b1 "java/lang/String" "coder" "B" vI0 ∧ Fld Z h b1 "java/lang/String" "value" "[B" (.ref b29_0) ∧ h0.size ≤ b29_0 ∧ Arv Z h b29_0 k29_0 .byte (4 : Int32) [(.int ((nar .char x0).toInt8.toInt32)), (.int ((nar .char x1).toInt8.toInt32)), (.int ((nar .char x2).toInt8.toInt32)), (.int ((nar .char x3).toInt8.toInt32))] vI0 ∧ Exa Z h b29_0 "[B" ∧ b1 ≠ b29_0
theorem rm2_5 (l : Launch) (Z : State) (a0 : Array Value) (hw : own_HW a0 Z) (ws : List Jvm.Cond) (x0 x1 : Int32) (x2 x3 : Int32) (x4 x5 : Int32) (h0 : Heap) (n0 : Nat) (O0 : Old Z n0 h0) (f18 : Sta Z Z.heap "java/lang/String" "COMPACT_STRINGS" "Z" (.int x5)) (hc22 : ¬ (x5 = (0 : Int32))) (hc25 : ¬ ((255 : Int32) < (nar .char x0))) (hc26 : ¬ ((255 : Int32) < (nar .char x1))) (hc27 : ¬ ((255 : Int32) < (nar .char x2))) (hc28 : ¬ ((255 : Int32) < (nar .char x3))) :
    own_MF l mN3 method_3_code 6 (some (.object "java/lang/String")) ws rR4_3_12_66 Z h0 #[vI4, (.int x0), (.int x1), (.int x2), (.int x3), (.int x4)] (Q2_5 Z x0 x1 x2 x3 x4 x5 h0 n0) := by
  refine own_open (plainFor_of_name pn_com_example_nearmiss_nearmiss_ElementParentPathPinLaw) (L0 := #[lV vI4, lI x0, lI x1, lI x2, lI x3, lI x4]) (fun _ => by first | (simp [entryFrame, mkF, argsToLocals, Value.category]; done) | rfl) ?_
  intro p e s m below meth c s₁ hx hby hml hret hnn hZ hown X0 e0
  have N0 := Fr.nil n0; have w := @ww Z a0 hw
  obtain ⟨T1, h1, X1, e1, E1, A1, D1, -, st1⟩ := newO X0 hx hZ hown (w 8 rfl) (w 9 rfl) (w 10 rfl) e0 (g := (mkF m 92 #[lV vI4, lI x0, lI x1, lI x2, lI x3, lI x4] [])) rfl (hb hby d2_92) (by decide) (by decide)
  obtain ⟨b1, g1⟩ : ∃ z, z = h0.size := ⟨_, rfl⟩
  rw [← g1] at A1 D1 st1
  have f2 : Fld Z h1 b1 "java/lang/String" "value" "[B" .null := D1 (Or.inr (w 24 rfl)) (ty := (.array .byte)) (by decide)
  have f3 : Fld Z h1 b1 "java/lang/String" "coder" "B" vI0 := D1 (Or.inr (w 25 rfl)) (ty := .byte) (by decide)
  obtain ⟨T4, h4, k4, X4, e4, E4, A4, B4, st4⟩ := newPE X1 hx hZ (w 11 rfl) e1 (g := (mkF m 97 #[lV vI4, lI x0, lI x1, lI x2, lI x3, lI x4] [vI4, (.ref b1), (.ref b1)])) rfl (hb hby d2_97) rfl (by decide) (cap := 4) (by decide) (by decide) (by decide) (by decide) (ad := "[C") rfl
  obtain ⟨b4, g4⟩ : ∃ z, z = h1.size := ⟨_, rfl⟩
  rw [← g4] at A4 B4 st4
  have V4 : Arv Z h4 b4 k4 .char (4 : Int32) [vI0, vI0, vI0, vI0] vI0 := (Arv.new A4 (by decide)).pad (pad_rep [] vI0 4)
  have o7 := Old.ext O0 E1
  have zz6 : n0 ≤ h1.size := by rw [← o7.1]; exact o7.2.1
  have g8 := Nat.le_trans zz6 (Nat.le_of_eq g4.symm)
  obtain ⟨T9, h9, L9, X9, e9, N9, K9, V9, st9⟩ := own_stC X4 hx hZ e4 (Keep.refl _ _) V4 N0 g8 0 rfl (Nat.le_of_ble_eq_true rfl) ⟨by decide, by decide⟩ (g := (mkF m 102 #[lV vI4, lI x0, lI x1, lI x2, lI x3, lI x4] [(.int x0), vI0, (.ref b4), (.ref b4), (.ref b1), (.ref b1)])) rfl rfl (hb hby d2_102)
  obtain ⟨T10, h10, L10, X10, e10, N10, K10, V10, st10⟩ := own_stC X9 hx hZ e9 K9 V9 N9 g8 1 rfl (Nat.le_of_ble_eq_true rfl) ⟨by decide, by decide⟩ (g := (mkF m 106 #[lV vI4, lI x0, lI x1, lI x2, lI x3, lI x4] [(.int x1), vI1, (.ref b4), (.ref b4), (.ref b1), (.ref b1)])) rfl rfl (hb hby d2_106)
  obtain ⟨T11, h11, L11, X11, e11, N11, K11, V11, st11⟩ := own_stC X10 hx hZ e10 K10 V10 N10 g8 2 rfl (Nat.le_of_ble_eq_true rfl) ⟨by decide, by decide⟩ (g := (mkF m 110 #[lV vI4, lI x0, lI x1, lI x2, lI x3, lI x4] [(.int x2), vI2, (.ref b4), (.ref b4), (.ref b1), (.ref b1)])) rfl rfl (hb hby d2_110)
  obtain ⟨T12, h12, L12, X12, e12, N12, K12, V12, st12⟩ := own_stC X11 hx hZ e11 K11 V11 N11 g8 3 rfl (Nat.le_of_ble_eq_true rfl) ⟨by decide, by decide⟩ (g := (mkF m 115 #[lV vI4, lI x0, lI x1, lI x2, lI x3, lI x4] [(.int x3), vI3, (.ref b4), (.ref b4), (.ref b1), (.ref b1)])) rfl rfl (hb hby d2_115)
  have f13 : Arv Z h12 b4 k4 .char (4 : Int32) [(.int (nar .char x0)), (.int (nar .char x1)), (.int (nar .char x2)), (.int (nar .char x3))] vI0 := V12
  have f14 := ((A1.ext E4).keep K12)
  have n15 := Nat.ne_of_lt (Nat.lt_of_lt_of_le A1.lt (Nat.le_of_eq g4.symm))
  have f16 := ((f2.ext E4).keep K12 (ninS n15 nin0))
  have f17 := ((f3.ext E4).keep K12 (ninS n15 nin0))
  have o19 := Old.ext o7 E4
  have o20 := Old.keep o19 K12 (allS g8 all0)
  have f21 := f18.ext o20.2
  have zz23 : n0 ≤ h0.size := by rw [← O0.1]; exact O0.2.1
  have g24 := Nat.le_trans zz23 (Nat.le_of_eq g1.symm)
  obtain ⟨_, T29, Lc29, X29, hQ29, st29⟩ := own_fin (X12.specialBack hx (y := mN2) rfl hown (mvT hZ (w 12 rfl)) (mvT hZ (w 13 rfl)) (mvT hZ (w 14 rfl)) (by decide) (own_newStr hZ hw (w 9 rfl) (cs := [(nar .char x0), (nar .char x1), (nar .char x2), (nar .char x3)]) (n := 4) g24 f14 f16 f17 f13 f21 hc22 rfl rfl (by decide) (by decide) (own_acS hc25 (own_acS hc26 (own_acS hc27 (own_acS hc28 own_ac0)))) (own_bsS rfl (own_bsS rfl (own_bsS rfl (own_bsS rfl own_bs0)))) (by decide) (by decide : 1 + 65 ≤ _)) (g := (mkF m 116 #[lV vI4, lI x0, lI x1, lI x2, lI x3, lI x4] [(.ref b4), (.ref b1), (.ref b1)])) rfl (by rw [hml]; rfl) (Steps.refl _) (a := b1) (argsL := [(.ref b4)]) (rest := [(.ref b1)]) (lenOf pd___C_V rfl) rfl (own_W rfl) (hb hby d2_116) (fun _ _ => ⟨rfl, e12, (by decide : 2 + 1 ≤ _), (by decide : 8 + 4 ≤ _)⟩))
  obtain ⟨b29_0, k29_0, rfl, N29q, K29, f30, f31, f32, f33, f34, f35⟩ := hQ29
  have N29 := Fr.app N12 N29q
  have f36 := (f14.keep K29)
  have zs37 := E1.1
  have zs38 := Nat.le_trans zs37 E4.1
  have zs39 := Nat.le_trans zs38 K12.1
  have zs40 := E4.1
  have zs41 := Nat.le_trans zs40 K12.1
  have n42 := Nat.ne_of_lt (Nat.lt_of_lt_of_le (Nat.lt_of_lt_of_le A1.lt zs41) f32)
  have kp43 : Keep h0 h1 [] := (Keep.refl h0 []).ext E1
  have kp44 : Keep h0 h4 [] := kp43.ext E4
  have kp45 : Keep h0 h12 [] := kp44.trans K12 (allS (Or.inr (Nat.le_trans zs37 (Nat.le_of_eq g4.symm))) all0)
  have kp46 : Keep h0 T29.heap [] := kp45.trans K29 (allS (Or.inr (Nat.le_of_eq g1.symm)) all0)
  refine ⟨some (.ref b1), _, _, _, _, nofun, X29, by decide, by decide, ?_, fun fs hr => ?_⟩
  · exact ⟨b1, b29_0, k29_0, rfl, N29, kp46, (Nat.le_of_eq g1.symm), f36, f30, f31, (Nat.le_trans zs39 f32), f33, f34, n42⟩
  · show SG p e below s₁ (mkF m 0 #[lV vI4, lI x0, lI x1, lI x2, lI x3, lI x4] []) _
    refine qiN X0 hx hby d2_0 ?_
    refine XS.ifYes X0.here hx rfl (pc0 := 1) (pc' := 15) rfl (hb hby d2_1) rfl ((if0 _ _).trans (tlt (by decide : (0 : Int32) < (4 : Int32))).2.2.1) (by decide) (by decide) ?_
    show SG p e below s₁ (mkF m 15 #[lV vI4, lI x0, lI x1, lI x2, lI x3, lI x4] []) _
    refine qiN X0 hx hby d2_15 ?_
    refine qc X0 hx hby d2_16 ?_
    refine XS.icmpYes X0.here hx rfl (pc0 := 17) (pc' := 35) rfl (hb hby d2_17) rfl (feq (by decide : ¬ ((4 : Int32) = (1 : Int32)))).2 (by decide) (by decide) ?_
    show SG p e below s₁ (mkF m 35 #[lV vI4, lI x0, lI x1, lI x2, lI x3, lI x4] []) _
    refine qiN X0 hx hby d2_35 ?_
    refine qc X0 hx hby d2_36 ?_
    refine XS.icmpYes X0.here hx rfl (pc0 := 37) (pc' := 59) rfl (hb hby d2_37) rfl (feq (by decide : ¬ ((4 : Int32) = (2 : Int32)))).2 (by decide) (by decide) ?_
    show SG p e below s₁ (mkF m 59 #[lV vI4, lI x0, lI x1, lI x2, lI x3, lI x4] []) _
    refine qiN X0 hx hby d2_59 ?_
    refine qc X0 hx hby d2_60 ?_
    refine XS.icmpYes X0.here hx rfl (pc0 := 61) (pc' := 87) rfl (hb hby d2_61) rfl (feq (by decide : ¬ ((4 : Int32) = (3 : Int32)))).2 (by decide) (by decide) ?_
    show SG p e below s₁ (mkF m 87 #[lV vI4, lI x0, lI x1, lI x2, lI x3, lI x4] []) _
    refine qiN X0 hx hby d2_87 ?_
    refine qc X0 hx hby d2_88 ?_
    refine XS.icmpNo X0.here hx rfl (hb hby d2_89) rfl (teq (rfl : (4 : Int32) = (4 : Int32))).2 ?_
    refine st1 _ ?_
    show SG p e below T1 (mkF m 95 #[lV vI4, lI x0, lI x1, lI x2, lI x3, lI x4] [(.ref b1)]) _
    refine qd X1 hx hby d2_95 ?_
    refine qc X1 hx hby d2_96 ?_
    refine st4 _ ?_
    show SG p e below T4 (mkF m 99 #[lV vI4, lI x0, lI x1, lI x2, lI x3, lI x4] [(.ref b4), (.ref b1), (.ref b1)]) _
    refine qd X4 hx hby d2_99 ?_
    refine qc X4 hx hby d2_100 ?_
    refine qiN X4 hx hby d2_101 ?_
    refine st9 _ ?_
    show SG p e below T9 (mkF m 103 #[lV vI4, lI x0, lI x1, lI x2, lI x3, lI x4] [(.ref b4), (.ref b1), (.ref b1)]) _
    refine qd X9 hx hby d2_103 ?_
    refine qc X9 hx hby d2_104 ?_
    refine qiN X9 hx hby d2_105 ?_
    refine st10 _ ?_
    show SG p e below T10 (mkF m 107 #[lV vI4, lI x0, lI x1, lI x2, lI x3, lI x4] [(.ref b4), (.ref b1), (.ref b1)]) _
    refine qd X10 hx hby d2_107 ?_
    refine qc X10 hx hby d2_108 ?_
    refine qiN X10 hx hby d2_109 ?_
    refine st11 _ ?_
    show SG p e below T11 (mkF m 111 #[lV vI4, lI x0, lI x1, lI x2, lI x3, lI x4] [(.ref b4), (.ref b1), (.ref b1)]) _
    refine qd X11 hx hby d2_111 ?_
    refine qc X11 hx hby d2_112 ?_
    refine qi X11 hx hby d2_113 ?_
    refine st12 _ ?_
    show SG p e below T12 (mkF m 116 #[lV vI4, lI x0, lI x1, lI x2, lI x3, lI x4] [(.ref b4), (.ref b1), (.ref b1)]) _
    refine st29.trans ?_
    show SG p e below T29 (mkF m 119 #[lV vI4, lI x0, lI x1, lI x2, lI x3, lI x4] [(.ref b1)]) _
    exact retOut X29 hx (i := .areturn) hret rfl (Or.inr (Or.inr (Or.inr (Or.inr ⟨rfl, rfl, rfl⟩)))) (hb hby d2_119) hr
def Q6_7 (Z : State) (r0 r1 : Addr) (c2 : ClassId) (x3 x4 : Int32) (x5 x6 x7 : Int32) (h0 : Heap) (n0 : Nat) (v : Option Value) (h : Heap) (L : List Loc) : Prop := v = some .null ∧ Fr n0 L ∧ h = h0
theorem rm6_7 (l : Launch) (Z : State) (a0 : Array Value) (hw : own_HW a0 Z) (ws : List Jvm.Cond) (r0 r1 : Addr) (c2 : ClassId) (x3 x4 : Int32) (x5 x6 x7 : Int32) (h0 : Heap) (n0 : Nat) (O0 : Old Z n0 h0) (f1 : Fld Z h0 r0 "java/lang/String" "value" "[B" (.ref r1)) (f2 : Arv Z h0 r1 c2 .byte (4 : Int32) [(.int x3), (.int x4), (.int x5), (.int x6)] vI0) (f3 : Exa Z h0 r0 "java/lang/String") (f4 : Sta Z Z.heap "java/lang/String" "COMPACT_STRINGS" "Z" (.int x7)) (hc5 : ¬ (x7 = (0 : Int32))) (f6 : Fld Z h0 r0 "java/lang/String" "coder" "B" vI0) (hc7 : ¬ (x4 = (47 : Int32))) (hc8 : ¬ (x5 = (47 : Int32))) (hc9 : ¬ (x6 = (47 : Int32))) :
    MetFree l mN12 (head1 (Jvm.Cond.code mN12 prog_6_method_4_code 2 (some (.object "java/lang/String")) :: ws) rR4_0_0_55) (fun a U => a = #[(.ref r0)] ∧ Z.Warmed39 U.vm ∧ U.heap = h0) (fun _ _ _ _ _ => True) (fun _ U o U' => ∃ v L, o = .returned v ∧ Q6_7 Z r0 r1 c2 x3 x4 x5 x6 x7 h0 n0 v U'.heap L ∧ FrameEnd U o U' L rR4_0_0_55.cells rR4_0_0_55.slots) := by
  by_cases hs : x3 = (47 : Int32)
  · exact rm6_2 l Z a0 hw ws r0 r1 (4 : Int32) c2 ([(.int x3), (.int x4), (.int x5), (.int x6)]) x7 (0 : Int32) 3 (0 : Int32) x3 h0 n0 O0 f3 f1 f2 f4 hc5 f6 (by decide) (by decide) (by decide) (fun j hj => match j, hj with | 0, _ => ⟨by decide, rfl, by decide, by decide, by decide, by decide, own_atN (n := 1) (by decide) rfl hc7⟩ | 1, _ => ⟨by decide, rfl, by decide, by decide, by decide, by decide, own_atN (n := 2) (by decide) rfl hc8⟩ | 2, _ => ⟨by decide, rfl, by decide, by decide, by decide, by decide, own_atN (n := 3) (by decide) rfl hc9⟩ | z + 3, hz => absurd hz (by omega)) (by decide) (own_gd (n := 0) rfl rfl) (by decide) hs (by decide)
  · exact rm6_1 l Z a0 hw ws r0 r1 (4 : Int32) c2 ([(.int x3), (.int x4), (.int x5), (.int x6)]) x7 (0 : Int32) 4 (-1 : Int32) h0 n0 O0 f3 f1 f2 f4 hc5 f6 (by decide) (by decide) (by decide) (fun j hj => match j, hj with | 0, _ => ⟨by decide, rfl, by decide, by decide, by decide, by decide, own_atN (n := 0) (by decide) rfl hs⟩ | 1, _ => ⟨by decide, rfl, by decide, by decide, by decide, by decide, own_atN (n := 1) (by decide) rfl hc7⟩ | 2, _ => ⟨by decide, rfl, by decide, by decide, by decide, by decide, own_atN (n := 2) (by decide) rfl hc8⟩ | 3, _ => ⟨by decide, rfl, by decide, by decide, by decide, by decide, own_atN (n := 3) (by decide) rfl hc9⟩ | z + 4, hz => absurd hz (by omega)) (by decide)
def Q0_8 (Z : State) (x0 x1 : Int32) (x2 x3 : Int32) (x4 x5 : Int32) (x6 x7 : Int32) (x8 x9 : Int32) (x10 x11 : Int32) (x12 x13 : Int32) (x14 x15 : Int32) (h0 : Heap) (n0 : Nat) (v : Option Value) (h : Heap) (L : List Loc) : Prop := v = some vI1 ∧ Fr n0 L
theorem rm0_8 (l : Launch) (Z : State) (a0 : Array Value) (hw : own_HW a0 Z) (ws : List Jvm.Cond) (x0 x1 : Int32) (x2 x3 : Int32) (x4 x5 : Int32) (x6 x7 : Int32) (x8 x9 : Int32) (x10 x11 : Int32) (x12 x13 : Int32) (x14 x15 : Int32) (h0 : Heap) (n0 : Nat) (O0 : Old Z n0 h0) (hc2 : ((x0 &&& (2147483647 : Int32)) % (6 : Int32)) = (4 : Int32)) (hq4 : (nar .char (if (x1 &&& (1 : Int32)) = (0 : Int32) then ((((x1.toUInt32 >>> ((1 : Int32) &&& 31).toUInt32).toInt32) &&& (255 : Int32)).toUInt32.toUInt16.toUInt32.toInt32) else (47 : Int32))) = x6) (hq6 : (nar .char (if (x2 &&& (1 : Int32)) = (0 : Int32) then ((((x2.toUInt32 >>> ((1 : Int32) &&& 31).toUInt32).toInt32) &&& (255 : Int32)).toUInt32.toUInt16.toUInt32.toInt32) else (47 : Int32))) = x7) (hq8 : (nar .char (if (x3 &&& (1 : Int32)) = (0 : Int32) then ((((x3.toUInt32 >>> ((1 : Int32) &&& 31).toUInt32).toInt32) &&& (255 : Int32)).toUInt32.toUInt16.toUInt32.toInt32) else (47 : Int32))) = x8) (hq10 : (nar .char (if (x4 &&& (1 : Int32)) = (0 : Int32) then ((((x4.toUInt32 >>> ((1 : Int32) &&& 31).toUInt32).toInt32) &&& (255 : Int32)).toUInt32.toUInt16.toUInt32.toInt32) else (47 : Int32))) = x9) (hq12 : (nar .char (if (x5 &&& (1 : Int32)) = (0 : Int32) then ((((x5.toUInt32 >>> ((1 : Int32) &&& 31).toUInt32).toInt32) &&& (255 : Int32)).toUInt32.toUInt16.toUInt32.toInt32) else (47 : Int32))) = x10) (f13 : Sta Z Z.heap "java/lang/String" "COMPACT_STRINGS" "Z" (.int x11)) (hc14 : ¬ (x11 = (0 : Int32))) (hc15 : ¬ ((255 : Int32) < (nar .char x6))) (hc16 : ¬ ((255 : Int32) < (nar .char x7))) (hc17 : ¬ ((255 : Int32) < (nar .char x8))) (hc18 : ¬ ((255 : Int32) < (nar .char x9))) (hq32 : (if x6 = (47 : Int32) then (0 : Int32) else (-1 : Int32)) = x12) (hq34 : (if x7 = (47 : Int32) then (1 : Int32) else x12) = x13) (hq36 : (if x8 = (47 : Int32) then (2 : Int32) else x13) = x14) (hq38 : (if x9 = (47 : Int32) then (3 : Int32) else x14) = x15) (hc39 : ¬ (((nar .char x7).toInt8.toInt32) = (47 : Int32))) (hc40 : ¬ (((nar .char x8).toInt8.toInt32) = (47 : Int32))) (hc41 : ¬ (((nar .char x9).toInt8.toInt32) = (47 : Int32))) (hc44 : ¬ ((0 : Int32) < x15)) :
    own_MH l x code maxLocals ret ws room_1 Z h0 #[(.int x0), (.int x1), (.int x2), (.int x3), (.int x4), (.int x5)] (Q0_8 Z x0 x1 x2 x3 x4 x5 x6 x7 x8 x9 x10 x11 x12 x13 x14 x15 h0 n0) := by
  have hEL : EW Z a0 consts_1 := own_EW hw
  refine own_openH hEL (plainFor_of_name pn_com_example_nearmiss_nearmiss_ElementParentPathPinLaw) (L0 := #[lI x0, lI x1, lI x2, lI x3, lI x4, lI x5, lU, lU, lU, lU, lU, lU, lU, lU, lU, lU]) (fun _ => by first | (simp [entryFrame, mkF, argsToLocals, Value.category, maxLocals]; done) | rfl) ?_
  intro p e s m below meth c s₁ hx hby hml hret hnn hZ hown X0 e0 R0
  have N0 := Fr.nil n0; have w := @ww Z a0 hw
  have hS1 := (State.WarmedH.refl s).since 0
  obtain ⟨_, T3, Lc3, X3, hQ3, st3⟩ := own_cS X0 hx hZ hown e0 (rm1_1 l Z a0 hw [] x1 h0 n0 O0) (w 1 rfl) (w 2 rfl) (w 3 rfl) (w 4 rfl) (by decide) (W := 0) (by decide) (by decide) (by decide) (by decide) (g := (mkF m 10 #[lI x0, lI x1, lI x2, lI x3, lI x4, lI x5, lV vI4, lU, lU, lU, lU, lU, lU, lU, lU, lU] [(.int x1)])) rfl (by rw [hml]; rfl) (argsL := [(.int x1)]) (rest := []) (lenOf pd__I_C rfl) rfl (own_W rfl) (hb hby at_10)
  obtain ⟨rfl, N3q, E3⟩ := hQ3
  have N3 := Fr.app N0 N3q
  obtain ⟨_, T5, Lc5, X5, hQ5, st5⟩ := own_cS X3 hx hZ hown E3 (rm1_1 l Z a0 hw [] x2 h0 n0 O0) (w 1 rfl) (w 2 rfl) (w 3 rfl) (w 4 rfl) (by decide) (W := 0) (by decide) (by decide) (by decide) (by decide) (g := (mkF m 16 #[lI x0, lI x1, lI x2, lI x3, lI x4, lI x5, lV vI4, lI x6, lU, lU, lU, lU, lU, lU, lU, lU] [(.int x2)])) rfl (by rw [hml]; rfl) (argsL := [(.int x2)]) (rest := []) (lenOf pd__I_C rfl) rfl (own_W rfl) (hb hby at_16)
  obtain ⟨rfl, N5q, E5⟩ := hQ5
  have N5 := Fr.app N3 N5q
  obtain ⟨_, T7, Lc7, X7, hQ7, st7⟩ := own_cS X5 hx hZ hown E5 (rm1_1 l Z a0 hw [] x3 h0 n0 O0) (w 1 rfl) (w 2 rfl) (w 3 rfl) (w 4 rfl) (by decide) (W := 0) (by decide) (by decide) (by decide) (by decide) (g := (mkF m 22 #[lI x0, lI x1, lI x2, lI x3, lI x4, lI x5, lV vI4, lI x6, lI x7, lU, lU, lU, lU, lU, lU, lU] [(.int x3)])) rfl (by rw [hml]; rfl) (argsL := [(.int x3)]) (rest := []) (lenOf pd__I_C rfl) rfl (own_W rfl) (hb hby at_22)
  obtain ⟨rfl, N7q, E7⟩ := hQ7
  have N7 := Fr.app N5 N7q
  obtain ⟨_, T9, Lc9, X9, hQ9, st9⟩ := own_cS X7 hx hZ hown E7 (rm1_1 l Z a0 hw [] x4 h0 n0 O0) (w 1 rfl) (w 2 rfl) (w 3 rfl) (w 4 rfl) (by decide) (W := 0) (by decide) (by decide) (by decide) (by decide) (g := (mkF m 29 #[lI x0, lI x1, lI x2, lI x3, lI x4, lI x5, lV vI4, lI x6, lI x7, lI x8, lU, lU, lU, lU, lU, lU] [(.int x4)])) rfl (by rw [hml]; rfl) (argsL := [(.int x4)]) (rest := []) (lenOf pd__I_C rfl) rfl (own_W rfl) (hb hby at_29)
  obtain ⟨rfl, N9q, E9⟩ := hQ9
  have N9 := Fr.app N7 N9q
  obtain ⟨_, T11, Lc11, X11, hQ11, st11⟩ := own_cS X9 hx hZ hown E9 (rm1_1 l Z a0 hw [] x5 h0 n0 O0) (w 1 rfl) (w 2 rfl) (w 3 rfl) (w 4 rfl) (by decide) (W := 0) (by decide) (by decide) (by decide) (by decide) (g := (mkF m 36 #[lI x0, lI x1, lI x2, lI x3, lI x4, lI x5, lV vI4, lI x6, lI x7, lI x8, lI x9, lU, lU, lU, lU, lU] [(.int x5)])) rfl (by rw [hml]; rfl) (argsL := [(.int x5)]) (rest := []) (lenOf pd__I_C rfl) rfl (own_W rfl) (hb hby at_36)
  obtain ⟨rfl, N11q, E11⟩ := hQ11
  have N11 := Fr.app N9 N11q
  obtain ⟨_, T19, Lc19, X19, hQ19, st19⟩ := own_cS X11 hx hZ hown E11 (rm2_5 l Z a0 hw [] x6 x7 x8 x9 x10 x11 h0 n0 O0 f13 hc14 hc15 hc16 hc17 hc18) (w 5 rfl) (w 6 rfl) (w 3 rfl) (w 7 rfl) (by decide) (W := 0) (by decide) (by decide) (by decide) (by decide) (g := (mkF m 53 #[lI x0, lI x1, lI x2, lI x3, lI x4, lI x5, lV vI4, lI x6, lI x7, lI x8, lI x9, lI x10, lU, lU, lU, lU] [(.int x10), (.int x9), (.int x8), (.int x7), (.int x6), vI4])) rfl (by rw [hml]; rfl) (argsL := [vI4, (.int x6), (.int x7), (.int x8), (.int x9), (.int x10)]) (rest := []) (lenOf pd__ICCCCC_Ljava_lang_String_ rfl) rfl (own_W rfl) (hb hby at_53)
  obtain ⟨b19_0, b19_1, k19_0, rfl, N19q, K19, f20, f21, f22, f23, f24, f25, f26, f27⟩ := hQ19
  have N19 := Fr.app N11 N19q
  have R28 := CHr.trans R0 (CHr.keep K19 sf0 R0.1)
  have sf29 : Safe Z consts_1 s.vm h0 b19_0 := Safe.new f20
  have sf30 : Safe Z consts_1 s.vm h0 b19_1 := Safe.new f24
  have dm31 : ∀ t, Steps p.tables e below (T19.setTop (mkF m 76 #[lI x0, lI x1, lI x2, lI x3, lI x4, lI x5, lV vI4, lI x6, lI x7, lI x8, lI x9, lI x10, lR b19_0, .val (.int (if x6 = (47 : Int32) then (0 : Int32) else (-1 : Int32))), lU, lU] [])) t → Steps p.tables e below (T19.setTop (mkF m 70 #[lI x0, lI x1, lI x2, lI x3, lI x4, lI x5, lV vI4, lI x6, lI x7, lI x8, lI x9, lI x10, lR b19_0, .val (.int (-1 : Int32)), lU, lU] [vI47, (.int x6)])) t := by
    intro t kk
    by_cases hd : x6 = (47 : Int32)
    · show SG p e below T19 (mkF m 70 #[lI x0, lI x1, lI x2, lI x3, lI x4, lI x5, lV vI4, lI x6, lI x7, lI x8, lI x9, lI x10, lR b19_0, .val (.int (-1 : Int32)), lU, lU] [vI47, (.int x6)]) _
      refine XS.icmpNo X19.here hx rfl (hb hby at_70) rfl (teq hd).2 ?_
      refine qc X19 hx hby at_73 ?_
      refine XS.istore X19.here hx rfl (hb hby at_74) rfl (l' := #[lI x0, lI x1, lI x2, lI x3, lI x4, lI x5, lV vI4, lI x6, lI x7, lI x8, lI x9, lI x10, lR b19_0, lV vI0, lU, lU]) rfl ?_
      simp only [if_pos hd] at kk
      exact kk
    · show SG p e below T19 (mkF m 70 #[lI x0, lI x1, lI x2, lI x3, lI x4, lI x5, lV vI4, lI x6, lI x7, lI x8, lI x9, lI x10, lR b19_0, .val (.int (-1 : Int32)), lU, lU] [vI47, (.int x6)]) _
      refine XS.icmpYes X19.here hx rfl (pc0 := 70) (pc' := 76) rfl (hb hby at_70) rfl (feq hd).2 (by decide) (by decide) ?_
      simp only [if_neg hd] at kk
      exact kk
  have dm33 : ∀ t, Steps p.tables e below (T19.setTop (mkF m 92 #[lI x0, lI x1, lI x2, lI x3, lI x4, lI x5, lV vI4, lI x6, lI x7, lI x8, lI x9, lI x10, lR b19_0, .val (.int (if x7 = (47 : Int32) then (1 : Int32) else x12)), lU, lU] [])) t → Steps p.tables e below (T19.setTop (mkF m 86 #[lI x0, lI x1, lI x2, lI x3, lI x4, lI x5, lV vI4, lI x6, lI x7, lI x8, lI x9, lI x10, lR b19_0, lI x12, lU, lU] [vI47, (.int x7)])) t := by
    intro t kk
    by_cases hd : x7 = (47 : Int32)
    · show SG p e below T19 (mkF m 86 #[lI x0, lI x1, lI x2, lI x3, lI x4, lI x5, lV vI4, lI x6, lI x7, lI x8, lI x9, lI x10, lR b19_0, lI x12, lU, lU] [vI47, (.int x7)]) _
      refine XS.icmpNo X19.here hx rfl (hb hby at_86) rfl (teq hd).2 ?_
      refine qc X19 hx hby at_89 ?_
      refine XS.istore X19.here hx rfl (hb hby at_90) rfl (l' := #[lI x0, lI x1, lI x2, lI x3, lI x4, lI x5, lV vI4, lI x6, lI x7, lI x8, lI x9, lI x10, lR b19_0, lV vI1, lU, lU]) rfl ?_
      simp only [if_pos hd] at kk
      exact kk
    · show SG p e below T19 (mkF m 86 #[lI x0, lI x1, lI x2, lI x3, lI x4, lI x5, lV vI4, lI x6, lI x7, lI x8, lI x9, lI x10, lR b19_0, lI x12, lU, lU] [vI47, (.int x7)]) _
      refine XS.icmpYes X19.here hx rfl (pc0 := 86) (pc' := 92) rfl (hb hby at_86) rfl (feq hd).2 (by decide) (by decide) ?_
      simp only [if_neg hd] at kk
      exact kk
  have dm35 : ∀ t, Steps p.tables e below (T19.setTop (mkF m 108 #[lI x0, lI x1, lI x2, lI x3, lI x4, lI x5, lV vI4, lI x6, lI x7, lI x8, lI x9, lI x10, lR b19_0, .val (.int (if x8 = (47 : Int32) then (2 : Int32) else x13)), lU, lU] [])) t → Steps p.tables e below (T19.setTop (mkF m 102 #[lI x0, lI x1, lI x2, lI x3, lI x4, lI x5, lV vI4, lI x6, lI x7, lI x8, lI x9, lI x10, lR b19_0, lI x13, lU, lU] [vI47, (.int x8)])) t := by
    intro t kk
    by_cases hd : x8 = (47 : Int32)
    · show SG p e below T19 (mkF m 102 #[lI x0, lI x1, lI x2, lI x3, lI x4, lI x5, lV vI4, lI x6, lI x7, lI x8, lI x9, lI x10, lR b19_0, lI x13, lU, lU] [vI47, (.int x8)]) _
      refine XS.icmpNo X19.here hx rfl (hb hby at_102) rfl (teq hd).2 ?_
      refine qc X19 hx hby at_105 ?_
      refine XS.istore X19.here hx rfl (hb hby at_106) rfl (l' := #[lI x0, lI x1, lI x2, lI x3, lI x4, lI x5, lV vI4, lI x6, lI x7, lI x8, lI x9, lI x10, lR b19_0, lV vI2, lU, lU]) rfl ?_
      simp only [if_pos hd] at kk
      exact kk
    · show SG p e below T19 (mkF m 102 #[lI x0, lI x1, lI x2, lI x3, lI x4, lI x5, lV vI4, lI x6, lI x7, lI x8, lI x9, lI x10, lR b19_0, lI x13, lU, lU] [vI47, (.int x8)]) _
      refine XS.icmpYes X19.here hx rfl (pc0 := 102) (pc' := 108) rfl (hb hby at_102) rfl (feq hd).2 (by decide) (by decide) ?_
      simp only [if_neg hd] at kk
      exact kk
  have dm37 : ∀ t, Steps p.tables e below (T19.setTop (mkF m 124 #[lI x0, lI x1, lI x2, lI x3, lI x4, lI x5, lV vI4, lI x6, lI x7, lI x8, lI x9, lI x10, lR b19_0, .val (.int (if x9 = (47 : Int32) then (3 : Int32) else x14)), lU, lU] [])) t → Steps p.tables e below (T19.setTop (mkF m 118 #[lI x0, lI x1, lI x2, lI x3, lI x4, lI x5, lV vI4, lI x6, lI x7, lI x8, lI x9, lI x10, lR b19_0, lI x14, lU, lU] [vI47, (.int x9)])) t := by
    intro t kk
    by_cases hd : x9 = (47 : Int32)
    · show SG p e below T19 (mkF m 118 #[lI x0, lI x1, lI x2, lI x3, lI x4, lI x5, lV vI4, lI x6, lI x7, lI x8, lI x9, lI x10, lR b19_0, lI x14, lU, lU] [vI47, (.int x9)]) _
      refine XS.icmpNo X19.here hx rfl (hb hby at_118) rfl (teq hd).2 ?_
      refine qc X19 hx hby at_121 ?_
      refine XS.istore X19.here hx rfl (hb hby at_122) rfl (l' := #[lI x0, lI x1, lI x2, lI x3, lI x4, lI x5, lV vI4, lI x6, lI x7, lI x8, lI x9, lI x10, lR b19_0, lV vI3, lU, lU]) rfl ?_
      simp only [if_pos hd] at kk
      exact kk
    · show SG p e below T19 (mkF m 118 #[lI x0, lI x1, lI x2, lI x3, lI x4, lI x5, lV vI4, lI x6, lI x7, lI x8, lI x9, lI x10, lR b19_0, lI x14, lU, lU] [vI47, (.int x9)]) _
      refine XS.icmpYes X19.here hx rfl (pc0 := 118) (pc' := 124) rfl (hb hby at_118) rfl (feq hd).2 (by decide) (by decide) ?_
      simp only [if_neg hd] at kk
      exact kk
  have o42 := Old.keep O0 K19 all0
  obtain ⟨_, T43, Lc43, X43, hQ43, st43⟩ := own_cS X19 hx hZ hown rfl (rm6_7 l Z a0 hw [] b19_0 b19_1 k19_0 ((nar .char x6).toInt8.toInt32) ((nar .char x7).toInt8.toInt32) ((nar .char x8).toInt8.toInt32) ((nar .char x9).toInt8.toInt32) x11 T19.heap n0 o42 f23 f25 f21 f13 hc14 f22 hc39 hc40 hc41) (w 30 rfl) (w 31 rfl) (w 32 rfl) (w 33 rfl) (by decide) (W := 0) (by decide) (by decide) (by decide) (by decide) (g := (mkF m 142 #[lI x0, lI x1, lI x2, lI x3, lI x4, lI x5, lV vI4, lI x6, lI x7, lI x8, lI x9, lI x10, lR b19_0, lI x15, lU, lU] [(.ref b19_0)])) rfl (by rw [hml]; rfl) (argsL := [(.ref b19_0)]) (rest := []) (lenOf pd__Ljava_lang_String__Ljava_lang_String_ rfl) rfl (own_W rfl) (hb hby at_142)
  obtain ⟨rfl, N43q, E43⟩ := hQ43
  have N43 := Fr.app N19 N43q
  refine ⟨some vI1, _, _, _, _, _, _, _, nofun, X43, by decide, by decide, hS1, (by rw [E43]; exact (Nat.zero_le _)), hZ, E43, R28, ?_, fun fs hr => ?_⟩
  · rw [E43]; exact ⟨rfl, N43⟩
  · show SG p e below s₁ (mkF m 0 #[lI x0, lI x1, lI x2, lI x3, lI x4, lI x5, lU, lU, lU, lU, lU, lU, lU, lU, lU, lU] []) _
    refine qiN X0 hx hby at_0 ?_
    refine X0.ldcInt hx hown (mvT hZ (w 0 rfl)) (g := (mkF m 1 #[lI x0, lI x1, lI x2, lI x3, lI x4, lI x5, lU, lU, lU, lU, lU, lU, lU, lU, lU, lU] [(.int x0)])) rfl (hb hby at_1) _ ?_
    show SG p e below s₁ (mkF m 3 #[lI x0, lI x1, lI x2, lI x3, lI x4, lI x5, lU, lU, lU, lU, lU, lU, lU, lU, lU, lU] [vI2147483647, (.int x0)]) _
    refine XS.iand X0.here hx rfl (hb hby at_3) rfl ?_
    refine qb X0 hx hby at_4 ?_
    refine iremM (g := (mkF m 6 #[lI x0, lI x1, lI x2, lI x3, lI x4, lI x5, lU, lU, lU, lU, lU, lU, lU, lU, lU, lU] [vI6, (.int (x0 &&& (2147483647 : Int32)))])) X0 hx rfl (hb hby at_6) rfl (by decide : ¬ ((6 : Int32) = (0 : Int32))) ?_
    show SG p e below s₁ (mkF m 7 #[lI x0, lI x1, lI x2, lI x3, lI x4, lI x5, lU, lU, lU, lU, lU, lU, lU, lU, lU, lU] [(.int ((x0 &&& (2147483647 : Int32)) % (6 : Int32)))]) _
    rw [hc2]
    show SG p e below s₁ (mkF m 7 #[lI x0, lI x1, lI x2, lI x3, lI x4, lI x5, lU, lU, lU, lU, lU, lU, lU, lU, lU, lU] [vI4]) _
    refine XS.istore X0.here hx rfl (hb hby at_7) rfl (l' := #[lI x0, lI x1, lI x2, lI x3, lI x4, lI x5, lV vI4, lU, lU, lU, lU, lU, lU, lU, lU, lU]) rfl ?_
    refine qiN X0 hx hby at_9 ?_
    refine st3 _ ?_
    show SG p e below T3 (mkF m 13 #[lI x0, lI x1, lI x2, lI x3, lI x4, lI x5, lV vI4, lU, lU, lU, lU, lU, lU, lU, lU, lU] [(.int (nar .char (if (x1 &&& (1 : Int32)) = (0 : Int32) then ((((x1.toUInt32 >>> ((1 : Int32) &&& 31).toUInt32).toInt32) &&& (255 : Int32)).toUInt32.toUInt16.toUInt32.toInt32) else (47 : Int32))))]) _
    rw [hq4]
    show SG p e below T3 (mkF m 13 #[lI x0, lI x1, lI x2, lI x3, lI x4, lI x5, lV vI4, lU, lU, lU, lU, lU, lU, lU, lU, lU] [(.int x6)]) _
    refine XS.istore X3.here hx rfl (hb hby at_13) rfl (l' := #[lI x0, lI x1, lI x2, lI x3, lI x4, lI x5, lV vI4, lI x6, lU, lU, lU, lU, lU, lU, lU, lU]) rfl ?_
    refine qiN X3 hx hby at_15 ?_
    refine st5 _ ?_
    show SG p e below T5 (mkF m 19 #[lI x0, lI x1, lI x2, lI x3, lI x4, lI x5, lV vI4, lI x6, lU, lU, lU, lU, lU, lU, lU, lU] [(.int (nar .char (if (x2 &&& (1 : Int32)) = (0 : Int32) then ((((x2.toUInt32 >>> ((1 : Int32) &&& 31).toUInt32).toInt32) &&& (255 : Int32)).toUInt32.toUInt16.toUInt32.toInt32) else (47 : Int32))))]) _
    rw [hq6]
    show SG p e below T5 (mkF m 19 #[lI x0, lI x1, lI x2, lI x3, lI x4, lI x5, lV vI4, lI x6, lU, lU, lU, lU, lU, lU, lU, lU] [(.int x7)]) _
    refine XS.istore X5.here hx rfl (hb hby at_19) rfl (l' := #[lI x0, lI x1, lI x2, lI x3, lI x4, lI x5, lV vI4, lI x6, lI x7, lU, lU, lU, lU, lU, lU, lU]) rfl ?_
    refine qiN X5 hx hby at_21 ?_
    refine st7 _ ?_
    show SG p e below T7 (mkF m 25 #[lI x0, lI x1, lI x2, lI x3, lI x4, lI x5, lV vI4, lI x6, lI x7, lU, lU, lU, lU, lU, lU, lU] [(.int (nar .char (if (x3 &&& (1 : Int32)) = (0 : Int32) then ((((x3.toUInt32 >>> ((1 : Int32) &&& 31).toUInt32).toInt32) &&& (255 : Int32)).toUInt32.toUInt16.toUInt32.toInt32) else (47 : Int32))))]) _
    rw [hq8]
    show SG p e below T7 (mkF m 25 #[lI x0, lI x1, lI x2, lI x3, lI x4, lI x5, lV vI4, lI x6, lI x7, lU, lU, lU, lU, lU, lU, lU] [(.int x8)]) _
    refine XS.istore X7.here hx rfl (hb hby at_25) rfl (l' := #[lI x0, lI x1, lI x2, lI x3, lI x4, lI x5, lV vI4, lI x6, lI x7, lI x8, lU, lU, lU, lU, lU, lU]) rfl ?_
    refine qi X7 hx hby at_27 ?_
    refine st9 _ ?_
    show SG p e below T9 (mkF m 32 #[lI x0, lI x1, lI x2, lI x3, lI x4, lI x5, lV vI4, lI x6, lI x7, lI x8, lU, lU, lU, lU, lU, lU] [(.int (nar .char (if (x4 &&& (1 : Int32)) = (0 : Int32) then ((((x4.toUInt32 >>> ((1 : Int32) &&& 31).toUInt32).toInt32) &&& (255 : Int32)).toUInt32.toUInt16.toUInt32.toInt32) else (47 : Int32))))]) _
    rw [hq10]
    show SG p e below T9 (mkF m 32 #[lI x0, lI x1, lI x2, lI x3, lI x4, lI x5, lV vI4, lI x6, lI x7, lI x8, lU, lU, lU, lU, lU, lU] [(.int x9)]) _
    refine XS.istore X9.here hx rfl (hb hby at_32) rfl (l' := #[lI x0, lI x1, lI x2, lI x3, lI x4, lI x5, lV vI4, lI x6, lI x7, lI x8, lI x9, lU, lU, lU, lU, lU]) rfl ?_
    refine qi X9 hx hby at_34 ?_
    refine st11 _ ?_
    show SG p e below T11 (mkF m 39 #[lI x0, lI x1, lI x2, lI x3, lI x4, lI x5, lV vI4, lI x6, lI x7, lI x8, lI x9, lU, lU, lU, lU, lU] [(.int (nar .char (if (x5 &&& (1 : Int32)) = (0 : Int32) then ((((x5.toUInt32 >>> ((1 : Int32) &&& 31).toUInt32).toInt32) &&& (255 : Int32)).toUInt32.toUInt16.toUInt32.toInt32) else (47 : Int32))))]) _
    rw [hq12]
    show SG p e below T11 (mkF m 39 #[lI x0, lI x1, lI x2, lI x3, lI x4, lI x5, lV vI4, lI x6, lI x7, lI x8, lI x9, lU, lU, lU, lU, lU] [(.int x10)]) _
    refine XS.istore X11.here hx rfl (hb hby at_39) rfl (l' := #[lI x0, lI x1, lI x2, lI x3, lI x4, lI x5, lV vI4, lI x6, lI x7, lI x8, lI x9, lI x10, lU, lU, lU, lU]) rfl ?_
    refine qi X11 hx hby at_41 ?_
    refine qi X11 hx hby at_43 ?_
    refine qi X11 hx hby at_45 ?_
    refine qi X11 hx hby at_47 ?_
    refine qi X11 hx hby at_49 ?_
    refine qi X11 hx hby at_51 ?_
    refine st19 _ ?_
    show SG p e below T19 (mkF m 56 #[lI x0, lI x1, lI x2, lI x3, lI x4, lI x5, lV vI4, lI x6, lI x7, lI x8, lI x9, lI x10, lU, lU, lU, lU] [(.ref b19_0)]) _
    refine XS.astore X19.here hx rfl (hb hby at_56) rfl rfl (l' := #[lI x0, lI x1, lI x2, lI x3, lI x4, lI x5, lV vI4, lI x6, lI x7, lI x8, lI x9, lI x10, lR b19_0, lU, lU, lU]) rfl ?_
    refine qc X19 hx hby at_58 ?_
    refine XS.istore X19.here hx rfl (hb hby at_59) rfl (l' := #[lI x0, lI x1, lI x2, lI x3, lI x4, lI x5, lV vI4, lI x6, lI x7, lI x8, lI x9, lI x10, lR b19_0, .val (.int (-1 : Int32)), lU, lU]) rfl ?_
    refine qi X19 hx hby at_61 ?_
    refine XS.ifNo X19.here hx rfl (hb hby at_63) rfl ((if0 _ _).trans (tlt (by decide : (0 : Int32) < (4 : Int32))).2.2.2) ?_
    refine qi X19 hx hby at_66 ?_
    refine qb X19 hx hby at_68 ?_
    show SG p e below T19 (mkF m 70 #[lI x0, lI x1, lI x2, lI x3, lI x4, lI x5, lV vI4, lI x6, lI x7, lI x8, lI x9, lI x10, lR b19_0, .val (.int (-1 : Int32)), lU, lU] [vI47, (.int x6)]) _
    refine dm31 _ ?_
    show SG p e below T19 (mkF m 76 #[lI x0, lI x1, lI x2, lI x3, lI x4, lI x5, lV vI4, lI x6, lI x7, lI x8, lI x9, lI x10, lR b19_0, .val (.int (if x6 = (47 : Int32) then (0 : Int32) else (-1 : Int32))), lU, lU] []) _
    rw [hq32]
    show SG p e below T19 (mkF m 76 #[lI x0, lI x1, lI x2, lI x3, lI x4, lI x5, lV vI4, lI x6, lI x7, lI x8, lI x9, lI x10, lR b19_0, lI x12, lU, lU] []) _
    refine qi X19 hx hby at_76 ?_
    refine qc X19 hx hby at_78 ?_
    refine XS.icmpNo X19.here hx rfl (hb hby at_79) rfl (tlt (by decide : (1 : Int32) < (4 : Int32))).2.2.2 ?_
    refine qi X19 hx hby at_82 ?_
    refine qb X19 hx hby at_84 ?_
    show SG p e below T19 (mkF m 86 #[lI x0, lI x1, lI x2, lI x3, lI x4, lI x5, lV vI4, lI x6, lI x7, lI x8, lI x9, lI x10, lR b19_0, lI x12, lU, lU] [vI47, (.int x7)]) _
    refine dm33 _ ?_
    show SG p e below T19 (mkF m 92 #[lI x0, lI x1, lI x2, lI x3, lI x4, lI x5, lV vI4, lI x6, lI x7, lI x8, lI x9, lI x10, lR b19_0, .val (.int (if x7 = (47 : Int32) then (1 : Int32) else x12)), lU, lU] []) _
    rw [hq34]
    show SG p e below T19 (mkF m 92 #[lI x0, lI x1, lI x2, lI x3, lI x4, lI x5, lV vI4, lI x6, lI x7, lI x8, lI x9, lI x10, lR b19_0, lI x13, lU, lU] []) _
    refine qi X19 hx hby at_92 ?_
    refine qc X19 hx hby at_94 ?_
    refine XS.icmpNo X19.here hx rfl (hb hby at_95) rfl (tlt (by decide : (2 : Int32) < (4 : Int32))).2.2.2 ?_
    refine qi X19 hx hby at_98 ?_
    refine qb X19 hx hby at_100 ?_
    show SG p e below T19 (mkF m 102 #[lI x0, lI x1, lI x2, lI x3, lI x4, lI x5, lV vI4, lI x6, lI x7, lI x8, lI x9, lI x10, lR b19_0, lI x13, lU, lU] [vI47, (.int x8)]) _
    refine dm35 _ ?_
    show SG p e below T19 (mkF m 108 #[lI x0, lI x1, lI x2, lI x3, lI x4, lI x5, lV vI4, lI x6, lI x7, lI x8, lI x9, lI x10, lR b19_0, .val (.int (if x8 = (47 : Int32) then (2 : Int32) else x13)), lU, lU] []) _
    rw [hq36]
    show SG p e below T19 (mkF m 108 #[lI x0, lI x1, lI x2, lI x3, lI x4, lI x5, lV vI4, lI x6, lI x7, lI x8, lI x9, lI x10, lR b19_0, lI x14, lU, lU] []) _
    refine qi X19 hx hby at_108 ?_
    refine qc X19 hx hby at_110 ?_
    refine XS.icmpNo X19.here hx rfl (hb hby at_111) rfl (tlt (by decide : (3 : Int32) < (4 : Int32))).2.2.2 ?_
    refine qi X19 hx hby at_114 ?_
    refine qb X19 hx hby at_116 ?_
    show SG p e below T19 (mkF m 118 #[lI x0, lI x1, lI x2, lI x3, lI x4, lI x5, lV vI4, lI x6, lI x7, lI x8, lI x9, lI x10, lR b19_0, lI x14, lU, lU] [vI47, (.int x9)]) _
    refine dm37 _ ?_
    show SG p e below T19 (mkF m 124 #[lI x0, lI x1, lI x2, lI x3, lI x4, lI x5, lV vI4, lI x6, lI x7, lI x8, lI x9, lI x10, lR b19_0, .val (.int (if x9 = (47 : Int32) then (3 : Int32) else x14)), lU, lU] []) _
    rw [hq38]
    show SG p e below T19 (mkF m 124 #[lI x0, lI x1, lI x2, lI x3, lI x4, lI x5, lV vI4, lI x6, lI x7, lI x8, lI x9, lI x10, lR b19_0, lI x15, lU, lU] []) _
    refine qi X19 hx hby at_124 ?_
    refine qc X19 hx hby at_126 ?_
    refine XS.icmpYes X19.here hx rfl (pc0 := 127) (pc' := 140) rfl (hb hby at_127) rfl (flt (by decide : ¬ ((4 : Int32) < (4 : Int32)))).2.2.2 (by decide) (by decide) ?_
    show SG p e below T19 (mkF m 140 #[lI x0, lI x1, lI x2, lI x3, lI x4, lI x5, lV vI4, lI x6, lI x7, lI x8, lI x9, lI x10, lR b19_0, lI x15, lU, lU] []) _
    refine qa X19 hx hby at_140 ?_
    refine st43 _ ?_
    show SG p e below T43 (mkF m 145 #[lI x0, lI x1, lI x2, lI x3, lI x4, lI x5, lV vI4, lI x6, lI x7, lI x8, lI x9, lI x10, lR b19_0, lI x15, lU, lU] [.null]) _
    refine XS.astore X43.here hx rfl (hb hby at_145) rfl rfl (l' := #[lI x0, lI x1, lI x2, lI x3, lI x4, lI x5, lV vI4, lI x6, lI x7, lI x8, lI x9, lI x10, lR b19_0, lI x15, .val .null, lU]) rfl ?_
    refine qi X43 hx hby at_147 ?_
    refine XS.ifNo X43.here hx rfl (hb hby at_149) rfl ((if0 _ _).trans (flt hc44).2.2.1) ?_
    refine qa X43 hx hby at_152 ?_
    refine XS.ifnonnullNo X43.here hx rfl (hb hby at_154) rfl ?_
    refine qc X43 hx hby at_157 ?_
    refine XS.goto X43.here hx rfl (pc0 := 158) (pc' := 162) rfl (hb hby at_158) (by decide) (by decide) ?_
    show SG p e below T43 (mkF m 162 #[lI x0, lI x1, lI x2, lI x3, lI x4, lI x5, lV vI4, lI x6, lI x7, lI x8, lI x9, lI x10, lR b19_0, lI x15, .val .null, lU] [vI1]) _
    exact retN X43 hx (t := .boolean) hret (by simp) (hb hby at_162) hr
def Q0_9 (Z : State) (x0 x1 : Int32) (x2 x3 : Int32) (x4 x5 : Int32) (x6 x7 : Int32) (x8 x9 : Int32) (x10 x11 : Int32) (x12 x13 : Int32) (x14 x15 : Int32) (u16 : Value) (h0 : Heap) (n0 : Nat) (v : Option Value) (h : Heap) (L : List Loc) : Prop := v = some vI1 ∧ Fr n0 L
theorem rm0_9 (l : Launch) (Z : State) (a0 : Array Value) (hw : own_HW a0 Z) (ws : List Jvm.Cond) (x0 x1 : Int32) (x2 x3 : Int32) (x4 x5 : Int32) (x6 x7 : Int32) (x8 x9 : Int32) (x10 x11 : Int32) (x12 x13 : Int32) (x14 x15 : Int32) (u16 : Value) (h0 : Heap) (n0 : Nat) (O0 : Old Z n0 h0) (hc2 : ((x0 &&& (2147483647 : Int32)) % (6 : Int32)) = (4 : Int32)) (hq4 : (nar .char (if (x1 &&& (1 : Int32)) = (0 : Int32) then ((((x1.toUInt32 >>> ((1 : Int32) &&& 31).toUInt32).toInt32) &&& (255 : Int32)).toUInt32.toUInt16.toUInt32.toInt32) else (47 : Int32))) = x6) (hq6 : (nar .char (if (x2 &&& (1 : Int32)) = (0 : Int32) then ((((x2.toUInt32 >>> ((1 : Int32) &&& 31).toUInt32).toInt32) &&& (255 : Int32)).toUInt32.toUInt16.toUInt32.toInt32) else (47 : Int32))) = x7) (hq8 : (nar .char (if (x3 &&& (1 : Int32)) = (0 : Int32) then ((((x3.toUInt32 >>> ((1 : Int32) &&& 31).toUInt32).toInt32) &&& (255 : Int32)).toUInt32.toUInt16.toUInt32.toInt32) else (47 : Int32))) = x8) (hq10 : (nar .char (if (x4 &&& (1 : Int32)) = (0 : Int32) then ((((x4.toUInt32 >>> ((1 : Int32) &&& 31).toUInt32).toInt32) &&& (255 : Int32)).toUInt32.toUInt16.toUInt32.toInt32) else (47 : Int32))) = x9) (hq12 : (nar .char (if (x5 &&& (1 : Int32)) = (0 : Int32) then ((((x5.toUInt32 >>> ((1 : Int32) &&& 31).toUInt32).toInt32) &&& (255 : Int32)).toUInt32.toUInt16.toUInt32.toInt32) else (47 : Int32))) = x10) (f13 : Sta Z Z.heap "java/lang/String" "COMPACT_STRINGS" "Z" (.int x11)) (hc14 : ¬ (x11 = (0 : Int32))) (hc15 : ¬ ((255 : Int32) < (nar .char x6))) (hc16 : ¬ ((255 : Int32) < (nar .char x7))) (hc17 : ¬ ((255 : Int32) < (nar .char x8))) (hc18 : ¬ ((255 : Int32) < (nar .char x9))) (hq32 : (if x6 = (47 : Int32) then (0 : Int32) else (-1 : Int32)) = x12) (hq34 : (if x7 = (47 : Int32) then (1 : Int32) else x12) = x13) (hq36 : (if x8 = (47 : Int32) then (2 : Int32) else x13) = x14) (hq38 : (if x9 = (47 : Int32) then (3 : Int32) else x14) = x15) (hc39 : ¬ (((nar .char x8).toInt8.toInt32) = (47 : Int32))) (hc40 : ¬ (((nar .char x9).toInt8.toInt32) = (47 : Int32))) (hc41 : ((nar .char x7).toInt8.toInt32) = (47 : Int32)) (f42 : Sta Z Z.heap cs4 "SIOOBE_FORMATTER" cs5 u16) (hc43 : u16.isRef = true) (hc57 : x15 = (1 : Int32)) :
    own_MH l x code maxLocals ret ws room_1 Z h0 #[(.int x0), (.int x1), (.int x2), (.int x3), (.int x4), (.int x5)] (Q0_9 Z x0 x1 x2 x3 x4 x5 x6 x7 x8 x9 x10 x11 x12 x13 x14 x15 u16 h0 n0) := by
  have hEL : EW Z a0 consts_1 := own_EW hw
  refine own_openH hEL (plainFor_of_name pn_com_example_nearmiss_nearmiss_ElementParentPathPinLaw) (L0 := #[lI x0, lI x1, lI x2, lI x3, lI x4, lI x5, lU, lU, lU, lU, lU, lU, lU, lU, lU, lU]) (fun _ => by first | (simp [entryFrame, mkF, argsToLocals, Value.category, maxLocals]; done) | rfl) ?_
  intro p e s m below meth c s₁ hx hby hml hret hnn hZ hown X0 e0 R0
  have N0 := Fr.nil n0; have w := @ww Z a0 hw
  have hS1 := (State.WarmedH.refl s).since 0
  obtain ⟨_, T3, Lc3, X3, hQ3, st3⟩ := own_cS X0 hx hZ hown e0 (rm1_1 l Z a0 hw [] x1 h0 n0 O0) (w 1 rfl) (w 2 rfl) (w 3 rfl) (w 4 rfl) (by decide) (W := 0) (by decide) (by decide) (by decide) (by decide) (g := (mkF m 10 #[lI x0, lI x1, lI x2, lI x3, lI x4, lI x5, lV vI4, lU, lU, lU, lU, lU, lU, lU, lU, lU] [(.int x1)])) rfl (by rw [hml]; rfl) (argsL := [(.int x1)]) (rest := []) (lenOf pd__I_C rfl) rfl (own_W rfl) (hb hby at_10)
  obtain ⟨rfl, N3q, E3⟩ := hQ3
  have N3 := Fr.app N0 N3q
  obtain ⟨_, T5, Lc5, X5, hQ5, st5⟩ := own_cS X3 hx hZ hown E3 (rm1_1 l Z a0 hw [] x2 h0 n0 O0) (w 1 rfl) (w 2 rfl) (w 3 rfl) (w 4 rfl) (by decide) (W := 0) (by decide) (by decide) (by decide) (by decide) (g := (mkF m 16 #[lI x0, lI x1, lI x2, lI x3, lI x4, lI x5, lV vI4, lI x6, lU, lU, lU, lU, lU, lU, lU, lU] [(.int x2)])) rfl (by rw [hml]; rfl) (argsL := [(.int x2)]) (rest := []) (lenOf pd__I_C rfl) rfl (own_W rfl) (hb hby at_16)
  obtain ⟨rfl, N5q, E5⟩ := hQ5
  have N5 := Fr.app N3 N5q
  obtain ⟨_, T7, Lc7, X7, hQ7, st7⟩ := own_cS X5 hx hZ hown E5 (rm1_1 l Z a0 hw [] x3 h0 n0 O0) (w 1 rfl) (w 2 rfl) (w 3 rfl) (w 4 rfl) (by decide) (W := 0) (by decide) (by decide) (by decide) (by decide) (g := (mkF m 22 #[lI x0, lI x1, lI x2, lI x3, lI x4, lI x5, lV vI4, lI x6, lI x7, lU, lU, lU, lU, lU, lU, lU] [(.int x3)])) rfl (by rw [hml]; rfl) (argsL := [(.int x3)]) (rest := []) (lenOf pd__I_C rfl) rfl (own_W rfl) (hb hby at_22)
  obtain ⟨rfl, N7q, E7⟩ := hQ7
  have N7 := Fr.app N5 N7q
  obtain ⟨_, T9, Lc9, X9, hQ9, st9⟩ := own_cS X7 hx hZ hown E7 (rm1_1 l Z a0 hw [] x4 h0 n0 O0) (w 1 rfl) (w 2 rfl) (w 3 rfl) (w 4 rfl) (by decide) (W := 0) (by decide) (by decide) (by decide) (by decide) (g := (mkF m 29 #[lI x0, lI x1, lI x2, lI x3, lI x4, lI x5, lV vI4, lI x6, lI x7, lI x8, lU, lU, lU, lU, lU, lU] [(.int x4)])) rfl (by rw [hml]; rfl) (argsL := [(.int x4)]) (rest := []) (lenOf pd__I_C rfl) rfl (own_W rfl) (hb hby at_29)
  obtain ⟨rfl, N9q, E9⟩ := hQ9
  have N9 := Fr.app N7 N9q
  obtain ⟨_, T11, Lc11, X11, hQ11, st11⟩ := own_cS X9 hx hZ hown E9 (rm1_1 l Z a0 hw [] x5 h0 n0 O0) (w 1 rfl) (w 2 rfl) (w 3 rfl) (w 4 rfl) (by decide) (W := 0) (by decide) (by decide) (by decide) (by decide) (g := (mkF m 36 #[lI x0, lI x1, lI x2, lI x3, lI x4, lI x5, lV vI4, lI x6, lI x7, lI x8, lI x9, lU, lU, lU, lU, lU] [(.int x5)])) rfl (by rw [hml]; rfl) (argsL := [(.int x5)]) (rest := []) (lenOf pd__I_C rfl) rfl (own_W rfl) (hb hby at_36)
  obtain ⟨rfl, N11q, E11⟩ := hQ11
  have N11 := Fr.app N9 N11q
  obtain ⟨_, T19, Lc19, X19, hQ19, st19⟩ := own_cS X11 hx hZ hown E11 (rm2_5 l Z a0 hw [] x6 x7 x8 x9 x10 x11 h0 n0 O0 f13 hc14 hc15 hc16 hc17 hc18) (w 5 rfl) (w 6 rfl) (w 3 rfl) (w 7 rfl) (by decide) (W := 0) (by decide) (by decide) (by decide) (by decide) (g := (mkF m 53 #[lI x0, lI x1, lI x2, lI x3, lI x4, lI x5, lV vI4, lI x6, lI x7, lI x8, lI x9, lI x10, lU, lU, lU, lU] [(.int x10), (.int x9), (.int x8), (.int x7), (.int x6), vI4])) rfl (by rw [hml]; rfl) (argsL := [vI4, (.int x6), (.int x7), (.int x8), (.int x9), (.int x10)]) (rest := []) (lenOf pd__ICCCCC_Ljava_lang_String_ rfl) rfl (own_W rfl) (hb hby at_53)
  obtain ⟨b19_0, b19_1, k19_0, rfl, N19q, K19, f20, f21, f22, f23, f24, f25, f26, f27⟩ := hQ19
  have N19 := Fr.app N11 N19q
  have R28 := CHr.trans R0 (CHr.keep K19 sf0 R0.1)
  have sf29 : Safe Z consts_1 s.vm h0 b19_0 := Safe.new f20
  have sf30 : Safe Z consts_1 s.vm h0 b19_1 := Safe.new f24
  have dm31 : ∀ t, Steps p.tables e below (T19.setTop (mkF m 76 #[lI x0, lI x1, lI x2, lI x3, lI x4, lI x5, lV vI4, lI x6, lI x7, lI x8, lI x9, lI x10, lR b19_0, .val (.int (if x6 = (47 : Int32) then (0 : Int32) else (-1 : Int32))), lU, lU] [])) t → Steps p.tables e below (T19.setTop (mkF m 70 #[lI x0, lI x1, lI x2, lI x3, lI x4, lI x5, lV vI4, lI x6, lI x7, lI x8, lI x9, lI x10, lR b19_0, .val (.int (-1 : Int32)), lU, lU] [vI47, (.int x6)])) t := by
    intro t kk
    by_cases hd : x6 = (47 : Int32)
    · show SG p e below T19 (mkF m 70 #[lI x0, lI x1, lI x2, lI x3, lI x4, lI x5, lV vI4, lI x6, lI x7, lI x8, lI x9, lI x10, lR b19_0, .val (.int (-1 : Int32)), lU, lU] [vI47, (.int x6)]) _
      refine XS.icmpNo X19.here hx rfl (hb hby at_70) rfl (teq hd).2 ?_
      refine qc X19 hx hby at_73 ?_
      refine XS.istore X19.here hx rfl (hb hby at_74) rfl (l' := #[lI x0, lI x1, lI x2, lI x3, lI x4, lI x5, lV vI4, lI x6, lI x7, lI x8, lI x9, lI x10, lR b19_0, lV vI0, lU, lU]) rfl ?_
      simp only [if_pos hd] at kk
      exact kk
    · show SG p e below T19 (mkF m 70 #[lI x0, lI x1, lI x2, lI x3, lI x4, lI x5, lV vI4, lI x6, lI x7, lI x8, lI x9, lI x10, lR b19_0, .val (.int (-1 : Int32)), lU, lU] [vI47, (.int x6)]) _
      refine XS.icmpYes X19.here hx rfl (pc0 := 70) (pc' := 76) rfl (hb hby at_70) rfl (feq hd).2 (by decide) (by decide) ?_
      simp only [if_neg hd] at kk
      exact kk
  have dm33 : ∀ t, Steps p.tables e below (T19.setTop (mkF m 92 #[lI x0, lI x1, lI x2, lI x3, lI x4, lI x5, lV vI4, lI x6, lI x7, lI x8, lI x9, lI x10, lR b19_0, .val (.int (if x7 = (47 : Int32) then (1 : Int32) else x12)), lU, lU] [])) t → Steps p.tables e below (T19.setTop (mkF m 86 #[lI x0, lI x1, lI x2, lI x3, lI x4, lI x5, lV vI4, lI x6, lI x7, lI x8, lI x9, lI x10, lR b19_0, lI x12, lU, lU] [vI47, (.int x7)])) t := by
    intro t kk
    by_cases hd : x7 = (47 : Int32)
    · show SG p e below T19 (mkF m 86 #[lI x0, lI x1, lI x2, lI x3, lI x4, lI x5, lV vI4, lI x6, lI x7, lI x8, lI x9, lI x10, lR b19_0, lI x12, lU, lU] [vI47, (.int x7)]) _
      refine XS.icmpNo X19.here hx rfl (hb hby at_86) rfl (teq hd).2 ?_
      refine qc X19 hx hby at_89 ?_
      refine XS.istore X19.here hx rfl (hb hby at_90) rfl (l' := #[lI x0, lI x1, lI x2, lI x3, lI x4, lI x5, lV vI4, lI x6, lI x7, lI x8, lI x9, lI x10, lR b19_0, lV vI1, lU, lU]) rfl ?_
      simp only [if_pos hd] at kk
      exact kk
    · show SG p e below T19 (mkF m 86 #[lI x0, lI x1, lI x2, lI x3, lI x4, lI x5, lV vI4, lI x6, lI x7, lI x8, lI x9, lI x10, lR b19_0, lI x12, lU, lU] [vI47, (.int x7)]) _
      refine XS.icmpYes X19.here hx rfl (pc0 := 86) (pc' := 92) rfl (hb hby at_86) rfl (feq hd).2 (by decide) (by decide) ?_
      simp only [if_neg hd] at kk
      exact kk
  have dm35 : ∀ t, Steps p.tables e below (T19.setTop (mkF m 108 #[lI x0, lI x1, lI x2, lI x3, lI x4, lI x5, lV vI4, lI x6, lI x7, lI x8, lI x9, lI x10, lR b19_0, .val (.int (if x8 = (47 : Int32) then (2 : Int32) else x13)), lU, lU] [])) t → Steps p.tables e below (T19.setTop (mkF m 102 #[lI x0, lI x1, lI x2, lI x3, lI x4, lI x5, lV vI4, lI x6, lI x7, lI x8, lI x9, lI x10, lR b19_0, lI x13, lU, lU] [vI47, (.int x8)])) t := by
    intro t kk
    by_cases hd : x8 = (47 : Int32)
    · show SG p e below T19 (mkF m 102 #[lI x0, lI x1, lI x2, lI x3, lI x4, lI x5, lV vI4, lI x6, lI x7, lI x8, lI x9, lI x10, lR b19_0, lI x13, lU, lU] [vI47, (.int x8)]) _
      refine XS.icmpNo X19.here hx rfl (hb hby at_102) rfl (teq hd).2 ?_
      refine qc X19 hx hby at_105 ?_
      refine XS.istore X19.here hx rfl (hb hby at_106) rfl (l' := #[lI x0, lI x1, lI x2, lI x3, lI x4, lI x5, lV vI4, lI x6, lI x7, lI x8, lI x9, lI x10, lR b19_0, lV vI2, lU, lU]) rfl ?_
      simp only [if_pos hd] at kk
      exact kk
    · show SG p e below T19 (mkF m 102 #[lI x0, lI x1, lI x2, lI x3, lI x4, lI x5, lV vI4, lI x6, lI x7, lI x8, lI x9, lI x10, lR b19_0, lI x13, lU, lU] [vI47, (.int x8)]) _
      refine XS.icmpYes X19.here hx rfl (pc0 := 102) (pc' := 108) rfl (hb hby at_102) rfl (feq hd).2 (by decide) (by decide) ?_
      simp only [if_neg hd] at kk
      exact kk
  have dm37 : ∀ t, Steps p.tables e below (T19.setTop (mkF m 124 #[lI x0, lI x1, lI x2, lI x3, lI x4, lI x5, lV vI4, lI x6, lI x7, lI x8, lI x9, lI x10, lR b19_0, .val (.int (if x9 = (47 : Int32) then (3 : Int32) else x14)), lU, lU] [])) t → Steps p.tables e below (T19.setTop (mkF m 118 #[lI x0, lI x1, lI x2, lI x3, lI x4, lI x5, lV vI4, lI x6, lI x7, lI x8, lI x9, lI x10, lR b19_0, lI x14, lU, lU] [vI47, (.int x9)])) t := by
    intro t kk
    by_cases hd : x9 = (47 : Int32)
    · show SG p e below T19 (mkF m 118 #[lI x0, lI x1, lI x2, lI x3, lI x4, lI x5, lV vI4, lI x6, lI x7, lI x8, lI x9, lI x10, lR b19_0, lI x14, lU, lU] [vI47, (.int x9)]) _
      refine XS.icmpNo X19.here hx rfl (hb hby at_118) rfl (teq hd).2 ?_
      refine qc X19 hx hby at_121 ?_
      refine XS.istore X19.here hx rfl (hb hby at_122) rfl (l' := #[lI x0, lI x1, lI x2, lI x3, lI x4, lI x5, lV vI4, lI x6, lI x7, lI x8, lI x9, lI x10, lR b19_0, lV vI3, lU, lU]) rfl ?_
      simp only [if_pos hd] at kk
      exact kk
    · show SG p e below T19 (mkF m 118 #[lI x0, lI x1, lI x2, lI x3, lI x4, lI x5, lV vI4, lI x6, lI x7, lI x8, lI x9, lI x10, lR b19_0, lI x14, lU, lU] [vI47, (.int x9)]) _
      refine XS.icmpYes X19.here hx rfl (pc0 := 118) (pc' := 124) rfl (hb hby at_118) rfl (feq hd).2 (by decide) (by decide) ?_
      simp only [if_neg hd] at kk
      exact kk
  have o44 := Old.keep O0 K19 all0
  obtain ⟨_, T45, Lc45, X45, hQ45, st45⟩ := own_cS X19 hx hZ hown rfl (rm6_5 l Z a0 hw [] b19_0 b19_1 (4 : Int32) k19_0 ([(.int ((nar .char x6).toInt8.toInt32)), (.int ((nar .char x7).toInt8.toInt32)), (.int ((nar .char x8).toInt8.toInt32)), (.int ((nar .char x9).toInt8.toInt32))]) x11 (0 : Int32) 2 (1 : Int32) ((nar .char x7).toInt8.toInt32) u16 T19.heap n0 o44 f21 f23 f25 f13 hc14 f22 (by decide) (by decide) (by decide) (fun j hj => match j, hj with | 0, _ => ⟨by decide, rfl, by decide, by decide, by decide, by decide, own_atN (n := 2) (by decide) rfl hc39⟩ | 1, _ => ⟨by decide, rfl, by decide, by decide, by decide, by decide, own_atN (n := 3) (by decide) rfl hc40⟩ | z + 2, hz => absurd hz (by omega)) (by decide) (own_gd (n := 1) rfl rfl) (by decide) hc41 (by decide) f42 hc43 (by decide) (by decide) (by decide) (by decide) (by decide) (by decide) (by decide) (by decide) (by decide)) (w 30 rfl) (w 31 rfl) (w 32 rfl) (w 33 rfl) (by decide) (W := 0) (by decide) (by decide) (by decide) (by decide) (g := (mkF m 142 #[lI x0, lI x1, lI x2, lI x3, lI x4, lI x5, lV vI4, lI x6, lI x7, lI x8, lI x9, lI x10, lR b19_0, lI x15, lU, lU] [(.ref b19_0)])) rfl (by rw [hml]; rfl) (argsL := [(.ref b19_0)]) (rest := []) (lenOf pd__Ljava_lang_String__Ljava_lang_String_ rfl) rfl (own_W rfl) (hb hby at_142)
  obtain ⟨b45_0, b45_1, k45_0, rfl, N45q, K45, f46, f47, f48, f49, f50, f51, f52, f53⟩ := hQ45
  have N45 := Fr.app N19 N45q
  have R54 := CHr.trans R28 (CHr.keep K45 sf0 R28.1)
  have sf55 : Safe Z consts_1 s.vm T19.heap b45_0 := Safe.new f46
  have sf56 : Safe Z consts_1 s.vm T19.heap b45_1 := Safe.new f50
  have o58 := Old.keep o44 K45 all0
  obtain ⟨_, T59, Lc59, X59, hQ59, st59⟩ := own_cS X45 hx hZ hown rfl (rm2_2 l Z a0 hw [] x6 x7 x8 x9 x10 x11 T45.heap n0 o58 f13 hc14 hc15) (w 5 rfl) (w 6 rfl) (w 3 rfl) (w 7 rfl) (by decide) (W := 0) (by decide) (by decide) (by decide) (by decide) (g := (mkF m 175 #[lI x0, lI x1, lI x2, lI x3, lI x4, lI x5, lV vI4, lI x6, lI x7, lI x8, lI x9, lI x10, lR b19_0, lV vI1, lR b45_0, lU] [(.int x10), (.int x9), (.int x8), (.int x7), (.int x6), vI1])) rfl (by rw [hml]; rfl) (argsL := [vI1, (.int x6), (.int x7), (.int x8), (.int x9), (.int x10)]) (rest := []) (lenOf pd__ICCCCC_Ljava_lang_String_ rfl) rfl (own_W rfl) (hb hby at_175)
  obtain ⟨b59_0, b59_1, k59_0, rfl, N59q, K59, f60, f61, f62, f63, f64, f65, f66, f67⟩ := hQ59
  have N59 := Fr.app N45 N59q
  have R68 := CHr.trans R54 (CHr.keep K59 sf0 R54.1)
  have sf69 : Safe Z consts_1 s.vm T45.heap b59_0 := Safe.new f60
  have sf70 : Safe Z consts_1 s.vm T45.heap b59_1 := Safe.new f64
  have f71 := (f49.keep K59 nin0)
  have f72 := (f48.keep K59 nin0)
  have f73 := (f51.keep K59 nin0)
  have f74 := (f47.keep K59)
  have o75 := Old.keep o58 K59 all0
  have f76 := f13.ext o75.2
  obtain ⟨cqq78, kqq78, qq78a, qq78b, qq78c⟩ := isOf hZ rfl f74
  obtain ⟨_, T77, Lc77, X77, hQ77, st77⟩ := own_fin (X59.virtualBack hx (y := mN21) (z := mN21) hown (mvT hZ (w 116 rfl)) (mvT hZ (w 117 rfl)) (notFace_of_selects (args := #[]) (mvT hZ (w 119 rfl))) (mvT hZ (w 119 rfl)) (mvT hZ (w 118 rfl)) (by decide) (own_strEq hZ hw (w 9 rfl) (bs := [((nar .char x6).toInt8.toInt32)]) f74 f72 f71 (own_trunc (ws := [(.int ((nar .char x6).toInt8.toInt32))]) (rest := [(.int ((nar .char x7).toInt8.toInt32)), (.int ((nar .char x8).toInt8.toInt32)), (.int ((nar .char x9).toInt8.toInt32))]) (own_lenK (n := 1) rfl (by decide)) f73) (own_ofLen (n := 1) (by decide) rfl) (Nat.le_of_ble_eq_true rfl) (ds := [((nar .char x6).toInt8.toInt32)]) f61 f63 f62 f65 (own_ofLen (n := 1) (by decide) rfl) (Nat.le_of_ble_eq_true rfl) f76 hc14 (r := 1) (n0 := n0) (Or.inl ⟨rfl, rfl⟩) (by decide) (by decide : 0 + 28 ≤ _)) qq78a qq78c (g := (mkF m 189 #[lI x0, lI x1, lI x2, lI x3, lI x4, lI x5, lV vI4, lI x6, lI x7, lI x8, lI x9, lI x10, lR b19_0, lV vI1, lR b45_0, lR b59_0] [(.ref b59_0), (.ref b45_0)])) rfl (by rw [hml]; rfl) (Steps.refl _) (argsL := [(.ref b59_0)]) (rest := []) (lenOf pd__Ljava_lang_Object__Z rfl) rfl (own_W rfl) (hb hby at_189) (fun _ _ => ⟨rfl, rfl, (by decide : 8 + 0 ≤ _), (by decide : 30 + 0 ≤ _)⟩))
  obtain ⟨rfl, N77q, E77⟩ := hQ77
  have N77 := Fr.app N59 N77q
  refine ⟨some vI1, _, _, _, _, _, _, _, nofun, X77, by decide, by decide, hS1, (by rw [E77]; exact (Nat.zero_le _)), hZ, E77, R68, ?_, fun fs hr => ?_⟩
  · rw [E77]; exact ⟨rfl, N77⟩
  · show SG p e below s₁ (mkF m 0 #[lI x0, lI x1, lI x2, lI x3, lI x4, lI x5, lU, lU, lU, lU, lU, lU, lU, lU, lU, lU] []) _
    refine qiN X0 hx hby at_0 ?_
    refine X0.ldcInt hx hown (mvT hZ (w 0 rfl)) (g := (mkF m 1 #[lI x0, lI x1, lI x2, lI x3, lI x4, lI x5, lU, lU, lU, lU, lU, lU, lU, lU, lU, lU] [(.int x0)])) rfl (hb hby at_1) _ ?_
    show SG p e below s₁ (mkF m 3 #[lI x0, lI x1, lI x2, lI x3, lI x4, lI x5, lU, lU, lU, lU, lU, lU, lU, lU, lU, lU] [vI2147483647, (.int x0)]) _
    refine XS.iand X0.here hx rfl (hb hby at_3) rfl ?_
    refine qb X0 hx hby at_4 ?_
    refine iremM (g := (mkF m 6 #[lI x0, lI x1, lI x2, lI x3, lI x4, lI x5, lU, lU, lU, lU, lU, lU, lU, lU, lU, lU] [vI6, (.int (x0 &&& (2147483647 : Int32)))])) X0 hx rfl (hb hby at_6) rfl (by decide : ¬ ((6 : Int32) = (0 : Int32))) ?_
    show SG p e below s₁ (mkF m 7 #[lI x0, lI x1, lI x2, lI x3, lI x4, lI x5, lU, lU, lU, lU, lU, lU, lU, lU, lU, lU] [(.int ((x0 &&& (2147483647 : Int32)) % (6 : Int32)))]) _
    rw [hc2]
    show SG p e below s₁ (mkF m 7 #[lI x0, lI x1, lI x2, lI x3, lI x4, lI x5, lU, lU, lU, lU, lU, lU, lU, lU, lU, lU] [vI4]) _
    refine XS.istore X0.here hx rfl (hb hby at_7) rfl (l' := #[lI x0, lI x1, lI x2, lI x3, lI x4, lI x5, lV vI4, lU, lU, lU, lU, lU, lU, lU, lU, lU]) rfl ?_
    refine qiN X0 hx hby at_9 ?_
    refine st3 _ ?_
    show SG p e below T3 (mkF m 13 #[lI x0, lI x1, lI x2, lI x3, lI x4, lI x5, lV vI4, lU, lU, lU, lU, lU, lU, lU, lU, lU] [(.int (nar .char (if (x1 &&& (1 : Int32)) = (0 : Int32) then ((((x1.toUInt32 >>> ((1 : Int32) &&& 31).toUInt32).toInt32) &&& (255 : Int32)).toUInt32.toUInt16.toUInt32.toInt32) else (47 : Int32))))]) _
    rw [hq4]
    show SG p e below T3 (mkF m 13 #[lI x0, lI x1, lI x2, lI x3, lI x4, lI x5, lV vI4, lU, lU, lU, lU, lU, lU, lU, lU, lU] [(.int x6)]) _
    refine XS.istore X3.here hx rfl (hb hby at_13) rfl (l' := #[lI x0, lI x1, lI x2, lI x3, lI x4, lI x5, lV vI4, lI x6, lU, lU, lU, lU, lU, lU, lU, lU]) rfl ?_
    refine qiN X3 hx hby at_15 ?_
    refine st5 _ ?_
    show SG p e below T5 (mkF m 19 #[lI x0, lI x1, lI x2, lI x3, lI x4, lI x5, lV vI4, lI x6, lU, lU, lU, lU, lU, lU, lU, lU] [(.int (nar .char (if (x2 &&& (1 : Int32)) = (0 : Int32) then ((((x2.toUInt32 >>> ((1 : Int32) &&& 31).toUInt32).toInt32) &&& (255 : Int32)).toUInt32.toUInt16.toUInt32.toInt32) else (47 : Int32))))]) _
    rw [hq6]
    show SG p e below T5 (mkF m 19 #[lI x0, lI x1, lI x2, lI x3, lI x4, lI x5, lV vI4, lI x6, lU, lU, lU, lU, lU, lU, lU, lU] [(.int x7)]) _
    refine XS.istore X5.here hx rfl (hb hby at_19) rfl (l' := #[lI x0, lI x1, lI x2, lI x3, lI x4, lI x5, lV vI4, lI x6, lI x7, lU, lU, lU, lU, lU, lU, lU]) rfl ?_
    refine qiN X5 hx hby at_21 ?_
    refine st7 _ ?_
    show SG p e below T7 (mkF m 25 #[lI x0, lI x1, lI x2, lI x3, lI x4, lI x5, lV vI4, lI x6, lI x7, lU, lU, lU, lU, lU, lU, lU] [(.int (nar .char (if (x3 &&& (1 : Int32)) = (0 : Int32) then ((((x3.toUInt32 >>> ((1 : Int32) &&& 31).toUInt32).toInt32) &&& (255 : Int32)).toUInt32.toUInt16.toUInt32.toInt32) else (47 : Int32))))]) _
    rw [hq8]
    show SG p e below T7 (mkF m 25 #[lI x0, lI x1, lI x2, lI x3, lI x4, lI x5, lV vI4, lI x6, lI x7, lU, lU, lU, lU, lU, lU, lU] [(.int x8)]) _
    refine XS.istore X7.here hx rfl (hb hby at_25) rfl (l' := #[lI x0, lI x1, lI x2, lI x3, lI x4, lI x5, lV vI4, lI x6, lI x7, lI x8, lU, lU, lU, lU, lU, lU]) rfl ?_
    refine qi X7 hx hby at_27 ?_
    refine st9 _ ?_
    show SG p e below T9 (mkF m 32 #[lI x0, lI x1, lI x2, lI x3, lI x4, lI x5, lV vI4, lI x6, lI x7, lI x8, lU, lU, lU, lU, lU, lU] [(.int (nar .char (if (x4 &&& (1 : Int32)) = (0 : Int32) then ((((x4.toUInt32 >>> ((1 : Int32) &&& 31).toUInt32).toInt32) &&& (255 : Int32)).toUInt32.toUInt16.toUInt32.toInt32) else (47 : Int32))))]) _
    rw [hq10]
    show SG p e below T9 (mkF m 32 #[lI x0, lI x1, lI x2, lI x3, lI x4, lI x5, lV vI4, lI x6, lI x7, lI x8, lU, lU, lU, lU, lU, lU] [(.int x9)]) _
    refine XS.istore X9.here hx rfl (hb hby at_32) rfl (l' := #[lI x0, lI x1, lI x2, lI x3, lI x4, lI x5, lV vI4, lI x6, lI x7, lI x8, lI x9, lU, lU, lU, lU, lU]) rfl ?_
    refine qi X9 hx hby at_34 ?_
    refine st11 _ ?_
    show SG p e below T11 (mkF m 39 #[lI x0, lI x1, lI x2, lI x3, lI x4, lI x5, lV vI4, lI x6, lI x7, lI x8, lI x9, lU, lU, lU, lU, lU] [(.int (nar .char (if (x5 &&& (1 : Int32)) = (0 : Int32) then ((((x5.toUInt32 >>> ((1 : Int32) &&& 31).toUInt32).toInt32) &&& (255 : Int32)).toUInt32.toUInt16.toUInt32.toInt32) else (47 : Int32))))]) _
    rw [hq12]
    show SG p e below T11 (mkF m 39 #[lI x0, lI x1, lI x2, lI x3, lI x4, lI x5, lV vI4, lI x6, lI x7, lI x8, lI x9, lU, lU, lU, lU, lU] [(.int x10)]) _
    refine XS.istore X11.here hx rfl (hb hby at_39) rfl (l' := #[lI x0, lI x1, lI x2, lI x3, lI x4, lI x5, lV vI4, lI x6, lI x7, lI x8, lI x9, lI x10, lU, lU, lU, lU]) rfl ?_
    refine qi X11 hx hby at_41 ?_
    refine qi X11 hx hby at_43 ?_
    refine qi X11 hx hby at_45 ?_
    refine qi X11 hx hby at_47 ?_
    refine qi X11 hx hby at_49 ?_
    refine qi X11 hx hby at_51 ?_
    refine st19 _ ?_
    show SG p e below T19 (mkF m 56 #[lI x0, lI x1, lI x2, lI x3, lI x4, lI x5, lV vI4, lI x6, lI x7, lI x8, lI x9, lI x10, lU, lU, lU, lU] [(.ref b19_0)]) _
    refine XS.astore X19.here hx rfl (hb hby at_56) rfl rfl (l' := #[lI x0, lI x1, lI x2, lI x3, lI x4, lI x5, lV vI4, lI x6, lI x7, lI x8, lI x9, lI x10, lR b19_0, lU, lU, lU]) rfl ?_
    refine qc X19 hx hby at_58 ?_
    refine XS.istore X19.here hx rfl (hb hby at_59) rfl (l' := #[lI x0, lI x1, lI x2, lI x3, lI x4, lI x5, lV vI4, lI x6, lI x7, lI x8, lI x9, lI x10, lR b19_0, .val (.int (-1 : Int32)), lU, lU]) rfl ?_
    refine qi X19 hx hby at_61 ?_
    refine XS.ifNo X19.here hx rfl (hb hby at_63) rfl ((if0 _ _).trans (tlt (by decide : (0 : Int32) < (4 : Int32))).2.2.2) ?_
    refine qi X19 hx hby at_66 ?_
    refine qb X19 hx hby at_68 ?_
    show SG p e below T19 (mkF m 70 #[lI x0, lI x1, lI x2, lI x3, lI x4, lI x5, lV vI4, lI x6, lI x7, lI x8, lI x9, lI x10, lR b19_0, .val (.int (-1 : Int32)), lU, lU] [vI47, (.int x6)]) _
    refine dm31 _ ?_
    show SG p e below T19 (mkF m 76 #[lI x0, lI x1, lI x2, lI x3, lI x4, lI x5, lV vI4, lI x6, lI x7, lI x8, lI x9, lI x10, lR b19_0, .val (.int (if x6 = (47 : Int32) then (0 : Int32) else (-1 : Int32))), lU, lU] []) _
    rw [hq32]
    show SG p e below T19 (mkF m 76 #[lI x0, lI x1, lI x2, lI x3, lI x4, lI x5, lV vI4, lI x6, lI x7, lI x8, lI x9, lI x10, lR b19_0, lI x12, lU, lU] []) _
    refine qi X19 hx hby at_76 ?_
    refine qc X19 hx hby at_78 ?_
    refine XS.icmpNo X19.here hx rfl (hb hby at_79) rfl (tlt (by decide : (1 : Int32) < (4 : Int32))).2.2.2 ?_
    refine qi X19 hx hby at_82 ?_
    refine qb X19 hx hby at_84 ?_
    show SG p e below T19 (mkF m 86 #[lI x0, lI x1, lI x2, lI x3, lI x4, lI x5, lV vI4, lI x6, lI x7, lI x8, lI x9, lI x10, lR b19_0, lI x12, lU, lU] [vI47, (.int x7)]) _
    refine dm33 _ ?_
    show SG p e below T19 (mkF m 92 #[lI x0, lI x1, lI x2, lI x3, lI x4, lI x5, lV vI4, lI x6, lI x7, lI x8, lI x9, lI x10, lR b19_0, .val (.int (if x7 = (47 : Int32) then (1 : Int32) else x12)), lU, lU] []) _
    rw [hq34]
    show SG p e below T19 (mkF m 92 #[lI x0, lI x1, lI x2, lI x3, lI x4, lI x5, lV vI4, lI x6, lI x7, lI x8, lI x9, lI x10, lR b19_0, lI x13, lU, lU] []) _
    refine qi X19 hx hby at_92 ?_
    refine qc X19 hx hby at_94 ?_
    refine XS.icmpNo X19.here hx rfl (hb hby at_95) rfl (tlt (by decide : (2 : Int32) < (4 : Int32))).2.2.2 ?_
    refine qi X19 hx hby at_98 ?_
    refine qb X19 hx hby at_100 ?_
    show SG p e below T19 (mkF m 102 #[lI x0, lI x1, lI x2, lI x3, lI x4, lI x5, lV vI4, lI x6, lI x7, lI x8, lI x9, lI x10, lR b19_0, lI x13, lU, lU] [vI47, (.int x8)]) _
    refine dm35 _ ?_
    show SG p e below T19 (mkF m 108 #[lI x0, lI x1, lI x2, lI x3, lI x4, lI x5, lV vI4, lI x6, lI x7, lI x8, lI x9, lI x10, lR b19_0, .val (.int (if x8 = (47 : Int32) then (2 : Int32) else x13)), lU, lU] []) _
    rw [hq36]
    show SG p e below T19 (mkF m 108 #[lI x0, lI x1, lI x2, lI x3, lI x4, lI x5, lV vI4, lI x6, lI x7, lI x8, lI x9, lI x10, lR b19_0, lI x14, lU, lU] []) _
    refine qi X19 hx hby at_108 ?_
    refine qc X19 hx hby at_110 ?_
    refine XS.icmpNo X19.here hx rfl (hb hby at_111) rfl (tlt (by decide : (3 : Int32) < (4 : Int32))).2.2.2 ?_
    refine qi X19 hx hby at_114 ?_
    refine qb X19 hx hby at_116 ?_
    show SG p e below T19 (mkF m 118 #[lI x0, lI x1, lI x2, lI x3, lI x4, lI x5, lV vI4, lI x6, lI x7, lI x8, lI x9, lI x10, lR b19_0, lI x14, lU, lU] [vI47, (.int x9)]) _
    refine dm37 _ ?_
    show SG p e below T19 (mkF m 124 #[lI x0, lI x1, lI x2, lI x3, lI x4, lI x5, lV vI4, lI x6, lI x7, lI x8, lI x9, lI x10, lR b19_0, .val (.int (if x9 = (47 : Int32) then (3 : Int32) else x14)), lU, lU] []) _
    rw [hq38]
    show SG p e below T19 (mkF m 124 #[lI x0, lI x1, lI x2, lI x3, lI x4, lI x5, lV vI4, lI x6, lI x7, lI x8, lI x9, lI x10, lR b19_0, lI x15, lU, lU] []) _
    refine qi X19 hx hby at_124 ?_
    refine qc X19 hx hby at_126 ?_
    refine XS.icmpYes X19.here hx rfl (pc0 := 127) (pc' := 140) rfl (hb hby at_127) rfl (flt (by decide : ¬ ((4 : Int32) < (4 : Int32)))).2.2.2 (by decide) (by decide) ?_
    show SG p e below T19 (mkF m 140 #[lI x0, lI x1, lI x2, lI x3, lI x4, lI x5, lV vI4, lI x6, lI x7, lI x8, lI x9, lI x10, lR b19_0, lI x15, lU, lU] []) _
    refine qa X19 hx hby at_140 ?_
    refine st45 _ ?_
    show SG p e below T45 (mkF m 145 #[lI x0, lI x1, lI x2, lI x3, lI x4, lI x5, lV vI4, lI x6, lI x7, lI x8, lI x9, lI x10, lR b19_0, lI x15, lU, lU] [(.ref b45_0)]) _
    refine XS.astore X45.here hx rfl (hb hby at_145) rfl rfl (l' := #[lI x0, lI x1, lI x2, lI x3, lI x4, lI x5, lV vI4, lI x6, lI x7, lI x8, lI x9, lI x10, lR b19_0, lI x15, lR b45_0, lU]) rfl ?_
    refine qi X45 hx hby at_147 ?_
    show SG p e below T45 (mkF m 149 #[lI x0, lI x1, lI x2, lI x3, lI x4, lI x5, lV vI4, lI x6, lI x7, lI x8, lI x9, lI x10, lR b19_0, lI x15, lR b45_0, lU] [(.int x15)]) _
    rw [hc57]
    show SG p e below T45 (mkF m 149 #[lI x0, lI x1, lI x2, lI x3, lI x4, lI x5, lV vI4, lI x6, lI x7, lI x8, lI x9, lI x10, lR b19_0, lV vI1, lR b45_0, lU] [vI1]) _
    refine XS.ifYes X45.here hx rfl (pc0 := 149) (pc' := 163) rfl (hb hby at_149) rfl ((if0 _ _).trans (tlt (by decide : (0 : Int32) < (1 : Int32))).2.2.1) (by decide) (by decide) ?_
    show SG p e below T45 (mkF m 163 #[lI x0, lI x1, lI x2, lI x3, lI x4, lI x5, lV vI4, lI x6, lI x7, lI x8, lI x9, lI x10, lR b19_0, lV vI1, lR b45_0, lU] []) _
    refine qi X45 hx hby at_163 ?_
    refine qi X45 hx hby at_165 ?_
    refine qi X45 hx hby at_167 ?_
    refine qi X45 hx hby at_169 ?_
    refine qi X45 hx hby at_171 ?_
    refine qi X45 hx hby at_173 ?_
    refine st59 _ ?_
    show SG p e below T59 (mkF m 178 #[lI x0, lI x1, lI x2, lI x3, lI x4, lI x5, lV vI4, lI x6, lI x7, lI x8, lI x9, lI x10, lR b19_0, lV vI1, lR b45_0, lU] [(.ref b59_0)]) _
    refine XS.astore X59.here hx rfl (hb hby at_178) rfl rfl (l' := #[lI x0, lI x1, lI x2, lI x3, lI x4, lI x5, lV vI4, lI x6, lI x7, lI x8, lI x9, lI x10, lR b19_0, lV vI1, lR b45_0, lR b59_0]) rfl ?_
    refine qa X59 hx hby at_180 ?_
    refine XS.ifnullNo X59.here hx rfl (hb hby at_182) rfl ?_
    refine qa X59 hx hby at_185 ?_
    refine qa X59 hx hby at_187 ?_
    refine st77.trans ?_
    show SG p e below T77 (mkF m 192 #[lI x0, lI x1, lI x2, lI x3, lI x4, lI x5, lV vI4, lI x6, lI x7, lI x8, lI x9, lI x10, lR b19_0, lV vI1, lR b45_0, lR b59_0] [vI1]) _
    refine XS.ifNo X77.here hx rfl (hb hby at_192) rfl ((if0 _ _).trans (feq (by decide : ¬ ((1 : Int32) = (0 : Int32)))).1) ?_
    refine qc X77 hx hby at_195 ?_
    refine XS.goto X77.here hx rfl (pc0 := 196) (pc' := 200) rfl (hb hby at_196) (by decide) (by decide) ?_
    show SG p e below T77 (mkF m 200 #[lI x0, lI x1, lI x2, lI x3, lI x4, lI x5, lV vI4, lI x6, lI x7, lI x8, lI x9, lI x10, lR b19_0, lV vI1, lR b45_0, lR b59_0] [vI1]) _
    exact retN X77 hx (t := .boolean) hret (by simp) (hb hby at_200) hr
def Q0_10 (Z : State) (x0 x1 : Int32) (x2 x3 : Int32) (x4 x5 : Int32) (x6 x7 : Int32) (x8 x9 : Int32) (x10 x11 : Int32) (x12 x13 : Int32) (x14 x15 : Int32) (u16 : Value) (h0 : Heap) (n0 : Nat) (v : Option Value) (h : Heap) (L : List Loc) : Prop := v = some vI1 ∧ Fr n0 L
theorem rm0_10 (l : Launch) (Z : State) (a0 : Array Value) (hw : own_HW a0 Z) (ws : List Jvm.Cond) (x0 x1 : Int32) (x2 x3 : Int32) (x4 x5 : Int32) (x6 x7 : Int32) (x8 x9 : Int32) (x10 x11 : Int32) (x12 x13 : Int32) (x14 x15 : Int32) (u16 : Value) (h0 : Heap) (n0 : Nat) (O0 : Old Z n0 h0) (hc2 : ((x0 &&& (2147483647 : Int32)) % (6 : Int32)) = (4 : Int32)) (hq4 : (nar .char (if (x1 &&& (1 : Int32)) = (0 : Int32) then ((((x1.toUInt32 >>> ((1 : Int32) &&& 31).toUInt32).toInt32) &&& (255 : Int32)).toUInt32.toUInt16.toUInt32.toInt32) else (47 : Int32))) = x6) (hq6 : (nar .char (if (x2 &&& (1 : Int32)) = (0 : Int32) then ((((x2.toUInt32 >>> ((1 : Int32) &&& 31).toUInt32).toInt32) &&& (255 : Int32)).toUInt32.toUInt16.toUInt32.toInt32) else (47 : Int32))) = x7) (hq8 : (nar .char (if (x3 &&& (1 : Int32)) = (0 : Int32) then ((((x3.toUInt32 >>> ((1 : Int32) &&& 31).toUInt32).toInt32) &&& (255 : Int32)).toUInt32.toUInt16.toUInt32.toInt32) else (47 : Int32))) = x8) (hq10 : (nar .char (if (x4 &&& (1 : Int32)) = (0 : Int32) then ((((x4.toUInt32 >>> ((1 : Int32) &&& 31).toUInt32).toInt32) &&& (255 : Int32)).toUInt32.toUInt16.toUInt32.toInt32) else (47 : Int32))) = x9) (hq12 : (nar .char (if (x5 &&& (1 : Int32)) = (0 : Int32) then ((((x5.toUInt32 >>> ((1 : Int32) &&& 31).toUInt32).toInt32) &&& (255 : Int32)).toUInt32.toUInt16.toUInt32.toInt32) else (47 : Int32))) = x10) (f13 : Sta Z Z.heap "java/lang/String" "COMPACT_STRINGS" "Z" (.int x11)) (hc14 : ¬ (x11 = (0 : Int32))) (hc15 : ¬ ((255 : Int32) < (nar .char x6))) (hc16 : ¬ ((255 : Int32) < (nar .char x7))) (hc17 : ¬ ((255 : Int32) < (nar .char x8))) (hc18 : ¬ ((255 : Int32) < (nar .char x9))) (hq32 : (if x6 = (47 : Int32) then (0 : Int32) else (-1 : Int32)) = x12) (hq34 : (if x7 = (47 : Int32) then (1 : Int32) else x12) = x13) (hq36 : (if x8 = (47 : Int32) then (2 : Int32) else x13) = x14) (hq38 : (if x9 = (47 : Int32) then (3 : Int32) else x14) = x15) (hc39 : ¬ (((nar .char x9).toInt8.toInt32) = (47 : Int32))) (hc40 : ((nar .char x8).toInt8.toInt32) = (47 : Int32)) (f41 : Sta Z Z.heap cs4 "SIOOBE_FORMATTER" cs5 u16) (hc42 : u16.isRef = true) (hc56 : x15 = (2 : Int32)) :
    own_MH l x code maxLocals ret ws room_1 Z h0 #[(.int x0), (.int x1), (.int x2), (.int x3), (.int x4), (.int x5)] (Q0_10 Z x0 x1 x2 x3 x4 x5 x6 x7 x8 x9 x10 x11 x12 x13 x14 x15 u16 h0 n0) := by
  have hEL : EW Z a0 consts_1 := own_EW hw
  refine own_openH hEL (plainFor_of_name pn_com_example_nearmiss_nearmiss_ElementParentPathPinLaw) (L0 := #[lI x0, lI x1, lI x2, lI x3, lI x4, lI x5, lU, lU, lU, lU, lU, lU, lU, lU, lU, lU]) (fun _ => by first | (simp [entryFrame, mkF, argsToLocals, Value.category, maxLocals]; done) | rfl) ?_
  intro p e s m below meth c s₁ hx hby hml hret hnn hZ hown X0 e0 R0
  have N0 := Fr.nil n0; have w := @ww Z a0 hw
  have hS1 := (State.WarmedH.refl s).since 0
  obtain ⟨_, T3, Lc3, X3, hQ3, st3⟩ := own_cS X0 hx hZ hown e0 (rm1_1 l Z a0 hw [] x1 h0 n0 O0) (w 1 rfl) (w 2 rfl) (w 3 rfl) (w 4 rfl) (by decide) (W := 0) (by decide) (by decide) (by decide) (by decide) (g := (mkF m 10 #[lI x0, lI x1, lI x2, lI x3, lI x4, lI x5, lV vI4, lU, lU, lU, lU, lU, lU, lU, lU, lU] [(.int x1)])) rfl (by rw [hml]; rfl) (argsL := [(.int x1)]) (rest := []) (lenOf pd__I_C rfl) rfl (own_W rfl) (hb hby at_10)
  obtain ⟨rfl, N3q, E3⟩ := hQ3
  have N3 := Fr.app N0 N3q
  obtain ⟨_, T5, Lc5, X5, hQ5, st5⟩ := own_cS X3 hx hZ hown E3 (rm1_1 l Z a0 hw [] x2 h0 n0 O0) (w 1 rfl) (w 2 rfl) (w 3 rfl) (w 4 rfl) (by decide) (W := 0) (by decide) (by decide) (by decide) (by decide) (g := (mkF m 16 #[lI x0, lI x1, lI x2, lI x3, lI x4, lI x5, lV vI4, lI x6, lU, lU, lU, lU, lU, lU, lU, lU] [(.int x2)])) rfl (by rw [hml]; rfl) (argsL := [(.int x2)]) (rest := []) (lenOf pd__I_C rfl) rfl (own_W rfl) (hb hby at_16)
  obtain ⟨rfl, N5q, E5⟩ := hQ5
  have N5 := Fr.app N3 N5q
  obtain ⟨_, T7, Lc7, X7, hQ7, st7⟩ := own_cS X5 hx hZ hown E5 (rm1_1 l Z a0 hw [] x3 h0 n0 O0) (w 1 rfl) (w 2 rfl) (w 3 rfl) (w 4 rfl) (by decide) (W := 0) (by decide) (by decide) (by decide) (by decide) (g := (mkF m 22 #[lI x0, lI x1, lI x2, lI x3, lI x4, lI x5, lV vI4, lI x6, lI x7, lU, lU, lU, lU, lU, lU, lU] [(.int x3)])) rfl (by rw [hml]; rfl) (argsL := [(.int x3)]) (rest := []) (lenOf pd__I_C rfl) rfl (own_W rfl) (hb hby at_22)
  obtain ⟨rfl, N7q, E7⟩ := hQ7
  have N7 := Fr.app N5 N7q
  obtain ⟨_, T9, Lc9, X9, hQ9, st9⟩ := own_cS X7 hx hZ hown E7 (rm1_1 l Z a0 hw [] x4 h0 n0 O0) (w 1 rfl) (w 2 rfl) (w 3 rfl) (w 4 rfl) (by decide) (W := 0) (by decide) (by decide) (by decide) (by decide) (g := (mkF m 29 #[lI x0, lI x1, lI x2, lI x3, lI x4, lI x5, lV vI4, lI x6, lI x7, lI x8, lU, lU, lU, lU, lU, lU] [(.int x4)])) rfl (by rw [hml]; rfl) (argsL := [(.int x4)]) (rest := []) (lenOf pd__I_C rfl) rfl (own_W rfl) (hb hby at_29)
  obtain ⟨rfl, N9q, E9⟩ := hQ9
  have N9 := Fr.app N7 N9q
  obtain ⟨_, T11, Lc11, X11, hQ11, st11⟩ := own_cS X9 hx hZ hown E9 (rm1_1 l Z a0 hw [] x5 h0 n0 O0) (w 1 rfl) (w 2 rfl) (w 3 rfl) (w 4 rfl) (by decide) (W := 0) (by decide) (by decide) (by decide) (by decide) (g := (mkF m 36 #[lI x0, lI x1, lI x2, lI x3, lI x4, lI x5, lV vI4, lI x6, lI x7, lI x8, lI x9, lU, lU, lU, lU, lU] [(.int x5)])) rfl (by rw [hml]; rfl) (argsL := [(.int x5)]) (rest := []) (lenOf pd__I_C rfl) rfl (own_W rfl) (hb hby at_36)
  obtain ⟨rfl, N11q, E11⟩ := hQ11
  have N11 := Fr.app N9 N11q
  obtain ⟨_, T19, Lc19, X19, hQ19, st19⟩ := own_cS X11 hx hZ hown E11 (rm2_5 l Z a0 hw [] x6 x7 x8 x9 x10 x11 h0 n0 O0 f13 hc14 hc15 hc16 hc17 hc18) (w 5 rfl) (w 6 rfl) (w 3 rfl) (w 7 rfl) (by decide) (W := 0) (by decide) (by decide) (by decide) (by decide) (g := (mkF m 53 #[lI x0, lI x1, lI x2, lI x3, lI x4, lI x5, lV vI4, lI x6, lI x7, lI x8, lI x9, lI x10, lU, lU, lU, lU] [(.int x10), (.int x9), (.int x8), (.int x7), (.int x6), vI4])) rfl (by rw [hml]; rfl) (argsL := [vI4, (.int x6), (.int x7), (.int x8), (.int x9), (.int x10)]) (rest := []) (lenOf pd__ICCCCC_Ljava_lang_String_ rfl) rfl (own_W rfl) (hb hby at_53)
  obtain ⟨b19_0, b19_1, k19_0, rfl, N19q, K19, f20, f21, f22, f23, f24, f25, f26, f27⟩ := hQ19
  have N19 := Fr.app N11 N19q
  have R28 := CHr.trans R0 (CHr.keep K19 sf0 R0.1)
  have sf29 : Safe Z consts_1 s.vm h0 b19_0 := Safe.new f20
  have sf30 : Safe Z consts_1 s.vm h0 b19_1 := Safe.new f24
  have dm31 : ∀ t, Steps p.tables e below (T19.setTop (mkF m 76 #[lI x0, lI x1, lI x2, lI x3, lI x4, lI x5, lV vI4, lI x6, lI x7, lI x8, lI x9, lI x10, lR b19_0, .val (.int (if x6 = (47 : Int32) then (0 : Int32) else (-1 : Int32))), lU, lU] [])) t → Steps p.tables e below (T19.setTop (mkF m 70 #[lI x0, lI x1, lI x2, lI x3, lI x4, lI x5, lV vI4, lI x6, lI x7, lI x8, lI x9, lI x10, lR b19_0, .val (.int (-1 : Int32)), lU, lU] [vI47, (.int x6)])) t := by
    intro t kk
    by_cases hd : x6 = (47 : Int32)
    · show SG p e below T19 (mkF m 70 #[lI x0, lI x1, lI x2, lI x3, lI x4, lI x5, lV vI4, lI x6, lI x7, lI x8, lI x9, lI x10, lR b19_0, .val (.int (-1 : Int32)), lU, lU] [vI47, (.int x6)]) _
      refine XS.icmpNo X19.here hx rfl (hb hby at_70) rfl (teq hd).2 ?_
      refine qc X19 hx hby at_73 ?_
      refine XS.istore X19.here hx rfl (hb hby at_74) rfl (l' := #[lI x0, lI x1, lI x2, lI x3, lI x4, lI x5, lV vI4, lI x6, lI x7, lI x8, lI x9, lI x10, lR b19_0, lV vI0, lU, lU]) rfl ?_
      simp only [if_pos hd] at kk
      exact kk
    · show SG p e below T19 (mkF m 70 #[lI x0, lI x1, lI x2, lI x3, lI x4, lI x5, lV vI4, lI x6, lI x7, lI x8, lI x9, lI x10, lR b19_0, .val (.int (-1 : Int32)), lU, lU] [vI47, (.int x6)]) _
      refine XS.icmpYes X19.here hx rfl (pc0 := 70) (pc' := 76) rfl (hb hby at_70) rfl (feq hd).2 (by decide) (by decide) ?_
      simp only [if_neg hd] at kk
      exact kk
  have dm33 : ∀ t, Steps p.tables e below (T19.setTop (mkF m 92 #[lI x0, lI x1, lI x2, lI x3, lI x4, lI x5, lV vI4, lI x6, lI x7, lI x8, lI x9, lI x10, lR b19_0, .val (.int (if x7 = (47 : Int32) then (1 : Int32) else x12)), lU, lU] [])) t → Steps p.tables e below (T19.setTop (mkF m 86 #[lI x0, lI x1, lI x2, lI x3, lI x4, lI x5, lV vI4, lI x6, lI x7, lI x8, lI x9, lI x10, lR b19_0, lI x12, lU, lU] [vI47, (.int x7)])) t := by
    intro t kk
    by_cases hd : x7 = (47 : Int32)
    · show SG p e below T19 (mkF m 86 #[lI x0, lI x1, lI x2, lI x3, lI x4, lI x5, lV vI4, lI x6, lI x7, lI x8, lI x9, lI x10, lR b19_0, lI x12, lU, lU] [vI47, (.int x7)]) _
      refine XS.icmpNo X19.here hx rfl (hb hby at_86) rfl (teq hd).2 ?_
      refine qc X19 hx hby at_89 ?_
      refine XS.istore X19.here hx rfl (hb hby at_90) rfl (l' := #[lI x0, lI x1, lI x2, lI x3, lI x4, lI x5, lV vI4, lI x6, lI x7, lI x8, lI x9, lI x10, lR b19_0, lV vI1, lU, lU]) rfl ?_
      simp only [if_pos hd] at kk
      exact kk
    · show SG p e below T19 (mkF m 86 #[lI x0, lI x1, lI x2, lI x3, lI x4, lI x5, lV vI4, lI x6, lI x7, lI x8, lI x9, lI x10, lR b19_0, lI x12, lU, lU] [vI47, (.int x7)]) _
      refine XS.icmpYes X19.here hx rfl (pc0 := 86) (pc' := 92) rfl (hb hby at_86) rfl (feq hd).2 (by decide) (by decide) ?_
      simp only [if_neg hd] at kk
      exact kk
  have dm35 : ∀ t, Steps p.tables e below (T19.setTop (mkF m 108 #[lI x0, lI x1, lI x2, lI x3, lI x4, lI x5, lV vI4, lI x6, lI x7, lI x8, lI x9, lI x10, lR b19_0, .val (.int (if x8 = (47 : Int32) then (2 : Int32) else x13)), lU, lU] [])) t → Steps p.tables e below (T19.setTop (mkF m 102 #[lI x0, lI x1, lI x2, lI x3, lI x4, lI x5, lV vI4, lI x6, lI x7, lI x8, lI x9, lI x10, lR b19_0, lI x13, lU, lU] [vI47, (.int x8)])) t := by
    intro t kk
    by_cases hd : x8 = (47 : Int32)
    · show SG p e below T19 (mkF m 102 #[lI x0, lI x1, lI x2, lI x3, lI x4, lI x5, lV vI4, lI x6, lI x7, lI x8, lI x9, lI x10, lR b19_0, lI x13, lU, lU] [vI47, (.int x8)]) _
      refine XS.icmpNo X19.here hx rfl (hb hby at_102) rfl (teq hd).2 ?_
      refine qc X19 hx hby at_105 ?_
      refine XS.istore X19.here hx rfl (hb hby at_106) rfl (l' := #[lI x0, lI x1, lI x2, lI x3, lI x4, lI x5, lV vI4, lI x6, lI x7, lI x8, lI x9, lI x10, lR b19_0, lV vI2, lU, lU]) rfl ?_
      simp only [if_pos hd] at kk
      exact kk
    · show SG p e below T19 (mkF m 102 #[lI x0, lI x1, lI x2, lI x3, lI x4, lI x5, lV vI4, lI x6, lI x7, lI x8, lI x9, lI x10, lR b19_0, lI x13, lU, lU] [vI47, (.int x8)]) _
      refine XS.icmpYes X19.here hx rfl (pc0 := 102) (pc' := 108) rfl (hb hby at_102) rfl (feq hd).2 (by decide) (by decide) ?_
      simp only [if_neg hd] at kk
      exact kk
  have dm37 : ∀ t, Steps p.tables e below (T19.setTop (mkF m 124 #[lI x0, lI x1, lI x2, lI x3, lI x4, lI x5, lV vI4, lI x6, lI x7, lI x8, lI x9, lI x10, lR b19_0, .val (.int (if x9 = (47 : Int32) then (3 : Int32) else x14)), lU, lU] [])) t → Steps p.tables e below (T19.setTop (mkF m 118 #[lI x0, lI x1, lI x2, lI x3, lI x4, lI x5, lV vI4, lI x6, lI x7, lI x8, lI x9, lI x10, lR b19_0, lI x14, lU, lU] [vI47, (.int x9)])) t := by
    intro t kk
    by_cases hd : x9 = (47 : Int32)
    · show SG p e below T19 (mkF m 118 #[lI x0, lI x1, lI x2, lI x3, lI x4, lI x5, lV vI4, lI x6, lI x7, lI x8, lI x9, lI x10, lR b19_0, lI x14, lU, lU] [vI47, (.int x9)]) _
      refine XS.icmpNo X19.here hx rfl (hb hby at_118) rfl (teq hd).2 ?_
      refine qc X19 hx hby at_121 ?_
      refine XS.istore X19.here hx rfl (hb hby at_122) rfl (l' := #[lI x0, lI x1, lI x2, lI x3, lI x4, lI x5, lV vI4, lI x6, lI x7, lI x8, lI x9, lI x10, lR b19_0, lV vI3, lU, lU]) rfl ?_
      simp only [if_pos hd] at kk
      exact kk
    · show SG p e below T19 (mkF m 118 #[lI x0, lI x1, lI x2, lI x3, lI x4, lI x5, lV vI4, lI x6, lI x7, lI x8, lI x9, lI x10, lR b19_0, lI x14, lU, lU] [vI47, (.int x9)]) _
      refine XS.icmpYes X19.here hx rfl (pc0 := 118) (pc' := 124) rfl (hb hby at_118) rfl (feq hd).2 (by decide) (by decide) ?_
      simp only [if_neg hd] at kk
      exact kk
  have o43 := Old.keep O0 K19 all0
  obtain ⟨_, T44, Lc44, X44, hQ44, st44⟩ := own_cS X19 hx hZ hown rfl (rm6_5 l Z a0 hw [] b19_0 b19_1 (4 : Int32) k19_0 ([(.int ((nar .char x6).toInt8.toInt32)), (.int ((nar .char x7).toInt8.toInt32)), (.int ((nar .char x8).toInt8.toInt32)), (.int ((nar .char x9).toInt8.toInt32))]) x11 (0 : Int32) 1 (2 : Int32) ((nar .char x8).toInt8.toInt32) u16 T19.heap n0 o43 f21 f23 f25 f13 hc14 f22 (by decide) (by decide) (by decide) (fun j hj => match j, hj with | 0, _ => ⟨by decide, rfl, by decide, by decide, by decide, by decide, own_atN (n := 3) (by decide) rfl hc39⟩ | z + 1, hz => absurd hz (by omega)) (by decide) (own_gd (n := 2) rfl rfl) (by decide) hc40 (by decide) f41 hc42 (by decide) (by decide) (by decide) (by decide) (by decide) (by decide) (by decide) (by decide) (by decide)) (w 30 rfl) (w 31 rfl) (w 32 rfl) (w 33 rfl) (by decide) (W := 0) (by decide) (by decide) (by decide) (by decide) (g := (mkF m 142 #[lI x0, lI x1, lI x2, lI x3, lI x4, lI x5, lV vI4, lI x6, lI x7, lI x8, lI x9, lI x10, lR b19_0, lI x15, lU, lU] [(.ref b19_0)])) rfl (by rw [hml]; rfl) (argsL := [(.ref b19_0)]) (rest := []) (lenOf pd__Ljava_lang_String__Ljava_lang_String_ rfl) rfl (own_W rfl) (hb hby at_142)
  obtain ⟨b44_0, b44_1, k44_0, rfl, N44q, K44, f45, f46, f47, f48, f49, f50, f51, f52⟩ := hQ44
  have N44 := Fr.app N19 N44q
  have R53 := CHr.trans R28 (CHr.keep K44 sf0 R28.1)
  have sf54 : Safe Z consts_1 s.vm T19.heap b44_0 := Safe.new f45
  have sf55 : Safe Z consts_1 s.vm T19.heap b44_1 := Safe.new f49
  have o57 := Old.keep o43 K44 all0
  obtain ⟨_, T58, Lc58, X58, hQ58, st58⟩ := own_cS X44 hx hZ hown rfl (rm2_3 l Z a0 hw [] x6 x7 x8 x9 x10 x11 T44.heap n0 o57 f13 hc14 hc15 hc16) (w 5 rfl) (w 6 rfl) (w 3 rfl) (w 7 rfl) (by decide) (W := 0) (by decide) (by decide) (by decide) (by decide) (g := (mkF m 175 #[lI x0, lI x1, lI x2, lI x3, lI x4, lI x5, lV vI4, lI x6, lI x7, lI x8, lI x9, lI x10, lR b19_0, lV vI2, lR b44_0, lU] [(.int x10), (.int x9), (.int x8), (.int x7), (.int x6), vI2])) rfl (by rw [hml]; rfl) (argsL := [vI2, (.int x6), (.int x7), (.int x8), (.int x9), (.int x10)]) (rest := []) (lenOf pd__ICCCCC_Ljava_lang_String_ rfl) rfl (own_W rfl) (hb hby at_175)
  obtain ⟨b58_0, b58_1, k58_0, rfl, N58q, K58, f59, f60, f61, f62, f63, f64, f65, f66⟩ := hQ58
  have N58 := Fr.app N44 N58q
  have R67 := CHr.trans R53 (CHr.keep K58 sf0 R53.1)
  have sf68 : Safe Z consts_1 s.vm T44.heap b58_0 := Safe.new f59
  have sf69 : Safe Z consts_1 s.vm T44.heap b58_1 := Safe.new f63
  have f70 := (f48.keep K58 nin0)
  have f71 := (f47.keep K58 nin0)
  have f72 := (f50.keep K58 nin0)
  have f73 := (f46.keep K58)
  have o74 := Old.keep o57 K58 all0
  have f75 := f13.ext o74.2
  obtain ⟨cqq77, kqq77, qq77a, qq77b, qq77c⟩ := isOf hZ rfl f73
  obtain ⟨_, T76, Lc76, X76, hQ76, st76⟩ := own_fin (X58.virtualBack hx (y := mN21) (z := mN21) hown (mvT hZ (w 116 rfl)) (mvT hZ (w 117 rfl)) (notFace_of_selects (args := #[]) (mvT hZ (w 119 rfl))) (mvT hZ (w 119 rfl)) (mvT hZ (w 118 rfl)) (by decide) (own_strEq hZ hw (w 9 rfl) (bs := [((nar .char x6).toInt8.toInt32), ((nar .char x7).toInt8.toInt32)]) f73 f71 f70 (own_trunc (ws := [(.int ((nar .char x6).toInt8.toInt32)), (.int ((nar .char x7).toInt8.toInt32))]) (rest := [(.int ((nar .char x8).toInt8.toInt32)), (.int ((nar .char x9).toInt8.toInt32))]) (own_lenK (n := 2) rfl (by decide)) f72) (own_ofLen (n := 2) (by decide) rfl) (Nat.le_of_ble_eq_true rfl) (ds := [((nar .char x6).toInt8.toInt32), ((nar .char x7).toInt8.toInt32)]) f60 f62 f61 f64 (own_ofLen (n := 2) (by decide) rfl) (Nat.le_of_ble_eq_true rfl) f75 hc14 (r := 1) (n0 := n0) (Or.inl ⟨rfl, rfl⟩) (by decide) (by decide : 0 + 28 ≤ _)) qq77a qq77c (g := (mkF m 189 #[lI x0, lI x1, lI x2, lI x3, lI x4, lI x5, lV vI4, lI x6, lI x7, lI x8, lI x9, lI x10, lR b19_0, lV vI2, lR b44_0, lR b58_0] [(.ref b58_0), (.ref b44_0)])) rfl (by rw [hml]; rfl) (Steps.refl _) (argsL := [(.ref b58_0)]) (rest := []) (lenOf pd__Ljava_lang_Object__Z rfl) rfl (own_W rfl) (hb hby at_189) (fun _ _ => ⟨rfl, rfl, (by decide : 8 + 0 ≤ _), (by decide : 32 + 0 ≤ _)⟩))
  obtain ⟨rfl, N76q, E76⟩ := hQ76
  have N76 := Fr.app N58 N76q
  refine ⟨some vI1, _, _, _, _, _, _, _, nofun, X76, by decide, by decide, hS1, (by rw [E76]; exact (Nat.zero_le _)), hZ, E76, R67, ?_, fun fs hr => ?_⟩
  · rw [E76]; exact ⟨rfl, N76⟩
  · show SG p e below s₁ (mkF m 0 #[lI x0, lI x1, lI x2, lI x3, lI x4, lI x5, lU, lU, lU, lU, lU, lU, lU, lU, lU, lU] []) _
    refine qiN X0 hx hby at_0 ?_
    refine X0.ldcInt hx hown (mvT hZ (w 0 rfl)) (g := (mkF m 1 #[lI x0, lI x1, lI x2, lI x3, lI x4, lI x5, lU, lU, lU, lU, lU, lU, lU, lU, lU, lU] [(.int x0)])) rfl (hb hby at_1) _ ?_
    show SG p e below s₁ (mkF m 3 #[lI x0, lI x1, lI x2, lI x3, lI x4, lI x5, lU, lU, lU, lU, lU, lU, lU, lU, lU, lU] [vI2147483647, (.int x0)]) _
    refine XS.iand X0.here hx rfl (hb hby at_3) rfl ?_
    refine qb X0 hx hby at_4 ?_
    refine iremM (g := (mkF m 6 #[lI x0, lI x1, lI x2, lI x3, lI x4, lI x5, lU, lU, lU, lU, lU, lU, lU, lU, lU, lU] [vI6, (.int (x0 &&& (2147483647 : Int32)))])) X0 hx rfl (hb hby at_6) rfl (by decide : ¬ ((6 : Int32) = (0 : Int32))) ?_
    show SG p e below s₁ (mkF m 7 #[lI x0, lI x1, lI x2, lI x3, lI x4, lI x5, lU, lU, lU, lU, lU, lU, lU, lU, lU, lU] [(.int ((x0 &&& (2147483647 : Int32)) % (6 : Int32)))]) _
    rw [hc2]
    show SG p e below s₁ (mkF m 7 #[lI x0, lI x1, lI x2, lI x3, lI x4, lI x5, lU, lU, lU, lU, lU, lU, lU, lU, lU, lU] [vI4]) _
    refine XS.istore X0.here hx rfl (hb hby at_7) rfl (l' := #[lI x0, lI x1, lI x2, lI x3, lI x4, lI x5, lV vI4, lU, lU, lU, lU, lU, lU, lU, lU, lU]) rfl ?_
    refine qiN X0 hx hby at_9 ?_
    refine st3 _ ?_
    show SG p e below T3 (mkF m 13 #[lI x0, lI x1, lI x2, lI x3, lI x4, lI x5, lV vI4, lU, lU, lU, lU, lU, lU, lU, lU, lU] [(.int (nar .char (if (x1 &&& (1 : Int32)) = (0 : Int32) then ((((x1.toUInt32 >>> ((1 : Int32) &&& 31).toUInt32).toInt32) &&& (255 : Int32)).toUInt32.toUInt16.toUInt32.toInt32) else (47 : Int32))))]) _
    rw [hq4]
    show SG p e below T3 (mkF m 13 #[lI x0, lI x1, lI x2, lI x3, lI x4, lI x5, lV vI4, lU, lU, lU, lU, lU, lU, lU, lU, lU] [(.int x6)]) _
    refine XS.istore X3.here hx rfl (hb hby at_13) rfl (l' := #[lI x0, lI x1, lI x2, lI x3, lI x4, lI x5, lV vI4, lI x6, lU, lU, lU, lU, lU, lU, lU, lU]) rfl ?_
    refine qiN X3 hx hby at_15 ?_
    refine st5 _ ?_
    show SG p e below T5 (mkF m 19 #[lI x0, lI x1, lI x2, lI x3, lI x4, lI x5, lV vI4, lI x6, lU, lU, lU, lU, lU, lU, lU, lU] [(.int (nar .char (if (x2 &&& (1 : Int32)) = (0 : Int32) then ((((x2.toUInt32 >>> ((1 : Int32) &&& 31).toUInt32).toInt32) &&& (255 : Int32)).toUInt32.toUInt16.toUInt32.toInt32) else (47 : Int32))))]) _
    rw [hq6]
    show SG p e below T5 (mkF m 19 #[lI x0, lI x1, lI x2, lI x3, lI x4, lI x5, lV vI4, lI x6, lU, lU, lU, lU, lU, lU, lU, lU] [(.int x7)]) _
    refine XS.istore X5.here hx rfl (hb hby at_19) rfl (l' := #[lI x0, lI x1, lI x2, lI x3, lI x4, lI x5, lV vI4, lI x6, lI x7, lU, lU, lU, lU, lU, lU, lU]) rfl ?_
    refine qiN X5 hx hby at_21 ?_
    refine st7 _ ?_
    show SG p e below T7 (mkF m 25 #[lI x0, lI x1, lI x2, lI x3, lI x4, lI x5, lV vI4, lI x6, lI x7, lU, lU, lU, lU, lU, lU, lU] [(.int (nar .char (if (x3 &&& (1 : Int32)) = (0 : Int32) then ((((x3.toUInt32 >>> ((1 : Int32) &&& 31).toUInt32).toInt32) &&& (255 : Int32)).toUInt32.toUInt16.toUInt32.toInt32) else (47 : Int32))))]) _
    rw [hq8]
    show SG p e below T7 (mkF m 25 #[lI x0, lI x1, lI x2, lI x3, lI x4, lI x5, lV vI4, lI x6, lI x7, lU, lU, lU, lU, lU, lU, lU] [(.int x8)]) _
    refine XS.istore X7.here hx rfl (hb hby at_25) rfl (l' := #[lI x0, lI x1, lI x2, lI x3, lI x4, lI x5, lV vI4, lI x6, lI x7, lI x8, lU, lU, lU, lU, lU, lU]) rfl ?_
    refine qi X7 hx hby at_27 ?_
    refine st9 _ ?_
    show SG p e below T9 (mkF m 32 #[lI x0, lI x1, lI x2, lI x3, lI x4, lI x5, lV vI4, lI x6, lI x7, lI x8, lU, lU, lU, lU, lU, lU] [(.int (nar .char (if (x4 &&& (1 : Int32)) = (0 : Int32) then ((((x4.toUInt32 >>> ((1 : Int32) &&& 31).toUInt32).toInt32) &&& (255 : Int32)).toUInt32.toUInt16.toUInt32.toInt32) else (47 : Int32))))]) _
    rw [hq10]
    show SG p e below T9 (mkF m 32 #[lI x0, lI x1, lI x2, lI x3, lI x4, lI x5, lV vI4, lI x6, lI x7, lI x8, lU, lU, lU, lU, lU, lU] [(.int x9)]) _
    refine XS.istore X9.here hx rfl (hb hby at_32) rfl (l' := #[lI x0, lI x1, lI x2, lI x3, lI x4, lI x5, lV vI4, lI x6, lI x7, lI x8, lI x9, lU, lU, lU, lU, lU]) rfl ?_
    refine qi X9 hx hby at_34 ?_
    refine st11 _ ?_
    show SG p e below T11 (mkF m 39 #[lI x0, lI x1, lI x2, lI x3, lI x4, lI x5, lV vI4, lI x6, lI x7, lI x8, lI x9, lU, lU, lU, lU, lU] [(.int (nar .char (if (x5 &&& (1 : Int32)) = (0 : Int32) then ((((x5.toUInt32 >>> ((1 : Int32) &&& 31).toUInt32).toInt32) &&& (255 : Int32)).toUInt32.toUInt16.toUInt32.toInt32) else (47 : Int32))))]) _
    rw [hq12]
    show SG p e below T11 (mkF m 39 #[lI x0, lI x1, lI x2, lI x3, lI x4, lI x5, lV vI4, lI x6, lI x7, lI x8, lI x9, lU, lU, lU, lU, lU] [(.int x10)]) _
    refine XS.istore X11.here hx rfl (hb hby at_39) rfl (l' := #[lI x0, lI x1, lI x2, lI x3, lI x4, lI x5, lV vI4, lI x6, lI x7, lI x8, lI x9, lI x10, lU, lU, lU, lU]) rfl ?_
    refine qi X11 hx hby at_41 ?_
    refine qi X11 hx hby at_43 ?_
    refine qi X11 hx hby at_45 ?_
    refine qi X11 hx hby at_47 ?_
    refine qi X11 hx hby at_49 ?_
    refine qi X11 hx hby at_51 ?_
    refine st19 _ ?_
    show SG p e below T19 (mkF m 56 #[lI x0, lI x1, lI x2, lI x3, lI x4, lI x5, lV vI4, lI x6, lI x7, lI x8, lI x9, lI x10, lU, lU, lU, lU] [(.ref b19_0)]) _
    refine XS.astore X19.here hx rfl (hb hby at_56) rfl rfl (l' := #[lI x0, lI x1, lI x2, lI x3, lI x4, lI x5, lV vI4, lI x6, lI x7, lI x8, lI x9, lI x10, lR b19_0, lU, lU, lU]) rfl ?_
    refine qc X19 hx hby at_58 ?_
    refine XS.istore X19.here hx rfl (hb hby at_59) rfl (l' := #[lI x0, lI x1, lI x2, lI x3, lI x4, lI x5, lV vI4, lI x6, lI x7, lI x8, lI x9, lI x10, lR b19_0, .val (.int (-1 : Int32)), lU, lU]) rfl ?_
    refine qi X19 hx hby at_61 ?_
    refine XS.ifNo X19.here hx rfl (hb hby at_63) rfl ((if0 _ _).trans (tlt (by decide : (0 : Int32) < (4 : Int32))).2.2.2) ?_
    refine qi X19 hx hby at_66 ?_
    refine qb X19 hx hby at_68 ?_
    show SG p e below T19 (mkF m 70 #[lI x0, lI x1, lI x2, lI x3, lI x4, lI x5, lV vI4, lI x6, lI x7, lI x8, lI x9, lI x10, lR b19_0, .val (.int (-1 : Int32)), lU, lU] [vI47, (.int x6)]) _
    refine dm31 _ ?_
    show SG p e below T19 (mkF m 76 #[lI x0, lI x1, lI x2, lI x3, lI x4, lI x5, lV vI4, lI x6, lI x7, lI x8, lI x9, lI x10, lR b19_0, .val (.int (if x6 = (47 : Int32) then (0 : Int32) else (-1 : Int32))), lU, lU] []) _
    rw [hq32]
    show SG p e below T19 (mkF m 76 #[lI x0, lI x1, lI x2, lI x3, lI x4, lI x5, lV vI4, lI x6, lI x7, lI x8, lI x9, lI x10, lR b19_0, lI x12, lU, lU] []) _
    refine qi X19 hx hby at_76 ?_
    refine qc X19 hx hby at_78 ?_
    refine XS.icmpNo X19.here hx rfl (hb hby at_79) rfl (tlt (by decide : (1 : Int32) < (4 : Int32))).2.2.2 ?_
    refine qi X19 hx hby at_82 ?_
    refine qb X19 hx hby at_84 ?_
    show SG p e below T19 (mkF m 86 #[lI x0, lI x1, lI x2, lI x3, lI x4, lI x5, lV vI4, lI x6, lI x7, lI x8, lI x9, lI x10, lR b19_0, lI x12, lU, lU] [vI47, (.int x7)]) _
    refine dm33 _ ?_
    show SG p e below T19 (mkF m 92 #[lI x0, lI x1, lI x2, lI x3, lI x4, lI x5, lV vI4, lI x6, lI x7, lI x8, lI x9, lI x10, lR b19_0, .val (.int (if x7 = (47 : Int32) then (1 : Int32) else x12)), lU, lU] []) _
    rw [hq34]
    show SG p e below T19 (mkF m 92 #[lI x0, lI x1, lI x2, lI x3, lI x4, lI x5, lV vI4, lI x6, lI x7, lI x8, lI x9, lI x10, lR b19_0, lI x13, lU, lU] []) _
    refine qi X19 hx hby at_92 ?_
    refine qc X19 hx hby at_94 ?_
    refine XS.icmpNo X19.here hx rfl (hb hby at_95) rfl (tlt (by decide : (2 : Int32) < (4 : Int32))).2.2.2 ?_
    refine qi X19 hx hby at_98 ?_
    refine qb X19 hx hby at_100 ?_
    show SG p e below T19 (mkF m 102 #[lI x0, lI x1, lI x2, lI x3, lI x4, lI x5, lV vI4, lI x6, lI x7, lI x8, lI x9, lI x10, lR b19_0, lI x13, lU, lU] [vI47, (.int x8)]) _
    refine dm35 _ ?_
    show SG p e below T19 (mkF m 108 #[lI x0, lI x1, lI x2, lI x3, lI x4, lI x5, lV vI4, lI x6, lI x7, lI x8, lI x9, lI x10, lR b19_0, .val (.int (if x8 = (47 : Int32) then (2 : Int32) else x13)), lU, lU] []) _
    rw [hq36]
    show SG p e below T19 (mkF m 108 #[lI x0, lI x1, lI x2, lI x3, lI x4, lI x5, lV vI4, lI x6, lI x7, lI x8, lI x9, lI x10, lR b19_0, lI x14, lU, lU] []) _
    refine qi X19 hx hby at_108 ?_
    refine qc X19 hx hby at_110 ?_
    refine XS.icmpNo X19.here hx rfl (hb hby at_111) rfl (tlt (by decide : (3 : Int32) < (4 : Int32))).2.2.2 ?_
    refine qi X19 hx hby at_114 ?_
    refine qb X19 hx hby at_116 ?_
    show SG p e below T19 (mkF m 118 #[lI x0, lI x1, lI x2, lI x3, lI x4, lI x5, lV vI4, lI x6, lI x7, lI x8, lI x9, lI x10, lR b19_0, lI x14, lU, lU] [vI47, (.int x9)]) _
    refine dm37 _ ?_
    show SG p e below T19 (mkF m 124 #[lI x0, lI x1, lI x2, lI x3, lI x4, lI x5, lV vI4, lI x6, lI x7, lI x8, lI x9, lI x10, lR b19_0, .val (.int (if x9 = (47 : Int32) then (3 : Int32) else x14)), lU, lU] []) _
    rw [hq38]
    show SG p e below T19 (mkF m 124 #[lI x0, lI x1, lI x2, lI x3, lI x4, lI x5, lV vI4, lI x6, lI x7, lI x8, lI x9, lI x10, lR b19_0, lI x15, lU, lU] []) _
    refine qi X19 hx hby at_124 ?_
    refine qc X19 hx hby at_126 ?_
    refine XS.icmpYes X19.here hx rfl (pc0 := 127) (pc' := 140) rfl (hb hby at_127) rfl (flt (by decide : ¬ ((4 : Int32) < (4 : Int32)))).2.2.2 (by decide) (by decide) ?_
    show SG p e below T19 (mkF m 140 #[lI x0, lI x1, lI x2, lI x3, lI x4, lI x5, lV vI4, lI x6, lI x7, lI x8, lI x9, lI x10, lR b19_0, lI x15, lU, lU] []) _
    refine qa X19 hx hby at_140 ?_
    refine st44 _ ?_
    show SG p e below T44 (mkF m 145 #[lI x0, lI x1, lI x2, lI x3, lI x4, lI x5, lV vI4, lI x6, lI x7, lI x8, lI x9, lI x10, lR b19_0, lI x15, lU, lU] [(.ref b44_0)]) _
    refine XS.astore X44.here hx rfl (hb hby at_145) rfl rfl (l' := #[lI x0, lI x1, lI x2, lI x3, lI x4, lI x5, lV vI4, lI x6, lI x7, lI x8, lI x9, lI x10, lR b19_0, lI x15, lR b44_0, lU]) rfl ?_
    refine qi X44 hx hby at_147 ?_
    show SG p e below T44 (mkF m 149 #[lI x0, lI x1, lI x2, lI x3, lI x4, lI x5, lV vI4, lI x6, lI x7, lI x8, lI x9, lI x10, lR b19_0, lI x15, lR b44_0, lU] [(.int x15)]) _
    rw [hc56]
    show SG p e below T44 (mkF m 149 #[lI x0, lI x1, lI x2, lI x3, lI x4, lI x5, lV vI4, lI x6, lI x7, lI x8, lI x9, lI x10, lR b19_0, lV vI2, lR b44_0, lU] [vI2]) _
    refine XS.ifYes X44.here hx rfl (pc0 := 149) (pc' := 163) rfl (hb hby at_149) rfl ((if0 _ _).trans (tlt (by decide : (0 : Int32) < (2 : Int32))).2.2.1) (by decide) (by decide) ?_
    show SG p e below T44 (mkF m 163 #[lI x0, lI x1, lI x2, lI x3, lI x4, lI x5, lV vI4, lI x6, lI x7, lI x8, lI x9, lI x10, lR b19_0, lV vI2, lR b44_0, lU] []) _
    refine qi X44 hx hby at_163 ?_
    refine qi X44 hx hby at_165 ?_
    refine qi X44 hx hby at_167 ?_
    refine qi X44 hx hby at_169 ?_
    refine qi X44 hx hby at_171 ?_
    refine qi X44 hx hby at_173 ?_
    refine st58 _ ?_
    show SG p e below T58 (mkF m 178 #[lI x0, lI x1, lI x2, lI x3, lI x4, lI x5, lV vI4, lI x6, lI x7, lI x8, lI x9, lI x10, lR b19_0, lV vI2, lR b44_0, lU] [(.ref b58_0)]) _
    refine XS.astore X58.here hx rfl (hb hby at_178) rfl rfl (l' := #[lI x0, lI x1, lI x2, lI x3, lI x4, lI x5, lV vI4, lI x6, lI x7, lI x8, lI x9, lI x10, lR b19_0, lV vI2, lR b44_0, lR b58_0]) rfl ?_
    refine qa X58 hx hby at_180 ?_
    refine XS.ifnullNo X58.here hx rfl (hb hby at_182) rfl ?_
    refine qa X58 hx hby at_185 ?_
    refine qa X58 hx hby at_187 ?_
    refine st76.trans ?_
    show SG p e below T76 (mkF m 192 #[lI x0, lI x1, lI x2, lI x3, lI x4, lI x5, lV vI4, lI x6, lI x7, lI x8, lI x9, lI x10, lR b19_0, lV vI2, lR b44_0, lR b58_0] [vI1]) _
    refine XS.ifNo X76.here hx rfl (hb hby at_192) rfl ((if0 _ _).trans (feq (by decide : ¬ ((1 : Int32) = (0 : Int32)))).1) ?_
    refine qc X76 hx hby at_195 ?_
    refine XS.goto X76.here hx rfl (pc0 := 196) (pc' := 200) rfl (hb hby at_196) (by decide) (by decide) ?_
    show SG p e below T76 (mkF m 200 #[lI x0, lI x1, lI x2, lI x3, lI x4, lI x5, lV vI4, lI x6, lI x7, lI x8, lI x9, lI x10, lR b19_0, lV vI2, lR b44_0, lR b58_0] [vI1]) _
    exact retN X76 hx (t := .boolean) hret (by simp) (hb hby at_200) hr
def Q0_11 (Z : State) (x0 x1 : Int32) (x2 x3 : Int32) (x4 x5 : Int32) (x6 x7 : Int32) (x8 x9 : Int32) (x10 x11 : Int32) (x12 x13 : Int32) (x14 x15 : Int32) (u16 : Value) (h0 : Heap) (n0 : Nat) (v : Option Value) (h : Heap) (L : List Loc) : Prop := v = some vI1 ∧ Fr n0 L
theorem rm0_11 (l : Launch) (Z : State) (a0 : Array Value) (hw : own_HW a0 Z) (ws : List Jvm.Cond) (x0 x1 : Int32) (x2 x3 : Int32) (x4 x5 : Int32) (x6 x7 : Int32) (x8 x9 : Int32) (x10 x11 : Int32) (x12 x13 : Int32) (x14 x15 : Int32) (u16 : Value) (h0 : Heap) (n0 : Nat) (O0 : Old Z n0 h0) (hc2 : ((x0 &&& (2147483647 : Int32)) % (6 : Int32)) = (4 : Int32)) (hq4 : (nar .char (if (x1 &&& (1 : Int32)) = (0 : Int32) then ((((x1.toUInt32 >>> ((1 : Int32) &&& 31).toUInt32).toInt32) &&& (255 : Int32)).toUInt32.toUInt16.toUInt32.toInt32) else (47 : Int32))) = x6) (hq6 : (nar .char (if (x2 &&& (1 : Int32)) = (0 : Int32) then ((((x2.toUInt32 >>> ((1 : Int32) &&& 31).toUInt32).toInt32) &&& (255 : Int32)).toUInt32.toUInt16.toUInt32.toInt32) else (47 : Int32))) = x7) (hq8 : (nar .char (if (x3 &&& (1 : Int32)) = (0 : Int32) then ((((x3.toUInt32 >>> ((1 : Int32) &&& 31).toUInt32).toInt32) &&& (255 : Int32)).toUInt32.toUInt16.toUInt32.toInt32) else (47 : Int32))) = x8) (hq10 : (nar .char (if (x4 &&& (1 : Int32)) = (0 : Int32) then ((((x4.toUInt32 >>> ((1 : Int32) &&& 31).toUInt32).toInt32) &&& (255 : Int32)).toUInt32.toUInt16.toUInt32.toInt32) else (47 : Int32))) = x9) (hq12 : (nar .char (if (x5 &&& (1 : Int32)) = (0 : Int32) then ((((x5.toUInt32 >>> ((1 : Int32) &&& 31).toUInt32).toInt32) &&& (255 : Int32)).toUInt32.toUInt16.toUInt32.toInt32) else (47 : Int32))) = x10) (f13 : Sta Z Z.heap "java/lang/String" "COMPACT_STRINGS" "Z" (.int x11)) (hc14 : ¬ (x11 = (0 : Int32))) (hc15 : ¬ ((255 : Int32) < (nar .char x6))) (hc16 : ¬ ((255 : Int32) < (nar .char x7))) (hc17 : ¬ ((255 : Int32) < (nar .char x8))) (hc18 : ¬ ((255 : Int32) < (nar .char x9))) (hq32 : (if x6 = (47 : Int32) then (0 : Int32) else (-1 : Int32)) = x12) (hq34 : (if x7 = (47 : Int32) then (1 : Int32) else x12) = x13) (hq36 : (if x8 = (47 : Int32) then (2 : Int32) else x13) = x14) (hq38 : (if x9 = (47 : Int32) then (3 : Int32) else x14) = x15) (hc39 : ((nar .char x9).toInt8.toInt32) = (47 : Int32)) (f40 : Sta Z Z.heap cs4 "SIOOBE_FORMATTER" cs5 u16) (hc41 : u16.isRef = true) (hc55 : x15 = (3 : Int32)) :
    own_MH l x code maxLocals ret ws room_1 Z h0 #[(.int x0), (.int x1), (.int x2), (.int x3), (.int x4), (.int x5)] (Q0_11 Z x0 x1 x2 x3 x4 x5 x6 x7 x8 x9 x10 x11 x12 x13 x14 x15 u16 h0 n0) := by
  have hEL : EW Z a0 consts_1 := own_EW hw
  refine own_openH hEL (plainFor_of_name pn_com_example_nearmiss_nearmiss_ElementParentPathPinLaw) (L0 := #[lI x0, lI x1, lI x2, lI x3, lI x4, lI x5, lU, lU, lU, lU, lU, lU, lU, lU, lU, lU]) (fun _ => by first | (simp [entryFrame, mkF, argsToLocals, Value.category, maxLocals]; done) | rfl) ?_
  intro p e s m below meth c s₁ hx hby hml hret hnn hZ hown X0 e0 R0
  have N0 := Fr.nil n0; have w := @ww Z a0 hw
  have hS1 := (State.WarmedH.refl s).since 0
  obtain ⟨_, T3, Lc3, X3, hQ3, st3⟩ := own_cS X0 hx hZ hown e0 (rm1_1 l Z a0 hw [] x1 h0 n0 O0) (w 1 rfl) (w 2 rfl) (w 3 rfl) (w 4 rfl) (by decide) (W := 0) (by decide) (by decide) (by decide) (by decide) (g := (mkF m 10 #[lI x0, lI x1, lI x2, lI x3, lI x4, lI x5, lV vI4, lU, lU, lU, lU, lU, lU, lU, lU, lU] [(.int x1)])) rfl (by rw [hml]; rfl) (argsL := [(.int x1)]) (rest := []) (lenOf pd__I_C rfl) rfl (own_W rfl) (hb hby at_10)
  obtain ⟨rfl, N3q, E3⟩ := hQ3
  have N3 := Fr.app N0 N3q
  obtain ⟨_, T5, Lc5, X5, hQ5, st5⟩ := own_cS X3 hx hZ hown E3 (rm1_1 l Z a0 hw [] x2 h0 n0 O0) (w 1 rfl) (w 2 rfl) (w 3 rfl) (w 4 rfl) (by decide) (W := 0) (by decide) (by decide) (by decide) (by decide) (g := (mkF m 16 #[lI x0, lI x1, lI x2, lI x3, lI x4, lI x5, lV vI4, lI x6, lU, lU, lU, lU, lU, lU, lU, lU] [(.int x2)])) rfl (by rw [hml]; rfl) (argsL := [(.int x2)]) (rest := []) (lenOf pd__I_C rfl) rfl (own_W rfl) (hb hby at_16)
  obtain ⟨rfl, N5q, E5⟩ := hQ5
  have N5 := Fr.app N3 N5q
  obtain ⟨_, T7, Lc7, X7, hQ7, st7⟩ := own_cS X5 hx hZ hown E5 (rm1_1 l Z a0 hw [] x3 h0 n0 O0) (w 1 rfl) (w 2 rfl) (w 3 rfl) (w 4 rfl) (by decide) (W := 0) (by decide) (by decide) (by decide) (by decide) (g := (mkF m 22 #[lI x0, lI x1, lI x2, lI x3, lI x4, lI x5, lV vI4, lI x6, lI x7, lU, lU, lU, lU, lU, lU, lU] [(.int x3)])) rfl (by rw [hml]; rfl) (argsL := [(.int x3)]) (rest := []) (lenOf pd__I_C rfl) rfl (own_W rfl) (hb hby at_22)
  obtain ⟨rfl, N7q, E7⟩ := hQ7
  have N7 := Fr.app N5 N7q
  obtain ⟨_, T9, Lc9, X9, hQ9, st9⟩ := own_cS X7 hx hZ hown E7 (rm1_1 l Z a0 hw [] x4 h0 n0 O0) (w 1 rfl) (w 2 rfl) (w 3 rfl) (w 4 rfl) (by decide) (W := 0) (by decide) (by decide) (by decide) (by decide) (g := (mkF m 29 #[lI x0, lI x1, lI x2, lI x3, lI x4, lI x5, lV vI4, lI x6, lI x7, lI x8, lU, lU, lU, lU, lU, lU] [(.int x4)])) rfl (by rw [hml]; rfl) (argsL := [(.int x4)]) (rest := []) (lenOf pd__I_C rfl) rfl (own_W rfl) (hb hby at_29)
  obtain ⟨rfl, N9q, E9⟩ := hQ9
  have N9 := Fr.app N7 N9q
  obtain ⟨_, T11, Lc11, X11, hQ11, st11⟩ := own_cS X9 hx hZ hown E9 (rm1_1 l Z a0 hw [] x5 h0 n0 O0) (w 1 rfl) (w 2 rfl) (w 3 rfl) (w 4 rfl) (by decide) (W := 0) (by decide) (by decide) (by decide) (by decide) (g := (mkF m 36 #[lI x0, lI x1, lI x2, lI x3, lI x4, lI x5, lV vI4, lI x6, lI x7, lI x8, lI x9, lU, lU, lU, lU, lU] [(.int x5)])) rfl (by rw [hml]; rfl) (argsL := [(.int x5)]) (rest := []) (lenOf pd__I_C rfl) rfl (own_W rfl) (hb hby at_36)
  obtain ⟨rfl, N11q, E11⟩ := hQ11
  have N11 := Fr.app N9 N11q
  obtain ⟨_, T19, Lc19, X19, hQ19, st19⟩ := own_cS X11 hx hZ hown E11 (rm2_5 l Z a0 hw [] x6 x7 x8 x9 x10 x11 h0 n0 O0 f13 hc14 hc15 hc16 hc17 hc18) (w 5 rfl) (w 6 rfl) (w 3 rfl) (w 7 rfl) (by decide) (W := 0) (by decide) (by decide) (by decide) (by decide) (g := (mkF m 53 #[lI x0, lI x1, lI x2, lI x3, lI x4, lI x5, lV vI4, lI x6, lI x7, lI x8, lI x9, lI x10, lU, lU, lU, lU] [(.int x10), (.int x9), (.int x8), (.int x7), (.int x6), vI4])) rfl (by rw [hml]; rfl) (argsL := [vI4, (.int x6), (.int x7), (.int x8), (.int x9), (.int x10)]) (rest := []) (lenOf pd__ICCCCC_Ljava_lang_String_ rfl) rfl (own_W rfl) (hb hby at_53)
  obtain ⟨b19_0, b19_1, k19_0, rfl, N19q, K19, f20, f21, f22, f23, f24, f25, f26, f27⟩ := hQ19
  have N19 := Fr.app N11 N19q
  have R28 := CHr.trans R0 (CHr.keep K19 sf0 R0.1)
  have sf29 : Safe Z consts_1 s.vm h0 b19_0 := Safe.new f20
  have sf30 : Safe Z consts_1 s.vm h0 b19_1 := Safe.new f24
  have dm31 : ∀ t, Steps p.tables e below (T19.setTop (mkF m 76 #[lI x0, lI x1, lI x2, lI x3, lI x4, lI x5, lV vI4, lI x6, lI x7, lI x8, lI x9, lI x10, lR b19_0, .val (.int (if x6 = (47 : Int32) then (0 : Int32) else (-1 : Int32))), lU, lU] [])) t → Steps p.tables e below (T19.setTop (mkF m 70 #[lI x0, lI x1, lI x2, lI x3, lI x4, lI x5, lV vI4, lI x6, lI x7, lI x8, lI x9, lI x10, lR b19_0, .val (.int (-1 : Int32)), lU, lU] [vI47, (.int x6)])) t := by
    intro t kk
    by_cases hd : x6 = (47 : Int32)
    · show SG p e below T19 (mkF m 70 #[lI x0, lI x1, lI x2, lI x3, lI x4, lI x5, lV vI4, lI x6, lI x7, lI x8, lI x9, lI x10, lR b19_0, .val (.int (-1 : Int32)), lU, lU] [vI47, (.int x6)]) _
      refine XS.icmpNo X19.here hx rfl (hb hby at_70) rfl (teq hd).2 ?_
      refine qc X19 hx hby at_73 ?_
      refine XS.istore X19.here hx rfl (hb hby at_74) rfl (l' := #[lI x0, lI x1, lI x2, lI x3, lI x4, lI x5, lV vI4, lI x6, lI x7, lI x8, lI x9, lI x10, lR b19_0, lV vI0, lU, lU]) rfl ?_
      simp only [if_pos hd] at kk
      exact kk
    · show SG p e below T19 (mkF m 70 #[lI x0, lI x1, lI x2, lI x3, lI x4, lI x5, lV vI4, lI x6, lI x7, lI x8, lI x9, lI x10, lR b19_0, .val (.int (-1 : Int32)), lU, lU] [vI47, (.int x6)]) _
      refine XS.icmpYes X19.here hx rfl (pc0 := 70) (pc' := 76) rfl (hb hby at_70) rfl (feq hd).2 (by decide) (by decide) ?_
      simp only [if_neg hd] at kk
      exact kk
  have dm33 : ∀ t, Steps p.tables e below (T19.setTop (mkF m 92 #[lI x0, lI x1, lI x2, lI x3, lI x4, lI x5, lV vI4, lI x6, lI x7, lI x8, lI x9, lI x10, lR b19_0, .val (.int (if x7 = (47 : Int32) then (1 : Int32) else x12)), lU, lU] [])) t → Steps p.tables e below (T19.setTop (mkF m 86 #[lI x0, lI x1, lI x2, lI x3, lI x4, lI x5, lV vI4, lI x6, lI x7, lI x8, lI x9, lI x10, lR b19_0, lI x12, lU, lU] [vI47, (.int x7)])) t := by
    intro t kk
    by_cases hd : x7 = (47 : Int32)
    · show SG p e below T19 (mkF m 86 #[lI x0, lI x1, lI x2, lI x3, lI x4, lI x5, lV vI4, lI x6, lI x7, lI x8, lI x9, lI x10, lR b19_0, lI x12, lU, lU] [vI47, (.int x7)]) _
      refine XS.icmpNo X19.here hx rfl (hb hby at_86) rfl (teq hd).2 ?_
      refine qc X19 hx hby at_89 ?_
      refine XS.istore X19.here hx rfl (hb hby at_90) rfl (l' := #[lI x0, lI x1, lI x2, lI x3, lI x4, lI x5, lV vI4, lI x6, lI x7, lI x8, lI x9, lI x10, lR b19_0, lV vI1, lU, lU]) rfl ?_
      simp only [if_pos hd] at kk
      exact kk
    · show SG p e below T19 (mkF m 86 #[lI x0, lI x1, lI x2, lI x3, lI x4, lI x5, lV vI4, lI x6, lI x7, lI x8, lI x9, lI x10, lR b19_0, lI x12, lU, lU] [vI47, (.int x7)]) _
      refine XS.icmpYes X19.here hx rfl (pc0 := 86) (pc' := 92) rfl (hb hby at_86) rfl (feq hd).2 (by decide) (by decide) ?_
      simp only [if_neg hd] at kk
      exact kk
  have dm35 : ∀ t, Steps p.tables e below (T19.setTop (mkF m 108 #[lI x0, lI x1, lI x2, lI x3, lI x4, lI x5, lV vI4, lI x6, lI x7, lI x8, lI x9, lI x10, lR b19_0, .val (.int (if x8 = (47 : Int32) then (2 : Int32) else x13)), lU, lU] [])) t → Steps p.tables e below (T19.setTop (mkF m 102 #[lI x0, lI x1, lI x2, lI x3, lI x4, lI x5, lV vI4, lI x6, lI x7, lI x8, lI x9, lI x10, lR b19_0, lI x13, lU, lU] [vI47, (.int x8)])) t := by
    intro t kk
    by_cases hd : x8 = (47 : Int32)
    · show SG p e below T19 (mkF m 102 #[lI x0, lI x1, lI x2, lI x3, lI x4, lI x5, lV vI4, lI x6, lI x7, lI x8, lI x9, lI x10, lR b19_0, lI x13, lU, lU] [vI47, (.int x8)]) _
      refine XS.icmpNo X19.here hx rfl (hb hby at_102) rfl (teq hd).2 ?_
      refine qc X19 hx hby at_105 ?_
      refine XS.istore X19.here hx rfl (hb hby at_106) rfl (l' := #[lI x0, lI x1, lI x2, lI x3, lI x4, lI x5, lV vI4, lI x6, lI x7, lI x8, lI x9, lI x10, lR b19_0, lV vI2, lU, lU]) rfl ?_
      simp only [if_pos hd] at kk
      exact kk
    · show SG p e below T19 (mkF m 102 #[lI x0, lI x1, lI x2, lI x3, lI x4, lI x5, lV vI4, lI x6, lI x7, lI x8, lI x9, lI x10, lR b19_0, lI x13, lU, lU] [vI47, (.int x8)]) _
      refine XS.icmpYes X19.here hx rfl (pc0 := 102) (pc' := 108) rfl (hb hby at_102) rfl (feq hd).2 (by decide) (by decide) ?_
      simp only [if_neg hd] at kk
      exact kk
  have dm37 : ∀ t, Steps p.tables e below (T19.setTop (mkF m 124 #[lI x0, lI x1, lI x2, lI x3, lI x4, lI x5, lV vI4, lI x6, lI x7, lI x8, lI x9, lI x10, lR b19_0, .val (.int (if x9 = (47 : Int32) then (3 : Int32) else x14)), lU, lU] [])) t → Steps p.tables e below (T19.setTop (mkF m 118 #[lI x0, lI x1, lI x2, lI x3, lI x4, lI x5, lV vI4, lI x6, lI x7, lI x8, lI x9, lI x10, lR b19_0, lI x14, lU, lU] [vI47, (.int x9)])) t := by
    intro t kk
    by_cases hd : x9 = (47 : Int32)
    · show SG p e below T19 (mkF m 118 #[lI x0, lI x1, lI x2, lI x3, lI x4, lI x5, lV vI4, lI x6, lI x7, lI x8, lI x9, lI x10, lR b19_0, lI x14, lU, lU] [vI47, (.int x9)]) _
      refine XS.icmpNo X19.here hx rfl (hb hby at_118) rfl (teq hd).2 ?_
      refine qc X19 hx hby at_121 ?_
      refine XS.istore X19.here hx rfl (hb hby at_122) rfl (l' := #[lI x0, lI x1, lI x2, lI x3, lI x4, lI x5, lV vI4, lI x6, lI x7, lI x8, lI x9, lI x10, lR b19_0, lV vI3, lU, lU]) rfl ?_
      simp only [if_pos hd] at kk
      exact kk
    · show SG p e below T19 (mkF m 118 #[lI x0, lI x1, lI x2, lI x3, lI x4, lI x5, lV vI4, lI x6, lI x7, lI x8, lI x9, lI x10, lR b19_0, lI x14, lU, lU] [vI47, (.int x9)]) _
      refine XS.icmpYes X19.here hx rfl (pc0 := 118) (pc' := 124) rfl (hb hby at_118) rfl (feq hd).2 (by decide) (by decide) ?_
      simp only [if_neg hd] at kk
      exact kk
  have o42 := Old.keep O0 K19 all0
  obtain ⟨_, T43, Lc43, X43, hQ43, st43⟩ := own_cS X19 hx hZ hown rfl (rm6_5 l Z a0 hw [] b19_0 b19_1 (4 : Int32) k19_0 ([(.int ((nar .char x6).toInt8.toInt32)), (.int ((nar .char x7).toInt8.toInt32)), (.int ((nar .char x8).toInt8.toInt32)), (.int ((nar .char x9).toInt8.toInt32))]) x11 (0 : Int32) 0 (3 : Int32) ((nar .char x9).toInt8.toInt32) u16 T19.heap n0 o42 f21 f23 f25 f13 hc14 f22 (by decide) (by decide) (by decide) (fun j hj => absurd hj (Nat.not_lt_zero j)) (by decide) (own_gd (n := 3) rfl rfl) (by decide) hc39 (by decide) f40 hc41 (by decide) (by decide) (by decide) (by decide) (by decide) (by decide) (by decide) (by decide) (by decide)) (w 30 rfl) (w 31 rfl) (w 32 rfl) (w 33 rfl) (by decide) (W := 0) (by decide) (by decide) (by decide) (by decide) (g := (mkF m 142 #[lI x0, lI x1, lI x2, lI x3, lI x4, lI x5, lV vI4, lI x6, lI x7, lI x8, lI x9, lI x10, lR b19_0, lI x15, lU, lU] [(.ref b19_0)])) rfl (by rw [hml]; rfl) (argsL := [(.ref b19_0)]) (rest := []) (lenOf pd__Ljava_lang_String__Ljava_lang_String_ rfl) rfl (own_W rfl) (hb hby at_142)
  obtain ⟨b43_0, b43_1, k43_0, rfl, N43q, K43, f44, f45, f46, f47, f48, f49, f50, f51⟩ := hQ43
  have N43 := Fr.app N19 N43q
  have R52 := CHr.trans R28 (CHr.keep K43 sf0 R28.1)
  have sf53 : Safe Z consts_1 s.vm T19.heap b43_0 := Safe.new f44
  have sf54 : Safe Z consts_1 s.vm T19.heap b43_1 := Safe.new f48
  have o56 := Old.keep o42 K43 all0
  obtain ⟨_, T57, Lc57, X57, hQ57, st57⟩ := own_cS X43 hx hZ hown rfl (rm2_4 l Z a0 hw [] x6 x7 x8 x9 x10 x11 T43.heap n0 o56 f13 hc14 hc15 hc16 hc17) (w 5 rfl) (w 6 rfl) (w 3 rfl) (w 7 rfl) (by decide) (W := 0) (by decide) (by decide) (by decide) (by decide) (g := (mkF m 175 #[lI x0, lI x1, lI x2, lI x3, lI x4, lI x5, lV vI4, lI x6, lI x7, lI x8, lI x9, lI x10, lR b19_0, lV vI3, lR b43_0, lU] [(.int x10), (.int x9), (.int x8), (.int x7), (.int x6), vI3])) rfl (by rw [hml]; rfl) (argsL := [vI3, (.int x6), (.int x7), (.int x8), (.int x9), (.int x10)]) (rest := []) (lenOf pd__ICCCCC_Ljava_lang_String_ rfl) rfl (own_W rfl) (hb hby at_175)
  obtain ⟨b57_0, b57_1, k57_0, rfl, N57q, K57, f58, f59, f60, f61, f62, f63, f64, f65⟩ := hQ57
  have N57 := Fr.app N43 N57q
  have R66 := CHr.trans R52 (CHr.keep K57 sf0 R52.1)
  have sf67 : Safe Z consts_1 s.vm T43.heap b57_0 := Safe.new f58
  have sf68 : Safe Z consts_1 s.vm T43.heap b57_1 := Safe.new f62
  have f69 := (f47.keep K57 nin0)
  have f70 := (f46.keep K57 nin0)
  have f71 := (f49.keep K57 nin0)
  have f72 := (f45.keep K57)
  have o73 := Old.keep o56 K57 all0
  have f74 := f13.ext o73.2
  obtain ⟨cqq76, kqq76, qq76a, qq76b, qq76c⟩ := isOf hZ rfl f72
  obtain ⟨_, T75, Lc75, X75, hQ75, st75⟩ := own_fin (X57.virtualBack hx (y := mN21) (z := mN21) hown (mvT hZ (w 116 rfl)) (mvT hZ (w 117 rfl)) (notFace_of_selects (args := #[]) (mvT hZ (w 119 rfl))) (mvT hZ (w 119 rfl)) (mvT hZ (w 118 rfl)) (by decide) (own_strEq hZ hw (w 9 rfl) (bs := [((nar .char x6).toInt8.toInt32), ((nar .char x7).toInt8.toInt32), ((nar .char x8).toInt8.toInt32)]) f72 f70 f69 (own_trunc (ws := [(.int ((nar .char x6).toInt8.toInt32)), (.int ((nar .char x7).toInt8.toInt32)), (.int ((nar .char x8).toInt8.toInt32))]) (rest := [(.int ((nar .char x9).toInt8.toInt32))]) (own_lenK (n := 3) rfl (by decide)) f71) (own_ofLen (n := 3) (by decide) rfl) (Nat.le_of_ble_eq_true rfl) (ds := [((nar .char x6).toInt8.toInt32), ((nar .char x7).toInt8.toInt32), ((nar .char x8).toInt8.toInt32)]) f59 f61 f60 f63 (own_ofLen (n := 3) (by decide) rfl) (Nat.le_of_ble_eq_true rfl) f74 hc14 (r := 1) (n0 := n0) (Or.inl ⟨rfl, rfl⟩) (by decide) (by decide : 0 + 28 ≤ _)) qq76a qq76c (g := (mkF m 189 #[lI x0, lI x1, lI x2, lI x3, lI x4, lI x5, lV vI4, lI x6, lI x7, lI x8, lI x9, lI x10, lR b19_0, lV vI3, lR b43_0, lR b57_0] [(.ref b57_0), (.ref b43_0)])) rfl (by rw [hml]; rfl) (Steps.refl _) (argsL := [(.ref b57_0)]) (rest := []) (lenOf pd__Ljava_lang_Object__Z rfl) rfl (own_W rfl) (hb hby at_189) (fun _ _ => ⟨rfl, rfl, (by decide : 8 + 0 ≤ _), (by decide : 34 + 0 ≤ _)⟩))
  obtain ⟨rfl, N75q, E75⟩ := hQ75
  have N75 := Fr.app N57 N75q
  refine ⟨some vI1, _, _, _, _, _, _, _, nofun, X75, by decide, by decide, hS1, (by rw [E75]; exact (Nat.zero_le _)), hZ, E75, R66, ?_, fun fs hr => ?_⟩
  · rw [E75]; exact ⟨rfl, N75⟩
  · show SG p e below s₁ (mkF m 0 #[lI x0, lI x1, lI x2, lI x3, lI x4, lI x5, lU, lU, lU, lU, lU, lU, lU, lU, lU, lU] []) _
    refine qiN X0 hx hby at_0 ?_
    refine X0.ldcInt hx hown (mvT hZ (w 0 rfl)) (g := (mkF m 1 #[lI x0, lI x1, lI x2, lI x3, lI x4, lI x5, lU, lU, lU, lU, lU, lU, lU, lU, lU, lU] [(.int x0)])) rfl (hb hby at_1) _ ?_
    show SG p e below s₁ (mkF m 3 #[lI x0, lI x1, lI x2, lI x3, lI x4, lI x5, lU, lU, lU, lU, lU, lU, lU, lU, lU, lU] [vI2147483647, (.int x0)]) _
    refine XS.iand X0.here hx rfl (hb hby at_3) rfl ?_
    refine qb X0 hx hby at_4 ?_
    refine iremM (g := (mkF m 6 #[lI x0, lI x1, lI x2, lI x3, lI x4, lI x5, lU, lU, lU, lU, lU, lU, lU, lU, lU, lU] [vI6, (.int (x0 &&& (2147483647 : Int32)))])) X0 hx rfl (hb hby at_6) rfl (by decide : ¬ ((6 : Int32) = (0 : Int32))) ?_
    show SG p e below s₁ (mkF m 7 #[lI x0, lI x1, lI x2, lI x3, lI x4, lI x5, lU, lU, lU, lU, lU, lU, lU, lU, lU, lU] [(.int ((x0 &&& (2147483647 : Int32)) % (6 : Int32)))]) _
    rw [hc2]
    show SG p e below s₁ (mkF m 7 #[lI x0, lI x1, lI x2, lI x3, lI x4, lI x5, lU, lU, lU, lU, lU, lU, lU, lU, lU, lU] [vI4]) _
    refine XS.istore X0.here hx rfl (hb hby at_7) rfl (l' := #[lI x0, lI x1, lI x2, lI x3, lI x4, lI x5, lV vI4, lU, lU, lU, lU, lU, lU, lU, lU, lU]) rfl ?_
    refine qiN X0 hx hby at_9 ?_
    refine st3 _ ?_
    show SG p e below T3 (mkF m 13 #[lI x0, lI x1, lI x2, lI x3, lI x4, lI x5, lV vI4, lU, lU, lU, lU, lU, lU, lU, lU, lU] [(.int (nar .char (if (x1 &&& (1 : Int32)) = (0 : Int32) then ((((x1.toUInt32 >>> ((1 : Int32) &&& 31).toUInt32).toInt32) &&& (255 : Int32)).toUInt32.toUInt16.toUInt32.toInt32) else (47 : Int32))))]) _
    rw [hq4]
    show SG p e below T3 (mkF m 13 #[lI x0, lI x1, lI x2, lI x3, lI x4, lI x5, lV vI4, lU, lU, lU, lU, lU, lU, lU, lU, lU] [(.int x6)]) _
    refine XS.istore X3.here hx rfl (hb hby at_13) rfl (l' := #[lI x0, lI x1, lI x2, lI x3, lI x4, lI x5, lV vI4, lI x6, lU, lU, lU, lU, lU, lU, lU, lU]) rfl ?_
    refine qiN X3 hx hby at_15 ?_
    refine st5 _ ?_
    show SG p e below T5 (mkF m 19 #[lI x0, lI x1, lI x2, lI x3, lI x4, lI x5, lV vI4, lI x6, lU, lU, lU, lU, lU, lU, lU, lU] [(.int (nar .char (if (x2 &&& (1 : Int32)) = (0 : Int32) then ((((x2.toUInt32 >>> ((1 : Int32) &&& 31).toUInt32).toInt32) &&& (255 : Int32)).toUInt32.toUInt16.toUInt32.toInt32) else (47 : Int32))))]) _
    rw [hq6]
    show SG p e below T5 (mkF m 19 #[lI x0, lI x1, lI x2, lI x3, lI x4, lI x5, lV vI4, lI x6, lU, lU, lU, lU, lU, lU, lU, lU] [(.int x7)]) _
    refine XS.istore X5.here hx rfl (hb hby at_19) rfl (l' := #[lI x0, lI x1, lI x2, lI x3, lI x4, lI x5, lV vI4, lI x6, lI x7, lU, lU, lU, lU, lU, lU, lU]) rfl ?_
    refine qiN X5 hx hby at_21 ?_
    refine st7 _ ?_
    show SG p e below T7 (mkF m 25 #[lI x0, lI x1, lI x2, lI x3, lI x4, lI x5, lV vI4, lI x6, lI x7, lU, lU, lU, lU, lU, lU, lU] [(.int (nar .char (if (x3 &&& (1 : Int32)) = (0 : Int32) then ((((x3.toUInt32 >>> ((1 : Int32) &&& 31).toUInt32).toInt32) &&& (255 : Int32)).toUInt32.toUInt16.toUInt32.toInt32) else (47 : Int32))))]) _
    rw [hq8]
    show SG p e below T7 (mkF m 25 #[lI x0, lI x1, lI x2, lI x3, lI x4, lI x5, lV vI4, lI x6, lI x7, lU, lU, lU, lU, lU, lU, lU] [(.int x8)]) _
    refine XS.istore X7.here hx rfl (hb hby at_25) rfl (l' := #[lI x0, lI x1, lI x2, lI x3, lI x4, lI x5, lV vI4, lI x6, lI x7, lI x8, lU, lU, lU, lU, lU, lU]) rfl ?_
    refine qi X7 hx hby at_27 ?_
    refine st9 _ ?_
    show SG p e below T9 (mkF m 32 #[lI x0, lI x1, lI x2, lI x3, lI x4, lI x5, lV vI4, lI x6, lI x7, lI x8, lU, lU, lU, lU, lU, lU] [(.int (nar .char (if (x4 &&& (1 : Int32)) = (0 : Int32) then ((((x4.toUInt32 >>> ((1 : Int32) &&& 31).toUInt32).toInt32) &&& (255 : Int32)).toUInt32.toUInt16.toUInt32.toInt32) else (47 : Int32))))]) _
    rw [hq10]
    show SG p e below T9 (mkF m 32 #[lI x0, lI x1, lI x2, lI x3, lI x4, lI x5, lV vI4, lI x6, lI x7, lI x8, lU, lU, lU, lU, lU, lU] [(.int x9)]) _
    refine XS.istore X9.here hx rfl (hb hby at_32) rfl (l' := #[lI x0, lI x1, lI x2, lI x3, lI x4, lI x5, lV vI4, lI x6, lI x7, lI x8, lI x9, lU, lU, lU, lU, lU]) rfl ?_
    refine qi X9 hx hby at_34 ?_
    refine st11 _ ?_
    show SG p e below T11 (mkF m 39 #[lI x0, lI x1, lI x2, lI x3, lI x4, lI x5, lV vI4, lI x6, lI x7, lI x8, lI x9, lU, lU, lU, lU, lU] [(.int (nar .char (if (x5 &&& (1 : Int32)) = (0 : Int32) then ((((x5.toUInt32 >>> ((1 : Int32) &&& 31).toUInt32).toInt32) &&& (255 : Int32)).toUInt32.toUInt16.toUInt32.toInt32) else (47 : Int32))))]) _
    rw [hq12]
    show SG p e below T11 (mkF m 39 #[lI x0, lI x1, lI x2, lI x3, lI x4, lI x5, lV vI4, lI x6, lI x7, lI x8, lI x9, lU, lU, lU, lU, lU] [(.int x10)]) _
    refine XS.istore X11.here hx rfl (hb hby at_39) rfl (l' := #[lI x0, lI x1, lI x2, lI x3, lI x4, lI x5, lV vI4, lI x6, lI x7, lI x8, lI x9, lI x10, lU, lU, lU, lU]) rfl ?_
    refine qi X11 hx hby at_41 ?_
    refine qi X11 hx hby at_43 ?_
    refine qi X11 hx hby at_45 ?_
    refine qi X11 hx hby at_47 ?_
    refine qi X11 hx hby at_49 ?_
    refine qi X11 hx hby at_51 ?_
    refine st19 _ ?_
    show SG p e below T19 (mkF m 56 #[lI x0, lI x1, lI x2, lI x3, lI x4, lI x5, lV vI4, lI x6, lI x7, lI x8, lI x9, lI x10, lU, lU, lU, lU] [(.ref b19_0)]) _
    refine XS.astore X19.here hx rfl (hb hby at_56) rfl rfl (l' := #[lI x0, lI x1, lI x2, lI x3, lI x4, lI x5, lV vI4, lI x6, lI x7, lI x8, lI x9, lI x10, lR b19_0, lU, lU, lU]) rfl ?_
    refine qc X19 hx hby at_58 ?_
    refine XS.istore X19.here hx rfl (hb hby at_59) rfl (l' := #[lI x0, lI x1, lI x2, lI x3, lI x4, lI x5, lV vI4, lI x6, lI x7, lI x8, lI x9, lI x10, lR b19_0, .val (.int (-1 : Int32)), lU, lU]) rfl ?_
    refine qi X19 hx hby at_61 ?_
    refine XS.ifNo X19.here hx rfl (hb hby at_63) rfl ((if0 _ _).trans (tlt (by decide : (0 : Int32) < (4 : Int32))).2.2.2) ?_
    refine qi X19 hx hby at_66 ?_
    refine qb X19 hx hby at_68 ?_
    show SG p e below T19 (mkF m 70 #[lI x0, lI x1, lI x2, lI x3, lI x4, lI x5, lV vI4, lI x6, lI x7, lI x8, lI x9, lI x10, lR b19_0, .val (.int (-1 : Int32)), lU, lU] [vI47, (.int x6)]) _
    refine dm31 _ ?_
    show SG p e below T19 (mkF m 76 #[lI x0, lI x1, lI x2, lI x3, lI x4, lI x5, lV vI4, lI x6, lI x7, lI x8, lI x9, lI x10, lR b19_0, .val (.int (if x6 = (47 : Int32) then (0 : Int32) else (-1 : Int32))), lU, lU] []) _
    rw [hq32]
    show SG p e below T19 (mkF m 76 #[lI x0, lI x1, lI x2, lI x3, lI x4, lI x5, lV vI4, lI x6, lI x7, lI x8, lI x9, lI x10, lR b19_0, lI x12, lU, lU] []) _
    refine qi X19 hx hby at_76 ?_
    refine qc X19 hx hby at_78 ?_
    refine XS.icmpNo X19.here hx rfl (hb hby at_79) rfl (tlt (by decide : (1 : Int32) < (4 : Int32))).2.2.2 ?_
    refine qi X19 hx hby at_82 ?_
    refine qb X19 hx hby at_84 ?_
    show SG p e below T19 (mkF m 86 #[lI x0, lI x1, lI x2, lI x3, lI x4, lI x5, lV vI4, lI x6, lI x7, lI x8, lI x9, lI x10, lR b19_0, lI x12, lU, lU] [vI47, (.int x7)]) _
    refine dm33 _ ?_
    show SG p e below T19 (mkF m 92 #[lI x0, lI x1, lI x2, lI x3, lI x4, lI x5, lV vI4, lI x6, lI x7, lI x8, lI x9, lI x10, lR b19_0, .val (.int (if x7 = (47 : Int32) then (1 : Int32) else x12)), lU, lU] []) _
    rw [hq34]
    show SG p e below T19 (mkF m 92 #[lI x0, lI x1, lI x2, lI x3, lI x4, lI x5, lV vI4, lI x6, lI x7, lI x8, lI x9, lI x10, lR b19_0, lI x13, lU, lU] []) _
    refine qi X19 hx hby at_92 ?_
    refine qc X19 hx hby at_94 ?_
    refine XS.icmpNo X19.here hx rfl (hb hby at_95) rfl (tlt (by decide : (2 : Int32) < (4 : Int32))).2.2.2 ?_
    refine qi X19 hx hby at_98 ?_
    refine qb X19 hx hby at_100 ?_
    show SG p e below T19 (mkF m 102 #[lI x0, lI x1, lI x2, lI x3, lI x4, lI x5, lV vI4, lI x6, lI x7, lI x8, lI x9, lI x10, lR b19_0, lI x13, lU, lU] [vI47, (.int x8)]) _
    refine dm35 _ ?_
    show SG p e below T19 (mkF m 108 #[lI x0, lI x1, lI x2, lI x3, lI x4, lI x5, lV vI4, lI x6, lI x7, lI x8, lI x9, lI x10, lR b19_0, .val (.int (if x8 = (47 : Int32) then (2 : Int32) else x13)), lU, lU] []) _
    rw [hq36]
    show SG p e below T19 (mkF m 108 #[lI x0, lI x1, lI x2, lI x3, lI x4, lI x5, lV vI4, lI x6, lI x7, lI x8, lI x9, lI x10, lR b19_0, lI x14, lU, lU] []) _
    refine qi X19 hx hby at_108 ?_
    refine qc X19 hx hby at_110 ?_
    refine XS.icmpNo X19.here hx rfl (hb hby at_111) rfl (tlt (by decide : (3 : Int32) < (4 : Int32))).2.2.2 ?_
    refine qi X19 hx hby at_114 ?_
    refine qb X19 hx hby at_116 ?_
    show SG p e below T19 (mkF m 118 #[lI x0, lI x1, lI x2, lI x3, lI x4, lI x5, lV vI4, lI x6, lI x7, lI x8, lI x9, lI x10, lR b19_0, lI x14, lU, lU] [vI47, (.int x9)]) _
    refine dm37 _ ?_
    show SG p e below T19 (mkF m 124 #[lI x0, lI x1, lI x2, lI x3, lI x4, lI x5, lV vI4, lI x6, lI x7, lI x8, lI x9, lI x10, lR b19_0, .val (.int (if x9 = (47 : Int32) then (3 : Int32) else x14)), lU, lU] []) _
    rw [hq38]
    show SG p e below T19 (mkF m 124 #[lI x0, lI x1, lI x2, lI x3, lI x4, lI x5, lV vI4, lI x6, lI x7, lI x8, lI x9, lI x10, lR b19_0, lI x15, lU, lU] []) _
    refine qi X19 hx hby at_124 ?_
    refine qc X19 hx hby at_126 ?_
    refine XS.icmpYes X19.here hx rfl (pc0 := 127) (pc' := 140) rfl (hb hby at_127) rfl (flt (by decide : ¬ ((4 : Int32) < (4 : Int32)))).2.2.2 (by decide) (by decide) ?_
    show SG p e below T19 (mkF m 140 #[lI x0, lI x1, lI x2, lI x3, lI x4, lI x5, lV vI4, lI x6, lI x7, lI x8, lI x9, lI x10, lR b19_0, lI x15, lU, lU] []) _
    refine qa X19 hx hby at_140 ?_
    refine st43 _ ?_
    show SG p e below T43 (mkF m 145 #[lI x0, lI x1, lI x2, lI x3, lI x4, lI x5, lV vI4, lI x6, lI x7, lI x8, lI x9, lI x10, lR b19_0, lI x15, lU, lU] [(.ref b43_0)]) _
    refine XS.astore X43.here hx rfl (hb hby at_145) rfl rfl (l' := #[lI x0, lI x1, lI x2, lI x3, lI x4, lI x5, lV vI4, lI x6, lI x7, lI x8, lI x9, lI x10, lR b19_0, lI x15, lR b43_0, lU]) rfl ?_
    refine qi X43 hx hby at_147 ?_
    show SG p e below T43 (mkF m 149 #[lI x0, lI x1, lI x2, lI x3, lI x4, lI x5, lV vI4, lI x6, lI x7, lI x8, lI x9, lI x10, lR b19_0, lI x15, lR b43_0, lU] [(.int x15)]) _
    rw [hc55]
    show SG p e below T43 (mkF m 149 #[lI x0, lI x1, lI x2, lI x3, lI x4, lI x5, lV vI4, lI x6, lI x7, lI x8, lI x9, lI x10, lR b19_0, lV vI3, lR b43_0, lU] [vI3]) _
    refine XS.ifYes X43.here hx rfl (pc0 := 149) (pc' := 163) rfl (hb hby at_149) rfl ((if0 _ _).trans (tlt (by decide : (0 : Int32) < (3 : Int32))).2.2.1) (by decide) (by decide) ?_
    show SG p e below T43 (mkF m 163 #[lI x0, lI x1, lI x2, lI x3, lI x4, lI x5, lV vI4, lI x6, lI x7, lI x8, lI x9, lI x10, lR b19_0, lV vI3, lR b43_0, lU] []) _
    refine qi X43 hx hby at_163 ?_
    refine qi X43 hx hby at_165 ?_
    refine qi X43 hx hby at_167 ?_
    refine qi X43 hx hby at_169 ?_
    refine qi X43 hx hby at_171 ?_
    refine qi X43 hx hby at_173 ?_
    refine st57 _ ?_
    show SG p e below T57 (mkF m 178 #[lI x0, lI x1, lI x2, lI x3, lI x4, lI x5, lV vI4, lI x6, lI x7, lI x8, lI x9, lI x10, lR b19_0, lV vI3, lR b43_0, lU] [(.ref b57_0)]) _
    refine XS.astore X57.here hx rfl (hb hby at_178) rfl rfl (l' := #[lI x0, lI x1, lI x2, lI x3, lI x4, lI x5, lV vI4, lI x6, lI x7, lI x8, lI x9, lI x10, lR b19_0, lV vI3, lR b43_0, lR b57_0]) rfl ?_
    refine qa X57 hx hby at_180 ?_
    refine XS.ifnullNo X57.here hx rfl (hb hby at_182) rfl ?_
    refine qa X57 hx hby at_185 ?_
    refine qa X57 hx hby at_187 ?_
    refine st75.trans ?_
    show SG p e below T75 (mkF m 192 #[lI x0, lI x1, lI x2, lI x3, lI x4, lI x5, lV vI4, lI x6, lI x7, lI x8, lI x9, lI x10, lR b19_0, lV vI3, lR b43_0, lR b57_0] [vI1]) _
    refine XS.ifNo X75.here hx rfl (hb hby at_192) rfl ((if0 _ _).trans (feq (by decide : ¬ ((1 : Int32) = (0 : Int32)))).1) ?_
    refine qc X75 hx hby at_195 ?_
    refine XS.goto X75.here hx rfl (pc0 := 196) (pc' := 200) rfl (hb hby at_196) (by decide) (by decide) ?_
    show SG p e below T75 (mkF m 200 #[lI x0, lI x1, lI x2, lI x3, lI x4, lI x5, lV vI4, lI x6, lI x7, lI x8, lI x9, lI x10, lR b19_0, lV vI3, lR b43_0, lR b57_0] [vI1]) _
    exact retN X75 hx (t := .boolean) hret (by simp) (hb hby at_200) hr
theorem d2_120 : DK cB2 120 (.new 7) 3 := by decide +kernel
theorem d2_123 : DK cB2 123 (.dup) 1 := by decide +kernel
theorem d2_124 : DK cB2 124 (.iconst 5) 1 := by decide +kernel
theorem d2_125 : DK cB2 125 (.newarray .char) 2 := by decide +kernel
theorem d2_127 : DK cB2 127 (.dup) 1 := by decide +kernel
theorem d2_128 : DK cB2 128 (.iconst 0) 1 := by decide +kernel
theorem d2_129 : DK cB2 129 (.iload_n 1) 1 := by decide +kernel
theorem d2_130 : DK cB2 130 (.castore) 1 := by decide +kernel
theorem d2_131 : DK cB2 131 (.dup) 1 := by decide +kernel
theorem d2_132 : DK cB2 132 (.iconst 1) 1 := by decide +kernel
theorem d2_133 : DK cB2 133 (.iload_n 2) 1 := by decide +kernel
theorem d2_134 : DK cB2 134 (.castore) 1 := by decide +kernel
theorem d2_135 : DK cB2 135 (.dup) 1 := by decide +kernel
theorem d2_136 : DK cB2 136 (.iconst 2) 1 := by decide +kernel
theorem d2_137 : DK cB2 137 (.iload_n 3) 1 := by decide +kernel
theorem d2_138 : DK cB2 138 (.castore) 1 := by decide +kernel
theorem d2_139 : DK cB2 139 (.dup) 1 := by decide +kernel
theorem d2_140 : DK cB2 140 (.iconst 3) 1 := by decide +kernel
theorem d2_141 : DK cB2 141 (.iload 4) 2 := by decide +kernel
theorem d2_143 : DK cB2 143 (.castore) 1 := by decide +kernel
theorem d2_144 : DK cB2 144 (.dup) 1 := by decide +kernel
theorem d2_145 : DK cB2 145 (.iconst 4) 1 := by decide +kernel
theorem d2_146 : DK cB2 146 (.iload 5) 2 := by decide +kernel
theorem d2_148 : DK cB2 148 (.castore) 1 := by decide +kernel
theorem d2_149 : DK cB2 149 (.invokespecial 9) 3 := by decide +kernel
theorem d2_152 : DK cB2 152 (.areturn) 1 := by decide +kernel
def Q2_6 (Z : State) (x0 x1 : Int32) (x2 x3 : Int32) (x4 x5 : Int32) (h0 : Heap) (n0 : Nat) (v : Option Value) (h : Heap) (L : List Loc) : Prop := ∃ (b1 b31_0 : Addr) (k31_0 : ClassId), v = some (.ref b1) ∧ Fr n0 L ∧ Keep h0 h [] ∧ h0.size ≤ b1 ∧ Exa Z h b1 "java/lang/String" ∧ Fld Z h b1 "java/lang/String" "coder" "B" vI0 ∧ Fld Z h b1 "java/lang/String" "value" "[B" (.ref b31_0) ∧ h0.size ≤ b31_0 ∧ Arv Z h b31_0 k31_0 .byte (5 : Int32) [(.int ((nar .char x0).toInt8.toInt32)), (.int ((nar .char x1).toInt8.toInt32)), (.int ((nar .char x2).toInt8.toInt32)), (.int ((nar .char x3).toInt8.toInt32)), (.int ((nar .char x4).toInt8.toInt32))] vI0 ∧ Exa Z h b31_0 "[B" ∧ b1 ≠ b31_0
theorem rm2_6 (l : Launch) (Z : State) (a0 : Array Value) (hw : own_HW a0 Z) (ws : List Jvm.Cond) (x0 x1 : Int32) (x2 x3 : Int32) (x4 x5 : Int32) (h0 : Heap) (n0 : Nat) (O0 : Old Z n0 h0) (f19 : Sta Z Z.heap "java/lang/String" "COMPACT_STRINGS" "Z" (.int x5)) (hc23 : ¬ (x5 = (0 : Int32))) (hc26 : ¬ ((255 : Int32) < (nar .char x0))) (hc27 : ¬ ((255 : Int32) < (nar .char x1))) (hc28 : ¬ ((255 : Int32) < (nar .char x2))) (hc29 : ¬ ((255 : Int32) < (nar .char x3))) (hc30 : ¬ ((255 : Int32) < (nar .char x4))) :
    own_MF l mN3 method_3_code 6 (some (.object "java/lang/String")) ws rR4_3_14_66 Z h0 #[vI5, (.int x0), (.int x1), (.int x2), (.int x3), (.int x4)] (Q2_6 Z x0 x1 x2 x3 x4 x5 h0 n0) := by
  refine own_open (plainFor_of_name pn_com_example_nearmiss_nearmiss_ElementParentPathPinLaw) (L0 := #[lV vI5, lI x0, lI x1, lI x2, lI x3, lI x4]) (fun _ => by first | (simp [entryFrame, mkF, argsToLocals, Value.category]; done) | rfl) ?_
  intro p e s m below meth c s₁ hx hby hml hret hnn hZ hown X0 e0
  have N0 := Fr.nil n0; have w := @ww Z a0 hw
  obtain ⟨T1, h1, X1, e1, E1, A1, D1, -, st1⟩ := newO X0 hx hZ hown (w 8 rfl) (w 9 rfl) (w 10 rfl) e0 (g := (mkF m 120 #[lV vI5, lI x0, lI x1, lI x2, lI x3, lI x4] [])) rfl (hb hby d2_120) (by decide) (by decide)
  obtain ⟨b1, g1⟩ : ∃ z, z = h0.size := ⟨_, rfl⟩
  rw [← g1] at A1 D1 st1
  have f2 : Fld Z h1 b1 "java/lang/String" "value" "[B" .null := D1 (Or.inr (w 24 rfl)) (ty := (.array .byte)) (by decide)
  have f3 : Fld Z h1 b1 "java/lang/String" "coder" "B" vI0 := D1 (Or.inr (w 25 rfl)) (ty := .byte) (by decide)
  obtain ⟨T4, h4, k4, X4, e4, E4, A4, B4, st4⟩ := newPE X1 hx hZ (w 11 rfl) e1 (g := (mkF m 125 #[lV vI5, lI x0, lI x1, lI x2, lI x3, lI x4] [vI5, (.ref b1), (.ref b1)])) rfl (hb hby d2_125) rfl (by decide) (cap := 5) (by decide) (by decide) (by decide) (by decide) (ad := "[C") rfl
  obtain ⟨b4, g4⟩ : ∃ z, z = h1.size := ⟨_, rfl⟩
  rw [← g4] at A4 B4 st4
  have V4 : Arv Z h4 b4 k4 .char (5 : Int32) [vI0, vI0, vI0, vI0, vI0] vI0 := (Arv.new A4 (by decide)).pad (pad_rep [] vI0 5)
  have o7 := Old.ext O0 E1
  have zz6 : n0 ≤ h1.size := by rw [← o7.1]; exact o7.2.1
  have g8 := Nat.le_trans zz6 (Nat.le_of_eq g4.symm)
  obtain ⟨T9, h9, L9, X9, e9, N9, K9, V9, st9⟩ := own_stC X4 hx hZ e4 (Keep.refl _ _) V4 N0 g8 0 rfl (Nat.le_of_ble_eq_true rfl) ⟨by decide, by decide⟩ (g := (mkF m 130 #[lV vI5, lI x0, lI x1, lI x2, lI x3, lI x4] [(.int x0), vI0, (.ref b4), (.ref b4), (.ref b1), (.ref b1)])) rfl rfl (hb hby d2_130)
  obtain ⟨T10, h10, L10, X10, e10, N10, K10, V10, st10⟩ := own_stC X9 hx hZ e9 K9 V9 N9 g8 1 rfl (Nat.le_of_ble_eq_true rfl) ⟨by decide, by decide⟩ (g := (mkF m 134 #[lV vI5, lI x0, lI x1, lI x2, lI x3, lI x4] [(.int x1), vI1, (.ref b4), (.ref b4), (.ref b1), (.ref b1)])) rfl rfl (hb hby d2_134)
  obtain ⟨T11, h11, L11, X11, e11, N11, K11, V11, st11⟩ := own_stC X10 hx hZ e10 K10 V10 N10 g8 2 rfl (Nat.le_of_ble_eq_true rfl) ⟨by decide, by decide⟩ (g := (mkF m 138 #[lV vI5, lI x0, lI x1, lI x2, lI x3, lI x4] [(.int x2), vI2, (.ref b4), (.ref b4), (.ref b1), (.ref b1)])) rfl rfl (hb hby d2_138)
  obtain ⟨T12, h12, L12, X12, e12, N12, K12, V12, st12⟩ := own_stC X11 hx hZ e11 K11 V11 N11 g8 3 rfl (Nat.le_of_ble_eq_true rfl) ⟨by decide, by decide⟩ (g := (mkF m 143 #[lV vI5, lI x0, lI x1, lI x2, lI x3, lI x4] [(.int x3), vI3, (.ref b4), (.ref b4), (.ref b1), (.ref b1)])) rfl rfl (hb hby d2_143)
  obtain ⟨T13, h13, L13, X13, e13, N13, K13, V13, st13⟩ := own_stC X12 hx hZ e12 K12 V12 N12 g8 4 rfl (Nat.le_of_ble_eq_true rfl) ⟨by decide, by decide⟩ (g := (mkF m 148 #[lV vI5, lI x0, lI x1, lI x2, lI x3, lI x4] [(.int x4), vI4, (.ref b4), (.ref b4), (.ref b1), (.ref b1)])) rfl rfl (hb hby d2_148)
  have f14 : Arv Z h13 b4 k4 .char (5 : Int32) [(.int (nar .char x0)), (.int (nar .char x1)), (.int (nar .char x2)), (.int (nar .char x3)), (.int (nar .char x4))] vI0 := V13
  have f15 := ((A1.ext E4).keep K13)
  have n16 := Nat.ne_of_lt (Nat.lt_of_lt_of_le A1.lt (Nat.le_of_eq g4.symm))
  have f17 := ((f2.ext E4).keep K13 (ninS n16 nin0))
  have f18 := ((f3.ext E4).keep K13 (ninS n16 nin0))
  have o20 := Old.ext o7 E4
  have o21 := Old.keep o20 K13 (allS g8 all0)
  have f22 := f19.ext o21.2
  have zz24 : n0 ≤ h0.size := by rw [← O0.1]; exact O0.2.1
  have g25 := Nat.le_trans zz24 (Nat.le_of_eq g1.symm)
  obtain ⟨_, T31, Lc31, X31, hQ31, st31⟩ := own_fin (X13.specialBack hx (y := mN2) rfl hown (mvT hZ (w 12 rfl)) (mvT hZ (w 13 rfl)) (mvT hZ (w 14 rfl)) (by decide) (own_newStr hZ hw (w 9 rfl) (cs := [(nar .char x0), (nar .char x1), (nar .char x2), (nar .char x3), (nar .char x4)]) (n := 5) g25 f15 f17 f18 f14 f22 hc23 rfl rfl (by decide) (by decide) (own_acS hc26 (own_acS hc27 (own_acS hc28 (own_acS hc29 (own_acS hc30 own_ac0))))) (own_bsS rfl (own_bsS rfl (own_bsS rfl (own_bsS rfl (own_bsS rfl own_bs0))))) (by decide) (by decide : 1 + 65 ≤ _)) (g := (mkF m 149 #[lV vI5, lI x0, lI x1, lI x2, lI x3, lI x4] [(.ref b4), (.ref b1), (.ref b1)])) rfl (by rw [hml]; rfl) (Steps.refl _) (a := b1) (argsL := [(.ref b4)]) (rest := [(.ref b1)]) (lenOf pd___C_V rfl) rfl (own_W rfl) (hb hby d2_149) (fun _ _ => ⟨rfl, e13, (by decide : 2 + 1 ≤ _), (by decide : 9 + 5 ≤ _)⟩))
  obtain ⟨b31_0, k31_0, rfl, N31q, K31, f32, f33, f34, f35, f36, f37⟩ := hQ31
  have N31 := Fr.app N13 N31q
  have f38 := (f15.keep K31)
  have zs39 := E1.1
  have zs40 := Nat.le_trans zs39 E4.1
  have zs41 := Nat.le_trans zs40 K13.1
  have zs42 := E4.1
  have zs43 := Nat.le_trans zs42 K13.1
  have n44 := Nat.ne_of_lt (Nat.lt_of_lt_of_le (Nat.lt_of_lt_of_le A1.lt zs43) f34)
  have kp45 : Keep h0 h1 [] := (Keep.refl h0 []).ext E1
  have kp46 : Keep h0 h4 [] := kp45.ext E4
  have kp47 : Keep h0 h13 [] := kp46.trans K13 (allS (Or.inr (Nat.le_trans zs39 (Nat.le_of_eq g4.symm))) all0)
  have kp48 : Keep h0 T31.heap [] := kp47.trans K31 (allS (Or.inr (Nat.le_of_eq g1.symm)) all0)
  refine ⟨some (.ref b1), _, _, _, _, nofun, X31, by decide, by decide, ?_, fun fs hr => ?_⟩
  · exact ⟨b1, b31_0, k31_0, rfl, N31, kp48, (Nat.le_of_eq g1.symm), f38, f32, f33, (Nat.le_trans zs41 f34), f35, f36, n44⟩
  · show SG p e below s₁ (mkF m 0 #[lV vI5, lI x0, lI x1, lI x2, lI x3, lI x4] []) _
    refine qiN X0 hx hby d2_0 ?_
    refine XS.ifYes X0.here hx rfl (pc0 := 1) (pc' := 15) rfl (hb hby d2_1) rfl ((if0 _ _).trans (tlt (by decide : (0 : Int32) < (5 : Int32))).2.2.1) (by decide) (by decide) ?_
    show SG p e below s₁ (mkF m 15 #[lV vI5, lI x0, lI x1, lI x2, lI x3, lI x4] []) _
    refine qiN X0 hx hby d2_15 ?_
    refine qc X0 hx hby d2_16 ?_
    refine XS.icmpYes X0.here hx rfl (pc0 := 17) (pc' := 35) rfl (hb hby d2_17) rfl (feq (by decide : ¬ ((5 : Int32) = (1 : Int32)))).2 (by decide) (by decide) ?_
    show SG p e below s₁ (mkF m 35 #[lV vI5, lI x0, lI x1, lI x2, lI x3, lI x4] []) _
    refine qiN X0 hx hby d2_35 ?_
    refine qc X0 hx hby d2_36 ?_
    refine XS.icmpYes X0.here hx rfl (pc0 := 37) (pc' := 59) rfl (hb hby d2_37) rfl (feq (by decide : ¬ ((5 : Int32) = (2 : Int32)))).2 (by decide) (by decide) ?_
    show SG p e below s₁ (mkF m 59 #[lV vI5, lI x0, lI x1, lI x2, lI x3, lI x4] []) _
    refine qiN X0 hx hby d2_59 ?_
    refine qc X0 hx hby d2_60 ?_
    refine XS.icmpYes X0.here hx rfl (pc0 := 61) (pc' := 87) rfl (hb hby d2_61) rfl (feq (by decide : ¬ ((5 : Int32) = (3 : Int32)))).2 (by decide) (by decide) ?_
    show SG p e below s₁ (mkF m 87 #[lV vI5, lI x0, lI x1, lI x2, lI x3, lI x4] []) _
    refine qiN X0 hx hby d2_87 ?_
    refine qc X0 hx hby d2_88 ?_
    refine XS.icmpYes X0.here hx rfl (pc0 := 89) (pc' := 120) rfl (hb hby d2_89) rfl (feq (by decide : ¬ ((5 : Int32) = (4 : Int32)))).2 (by decide) (by decide) ?_
    show SG p e below s₁ (mkF m 120 #[lV vI5, lI x0, lI x1, lI x2, lI x3, lI x4] []) _
    refine st1 _ ?_
    show SG p e below T1 (mkF m 123 #[lV vI5, lI x0, lI x1, lI x2, lI x3, lI x4] [(.ref b1)]) _
    refine qd X1 hx hby d2_123 ?_
    refine qc X1 hx hby d2_124 ?_
    refine st4 _ ?_
    show SG p e below T4 (mkF m 127 #[lV vI5, lI x0, lI x1, lI x2, lI x3, lI x4] [(.ref b4), (.ref b1), (.ref b1)]) _
    refine qd X4 hx hby d2_127 ?_
    refine qc X4 hx hby d2_128 ?_
    refine qiN X4 hx hby d2_129 ?_
    refine st9 _ ?_
    show SG p e below T9 (mkF m 131 #[lV vI5, lI x0, lI x1, lI x2, lI x3, lI x4] [(.ref b4), (.ref b1), (.ref b1)]) _
    refine qd X9 hx hby d2_131 ?_
    refine qc X9 hx hby d2_132 ?_
    refine qiN X9 hx hby d2_133 ?_
    refine st10 _ ?_
    show SG p e below T10 (mkF m 135 #[lV vI5, lI x0, lI x1, lI x2, lI x3, lI x4] [(.ref b4), (.ref b1), (.ref b1)]) _
    refine qd X10 hx hby d2_135 ?_
    refine qc X10 hx hby d2_136 ?_
    refine qiN X10 hx hby d2_137 ?_
    refine st11 _ ?_
    show SG p e below T11 (mkF m 139 #[lV vI5, lI x0, lI x1, lI x2, lI x3, lI x4] [(.ref b4), (.ref b1), (.ref b1)]) _
    refine qd X11 hx hby d2_139 ?_
    refine qc X11 hx hby d2_140 ?_
    refine qi X11 hx hby d2_141 ?_
    refine st12 _ ?_
    show SG p e below T12 (mkF m 144 #[lV vI5, lI x0, lI x1, lI x2, lI x3, lI x4] [(.ref b4), (.ref b1), (.ref b1)]) _
    refine qd X12 hx hby d2_144 ?_
    refine qc X12 hx hby d2_145 ?_
    refine qi X12 hx hby d2_146 ?_
    refine st13 _ ?_
    show SG p e below T13 (mkF m 149 #[lV vI5, lI x0, lI x1, lI x2, lI x3, lI x4] [(.ref b4), (.ref b1), (.ref b1)]) _
    refine st31.trans ?_
    show SG p e below T31 (mkF m 152 #[lV vI5, lI x0, lI x1, lI x2, lI x3, lI x4] [(.ref b1)]) _
    exact retOut X31 hx (i := .areturn) hret rfl (Or.inr (Or.inr (Or.inr (Or.inr ⟨rfl, rfl, rfl⟩)))) (hb hby d2_152) hr
def Q6_8 (Z : State) (r0 r1 : Addr) (c2 : ClassId) (x3 x4 : Int32) (x5 x6 : Int32) (x7 x8 : Int32) (h0 : Heap) (n0 : Nat) (v : Option Value) (h : Heap) (L : List Loc) : Prop := v = some .null ∧ Fr n0 L ∧ h = h0
theorem rm6_8 (l : Launch) (Z : State) (a0 : Array Value) (hw : own_HW a0 Z) (ws : List Jvm.Cond) (r0 r1 : Addr) (c2 : ClassId) (x3 x4 : Int32) (x5 x6 : Int32) (x7 x8 : Int32) (h0 : Heap) (n0 : Nat) (O0 : Old Z n0 h0) (f1 : Fld Z h0 r0 "java/lang/String" "value" "[B" (.ref r1)) (f2 : Arv Z h0 r1 c2 .byte (5 : Int32) [(.int x3), (.int x4), (.int x5), (.int x6), (.int x7)] vI0) (f3 : Exa Z h0 r0 "java/lang/String") (f4 : Sta Z Z.heap "java/lang/String" "COMPACT_STRINGS" "Z" (.int x8)) (hc5 : ¬ (x8 = (0 : Int32))) (f6 : Fld Z h0 r0 "java/lang/String" "coder" "B" vI0) (hc7 : ¬ (x4 = (47 : Int32))) (hc8 : ¬ (x5 = (47 : Int32))) (hc9 : ¬ (x6 = (47 : Int32))) (hc10 : ¬ (x7 = (47 : Int32))) :
    MetFree l mN12 (head1 (Jvm.Cond.code mN12 prog_6_method_4_code 2 (some (.object "java/lang/String")) :: ws) rR4_0_0_55) (fun a U => a = #[(.ref r0)] ∧ Z.Warmed39 U.vm ∧ U.heap = h0) (fun _ _ _ _ _ => True) (fun _ U o U' => ∃ v L, o = .returned v ∧ Q6_8 Z r0 r1 c2 x3 x4 x5 x6 x7 x8 h0 n0 v U'.heap L ∧ FrameEnd U o U' L rR4_0_0_55.cells rR4_0_0_55.slots) := by
  by_cases hs : x3 = (47 : Int32)
  · exact rm6_2 l Z a0 hw ws r0 r1 (5 : Int32) c2 ([(.int x3), (.int x4), (.int x5), (.int x6), (.int x7)]) x8 (0 : Int32) 4 (0 : Int32) x3 h0 n0 O0 f3 f1 f2 f4 hc5 f6 (by decide) (by decide) (by decide) (fun j hj => match j, hj with | 0, _ => ⟨by decide, rfl, by decide, by decide, by decide, by decide, own_atN (n := 1) (by decide) rfl hc7⟩ | 1, _ => ⟨by decide, rfl, by decide, by decide, by decide, by decide, own_atN (n := 2) (by decide) rfl hc8⟩ | 2, _ => ⟨by decide, rfl, by decide, by decide, by decide, by decide, own_atN (n := 3) (by decide) rfl hc9⟩ | 3, _ => ⟨by decide, rfl, by decide, by decide, by decide, by decide, own_atN (n := 4) (by decide) rfl hc10⟩ | z + 4, hz => absurd hz (by omega)) (by decide) (own_gd (n := 0) rfl rfl) (by decide) hs (by decide)
  · exact rm6_1 l Z a0 hw ws r0 r1 (5 : Int32) c2 ([(.int x3), (.int x4), (.int x5), (.int x6), (.int x7)]) x8 (0 : Int32) 5 (-1 : Int32) h0 n0 O0 f3 f1 f2 f4 hc5 f6 (by decide) (by decide) (by decide) (fun j hj => match j, hj with | 0, _ => ⟨by decide, rfl, by decide, by decide, by decide, by decide, own_atN (n := 0) (by decide) rfl hs⟩ | 1, _ => ⟨by decide, rfl, by decide, by decide, by decide, by decide, own_atN (n := 1) (by decide) rfl hc7⟩ | 2, _ => ⟨by decide, rfl, by decide, by decide, by decide, by decide, own_atN (n := 2) (by decide) rfl hc8⟩ | 3, _ => ⟨by decide, rfl, by decide, by decide, by decide, by decide, own_atN (n := 3) (by decide) rfl hc9⟩ | 4, _ => ⟨by decide, rfl, by decide, by decide, by decide, by decide, own_atN (n := 4) (by decide) rfl hc10⟩ | z + 5, hz => absurd hz (by omega)) (by decide)
def Q0_12 (Z : State) (x0 x1 : Int32) (x2 x3 : Int32) (x4 x5 : Int32) (x6 x7 : Int32) (x8 x9 : Int32) (x10 x11 : Int32) (x12 x13 : Int32) (x14 x15 x16 : Int32) (h0 : Heap) (n0 : Nat) (v : Option Value) (h : Heap) (L : List Loc) : Prop := v = some vI1 ∧ Fr n0 L
theorem rm0_12 (l : Launch) (Z : State) (a0 : Array Value) (hw : own_HW a0 Z) (ws : List Jvm.Cond) (x0 x1 : Int32) (x2 x3 : Int32) (x4 x5 : Int32) (x6 x7 : Int32) (x8 x9 : Int32) (x10 x11 : Int32) (x12 x13 : Int32) (x14 x15 x16 : Int32) (h0 : Heap) (n0 : Nat) (O0 : Old Z n0 h0) (hc2 : ((x0 &&& (2147483647 : Int32)) % (6 : Int32)) = (5 : Int32)) (hq4 : (nar .char (if (x1 &&& (1 : Int32)) = (0 : Int32) then ((((x1.toUInt32 >>> ((1 : Int32) &&& 31).toUInt32).toInt32) &&& (255 : Int32)).toUInt32.toUInt16.toUInt32.toInt32) else (47 : Int32))) = x6) (hq6 : (nar .char (if (x2 &&& (1 : Int32)) = (0 : Int32) then ((((x2.toUInt32 >>> ((1 : Int32) &&& 31).toUInt32).toInt32) &&& (255 : Int32)).toUInt32.toUInt16.toUInt32.toInt32) else (47 : Int32))) = x7) (hq8 : (nar .char (if (x3 &&& (1 : Int32)) = (0 : Int32) then ((((x3.toUInt32 >>> ((1 : Int32) &&& 31).toUInt32).toInt32) &&& (255 : Int32)).toUInt32.toUInt16.toUInt32.toInt32) else (47 : Int32))) = x8) (hq10 : (nar .char (if (x4 &&& (1 : Int32)) = (0 : Int32) then ((((x4.toUInt32 >>> ((1 : Int32) &&& 31).toUInt32).toInt32) &&& (255 : Int32)).toUInt32.toUInt16.toUInt32.toInt32) else (47 : Int32))) = x9) (hq12 : (nar .char (if (x5 &&& (1 : Int32)) = (0 : Int32) then ((((x5.toUInt32 >>> ((1 : Int32) &&& 31).toUInt32).toInt32) &&& (255 : Int32)).toUInt32.toUInt16.toUInt32.toInt32) else (47 : Int32))) = x10) (f13 : Sta Z Z.heap "java/lang/String" "COMPACT_STRINGS" "Z" (.int x11)) (hc14 : ¬ (x11 = (0 : Int32))) (hc15 : ¬ ((255 : Int32) < (nar .char x6))) (hc16 : ¬ ((255 : Int32) < (nar .char x7))) (hc17 : ¬ ((255 : Int32) < (nar .char x8))) (hc18 : ¬ ((255 : Int32) < (nar .char x9))) (hc19 : ¬ ((255 : Int32) < (nar .char x10))) (hq33 : (if x6 = (47 : Int32) then (0 : Int32) else (-1 : Int32)) = x12) (hq35 : (if x7 = (47 : Int32) then (1 : Int32) else x12) = x13) (hq37 : (if x8 = (47 : Int32) then (2 : Int32) else x13) = x14) (hq39 : (if x9 = (47 : Int32) then (3 : Int32) else x14) = x15) (hq41 : (if x10 = (47 : Int32) then (4 : Int32) else x15) = x16) (hc42 : ¬ (((nar .char x7).toInt8.toInt32) = (47 : Int32))) (hc43 : ¬ (((nar .char x8).toInt8.toInt32) = (47 : Int32))) (hc44 : ¬ (((nar .char x9).toInt8.toInt32) = (47 : Int32))) (hc45 : ¬ (((nar .char x10).toInt8.toInt32) = (47 : Int32))) (hc48 : ¬ ((0 : Int32) < x16)) :
    own_MH l x code maxLocals ret ws room_1 Z h0 #[(.int x0), (.int x1), (.int x2), (.int x3), (.int x4), (.int x5)] (Q0_12 Z x0 x1 x2 x3 x4 x5 x6 x7 x8 x9 x10 x11 x12 x13 x14 x15 x16 h0 n0) := by
  have hEL : EW Z a0 consts_1 := own_EW hw
  refine own_openH hEL (plainFor_of_name pn_com_example_nearmiss_nearmiss_ElementParentPathPinLaw) (L0 := #[lI x0, lI x1, lI x2, lI x3, lI x4, lI x5, lU, lU, lU, lU, lU, lU, lU, lU, lU, lU]) (fun _ => by first | (simp [entryFrame, mkF, argsToLocals, Value.category, maxLocals]; done) | rfl) ?_
  intro p e s m below meth c s₁ hx hby hml hret hnn hZ hown X0 e0 R0
  have N0 := Fr.nil n0; have w := @ww Z a0 hw
  have hS1 := (State.WarmedH.refl s).since 0
  obtain ⟨_, T3, Lc3, X3, hQ3, st3⟩ := own_cS X0 hx hZ hown e0 (rm1_1 l Z a0 hw [] x1 h0 n0 O0) (w 1 rfl) (w 2 rfl) (w 3 rfl) (w 4 rfl) (by decide) (W := 0) (by decide) (by decide) (by decide) (by decide) (g := (mkF m 10 #[lI x0, lI x1, lI x2, lI x3, lI x4, lI x5, lV vI5, lU, lU, lU, lU, lU, lU, lU, lU, lU] [(.int x1)])) rfl (by rw [hml]; rfl) (argsL := [(.int x1)]) (rest := []) (lenOf pd__I_C rfl) rfl (own_W rfl) (hb hby at_10)
  obtain ⟨rfl, N3q, E3⟩ := hQ3
  have N3 := Fr.app N0 N3q
  obtain ⟨_, T5, Lc5, X5, hQ5, st5⟩ := own_cS X3 hx hZ hown E3 (rm1_1 l Z a0 hw [] x2 h0 n0 O0) (w 1 rfl) (w 2 rfl) (w 3 rfl) (w 4 rfl) (by decide) (W := 0) (by decide) (by decide) (by decide) (by decide) (g := (mkF m 16 #[lI x0, lI x1, lI x2, lI x3, lI x4, lI x5, lV vI5, lI x6, lU, lU, lU, lU, lU, lU, lU, lU] [(.int x2)])) rfl (by rw [hml]; rfl) (argsL := [(.int x2)]) (rest := []) (lenOf pd__I_C rfl) rfl (own_W rfl) (hb hby at_16)
  obtain ⟨rfl, N5q, E5⟩ := hQ5
  have N5 := Fr.app N3 N5q
  obtain ⟨_, T7, Lc7, X7, hQ7, st7⟩ := own_cS X5 hx hZ hown E5 (rm1_1 l Z a0 hw [] x3 h0 n0 O0) (w 1 rfl) (w 2 rfl) (w 3 rfl) (w 4 rfl) (by decide) (W := 0) (by decide) (by decide) (by decide) (by decide) (g := (mkF m 22 #[lI x0, lI x1, lI x2, lI x3, lI x4, lI x5, lV vI5, lI x6, lI x7, lU, lU, lU, lU, lU, lU, lU] [(.int x3)])) rfl (by rw [hml]; rfl) (argsL := [(.int x3)]) (rest := []) (lenOf pd__I_C rfl) rfl (own_W rfl) (hb hby at_22)
  obtain ⟨rfl, N7q, E7⟩ := hQ7
  have N7 := Fr.app N5 N7q
  obtain ⟨_, T9, Lc9, X9, hQ9, st9⟩ := own_cS X7 hx hZ hown E7 (rm1_1 l Z a0 hw [] x4 h0 n0 O0) (w 1 rfl) (w 2 rfl) (w 3 rfl) (w 4 rfl) (by decide) (W := 0) (by decide) (by decide) (by decide) (by decide) (g := (mkF m 29 #[lI x0, lI x1, lI x2, lI x3, lI x4, lI x5, lV vI5, lI x6, lI x7, lI x8, lU, lU, lU, lU, lU, lU] [(.int x4)])) rfl (by rw [hml]; rfl) (argsL := [(.int x4)]) (rest := []) (lenOf pd__I_C rfl) rfl (own_W rfl) (hb hby at_29)
  obtain ⟨rfl, N9q, E9⟩ := hQ9
  have N9 := Fr.app N7 N9q
  obtain ⟨_, T11, Lc11, X11, hQ11, st11⟩ := own_cS X9 hx hZ hown E9 (rm1_1 l Z a0 hw [] x5 h0 n0 O0) (w 1 rfl) (w 2 rfl) (w 3 rfl) (w 4 rfl) (by decide) (W := 0) (by decide) (by decide) (by decide) (by decide) (g := (mkF m 36 #[lI x0, lI x1, lI x2, lI x3, lI x4, lI x5, lV vI5, lI x6, lI x7, lI x8, lI x9, lU, lU, lU, lU, lU] [(.int x5)])) rfl (by rw [hml]; rfl) (argsL := [(.int x5)]) (rest := []) (lenOf pd__I_C rfl) rfl (own_W rfl) (hb hby at_36)
  obtain ⟨rfl, N11q, E11⟩ := hQ11
  have N11 := Fr.app N9 N11q
  obtain ⟨_, T20, Lc20, X20, hQ20, st20⟩ := own_cS X11 hx hZ hown E11 (rm2_6 l Z a0 hw [] x6 x7 x8 x9 x10 x11 h0 n0 O0 f13 hc14 hc15 hc16 hc17 hc18 hc19) (w 5 rfl) (w 6 rfl) (w 3 rfl) (w 7 rfl) (by decide) (W := 0) (by decide) (by decide) (by decide) (by decide) (g := (mkF m 53 #[lI x0, lI x1, lI x2, lI x3, lI x4, lI x5, lV vI5, lI x6, lI x7, lI x8, lI x9, lI x10, lU, lU, lU, lU] [(.int x10), (.int x9), (.int x8), (.int x7), (.int x6), vI5])) rfl (by rw [hml]; rfl) (argsL := [vI5, (.int x6), (.int x7), (.int x8), (.int x9), (.int x10)]) (rest := []) (lenOf pd__ICCCCC_Ljava_lang_String_ rfl) rfl (own_W rfl) (hb hby at_53)
  obtain ⟨b20_0, b20_1, k20_0, rfl, N20q, K20, f21, f22, f23, f24, f25, f26, f27, f28⟩ := hQ20
  have N20 := Fr.app N11 N20q
  have R29 := CHr.trans R0 (CHr.keep K20 sf0 R0.1)
  have sf30 : Safe Z consts_1 s.vm h0 b20_0 := Safe.new f21
  have sf31 : Safe Z consts_1 s.vm h0 b20_1 := Safe.new f25
  have dm32 : ∀ t, Steps p.tables e below (T20.setTop (mkF m 76 #[lI x0, lI x1, lI x2, lI x3, lI x4, lI x5, lV vI5, lI x6, lI x7, lI x8, lI x9, lI x10, lR b20_0, .val (.int (if x6 = (47 : Int32) then (0 : Int32) else (-1 : Int32))), lU, lU] [])) t → Steps p.tables e below (T20.setTop (mkF m 70 #[lI x0, lI x1, lI x2, lI x3, lI x4, lI x5, lV vI5, lI x6, lI x7, lI x8, lI x9, lI x10, lR b20_0, .val (.int (-1 : Int32)), lU, lU] [vI47, (.int x6)])) t := by
    intro t kk
    by_cases hd : x6 = (47 : Int32)
    · show SG p e below T20 (mkF m 70 #[lI x0, lI x1, lI x2, lI x3, lI x4, lI x5, lV vI5, lI x6, lI x7, lI x8, lI x9, lI x10, lR b20_0, .val (.int (-1 : Int32)), lU, lU] [vI47, (.int x6)]) _
      refine XS.icmpNo X20.here hx rfl (hb hby at_70) rfl (teq hd).2 ?_
      refine qc X20 hx hby at_73 ?_
      refine XS.istore X20.here hx rfl (hb hby at_74) rfl (l' := #[lI x0, lI x1, lI x2, lI x3, lI x4, lI x5, lV vI5, lI x6, lI x7, lI x8, lI x9, lI x10, lR b20_0, lV vI0, lU, lU]) rfl ?_
      simp only [if_pos hd] at kk
      exact kk
    · show SG p e below T20 (mkF m 70 #[lI x0, lI x1, lI x2, lI x3, lI x4, lI x5, lV vI5, lI x6, lI x7, lI x8, lI x9, lI x10, lR b20_0, .val (.int (-1 : Int32)), lU, lU] [vI47, (.int x6)]) _
      refine XS.icmpYes X20.here hx rfl (pc0 := 70) (pc' := 76) rfl (hb hby at_70) rfl (feq hd).2 (by decide) (by decide) ?_
      simp only [if_neg hd] at kk
      exact kk
  have dm34 : ∀ t, Steps p.tables e below (T20.setTop (mkF m 92 #[lI x0, lI x1, lI x2, lI x3, lI x4, lI x5, lV vI5, lI x6, lI x7, lI x8, lI x9, lI x10, lR b20_0, .val (.int (if x7 = (47 : Int32) then (1 : Int32) else x12)), lU, lU] [])) t → Steps p.tables e below (T20.setTop (mkF m 86 #[lI x0, lI x1, lI x2, lI x3, lI x4, lI x5, lV vI5, lI x6, lI x7, lI x8, lI x9, lI x10, lR b20_0, lI x12, lU, lU] [vI47, (.int x7)])) t := by
    intro t kk
    by_cases hd : x7 = (47 : Int32)
    · show SG p e below T20 (mkF m 86 #[lI x0, lI x1, lI x2, lI x3, lI x4, lI x5, lV vI5, lI x6, lI x7, lI x8, lI x9, lI x10, lR b20_0, lI x12, lU, lU] [vI47, (.int x7)]) _
      refine XS.icmpNo X20.here hx rfl (hb hby at_86) rfl (teq hd).2 ?_
      refine qc X20 hx hby at_89 ?_
      refine XS.istore X20.here hx rfl (hb hby at_90) rfl (l' := #[lI x0, lI x1, lI x2, lI x3, lI x4, lI x5, lV vI5, lI x6, lI x7, lI x8, lI x9, lI x10, lR b20_0, lV vI1, lU, lU]) rfl ?_
      simp only [if_pos hd] at kk
      exact kk
    · show SG p e below T20 (mkF m 86 #[lI x0, lI x1, lI x2, lI x3, lI x4, lI x5, lV vI5, lI x6, lI x7, lI x8, lI x9, lI x10, lR b20_0, lI x12, lU, lU] [vI47, (.int x7)]) _
      refine XS.icmpYes X20.here hx rfl (pc0 := 86) (pc' := 92) rfl (hb hby at_86) rfl (feq hd).2 (by decide) (by decide) ?_
      simp only [if_neg hd] at kk
      exact kk
  have dm36 : ∀ t, Steps p.tables e below (T20.setTop (mkF m 108 #[lI x0, lI x1, lI x2, lI x3, lI x4, lI x5, lV vI5, lI x6, lI x7, lI x8, lI x9, lI x10, lR b20_0, .val (.int (if x8 = (47 : Int32) then (2 : Int32) else x13)), lU, lU] [])) t → Steps p.tables e below (T20.setTop (mkF m 102 #[lI x0, lI x1, lI x2, lI x3, lI x4, lI x5, lV vI5, lI x6, lI x7, lI x8, lI x9, lI x10, lR b20_0, lI x13, lU, lU] [vI47, (.int x8)])) t := by
    intro t kk
    by_cases hd : x8 = (47 : Int32)
    · show SG p e below T20 (mkF m 102 #[lI x0, lI x1, lI x2, lI x3, lI x4, lI x5, lV vI5, lI x6, lI x7, lI x8, lI x9, lI x10, lR b20_0, lI x13, lU, lU] [vI47, (.int x8)]) _
      refine XS.icmpNo X20.here hx rfl (hb hby at_102) rfl (teq hd).2 ?_
      refine qc X20 hx hby at_105 ?_
      refine XS.istore X20.here hx rfl (hb hby at_106) rfl (l' := #[lI x0, lI x1, lI x2, lI x3, lI x4, lI x5, lV vI5, lI x6, lI x7, lI x8, lI x9, lI x10, lR b20_0, lV vI2, lU, lU]) rfl ?_
      simp only [if_pos hd] at kk
      exact kk
    · show SG p e below T20 (mkF m 102 #[lI x0, lI x1, lI x2, lI x3, lI x4, lI x5, lV vI5, lI x6, lI x7, lI x8, lI x9, lI x10, lR b20_0, lI x13, lU, lU] [vI47, (.int x8)]) _
      refine XS.icmpYes X20.here hx rfl (pc0 := 102) (pc' := 108) rfl (hb hby at_102) rfl (feq hd).2 (by decide) (by decide) ?_
      simp only [if_neg hd] at kk
      exact kk
  have dm38 : ∀ t, Steps p.tables e below (T20.setTop (mkF m 124 #[lI x0, lI x1, lI x2, lI x3, lI x4, lI x5, lV vI5, lI x6, lI x7, lI x8, lI x9, lI x10, lR b20_0, .val (.int (if x9 = (47 : Int32) then (3 : Int32) else x14)), lU, lU] [])) t → Steps p.tables e below (T20.setTop (mkF m 118 #[lI x0, lI x1, lI x2, lI x3, lI x4, lI x5, lV vI5, lI x6, lI x7, lI x8, lI x9, lI x10, lR b20_0, lI x14, lU, lU] [vI47, (.int x9)])) t := by
    intro t kk
    by_cases hd : x9 = (47 : Int32)
    · show SG p e below T20 (mkF m 118 #[lI x0, lI x1, lI x2, lI x3, lI x4, lI x5, lV vI5, lI x6, lI x7, lI x8, lI x9, lI x10, lR b20_0, lI x14, lU, lU] [vI47, (.int x9)]) _
      refine XS.icmpNo X20.here hx rfl (hb hby at_118) rfl (teq hd).2 ?_
      refine qc X20 hx hby at_121 ?_
      refine XS.istore X20.here hx rfl (hb hby at_122) rfl (l' := #[lI x0, lI x1, lI x2, lI x3, lI x4, lI x5, lV vI5, lI x6, lI x7, lI x8, lI x9, lI x10, lR b20_0, lV vI3, lU, lU]) rfl ?_
      simp only [if_pos hd] at kk
      exact kk
    · show SG p e below T20 (mkF m 118 #[lI x0, lI x1, lI x2, lI x3, lI x4, lI x5, lV vI5, lI x6, lI x7, lI x8, lI x9, lI x10, lR b20_0, lI x14, lU, lU] [vI47, (.int x9)]) _
      refine XS.icmpYes X20.here hx rfl (pc0 := 118) (pc' := 124) rfl (hb hby at_118) rfl (feq hd).2 (by decide) (by decide) ?_
      simp only [if_neg hd] at kk
      exact kk
  have dm40 : ∀ t, Steps p.tables e below (T20.setTop (mkF m 140 #[lI x0, lI x1, lI x2, lI x3, lI x4, lI x5, lV vI5, lI x6, lI x7, lI x8, lI x9, lI x10, lR b20_0, .val (.int (if x10 = (47 : Int32) then (4 : Int32) else x15)), lU, lU] [])) t → Steps p.tables e below (T20.setTop (mkF m 134 #[lI x0, lI x1, lI x2, lI x3, lI x4, lI x5, lV vI5, lI x6, lI x7, lI x8, lI x9, lI x10, lR b20_0, lI x15, lU, lU] [vI47, (.int x10)])) t := by
    intro t kk
    by_cases hd : x10 = (47 : Int32)
    · show SG p e below T20 (mkF m 134 #[lI x0, lI x1, lI x2, lI x3, lI x4, lI x5, lV vI5, lI x6, lI x7, lI x8, lI x9, lI x10, lR b20_0, lI x15, lU, lU] [vI47, (.int x10)]) _
      refine XS.icmpNo X20.here hx rfl (hb hby at_134) rfl (teq hd).2 ?_
      refine qc X20 hx hby at_137 ?_
      refine XS.istore X20.here hx rfl (hb hby at_138) rfl (l' := #[lI x0, lI x1, lI x2, lI x3, lI x4, lI x5, lV vI5, lI x6, lI x7, lI x8, lI x9, lI x10, lR b20_0, lV vI4, lU, lU]) rfl ?_
      simp only [if_pos hd] at kk
      exact kk
    · show SG p e below T20 (mkF m 134 #[lI x0, lI x1, lI x2, lI x3, lI x4, lI x5, lV vI5, lI x6, lI x7, lI x8, lI x9, lI x10, lR b20_0, lI x15, lU, lU] [vI47, (.int x10)]) _
      refine XS.icmpYes X20.here hx rfl (pc0 := 134) (pc' := 140) rfl (hb hby at_134) rfl (feq hd).2 (by decide) (by decide) ?_
      simp only [if_neg hd] at kk
      exact kk
  have o46 := Old.keep O0 K20 all0
  obtain ⟨_, T47, Lc47, X47, hQ47, st47⟩ := own_cS X20 hx hZ hown rfl (rm6_8 l Z a0 hw [] b20_0 b20_1 k20_0 ((nar .char x6).toInt8.toInt32) ((nar .char x7).toInt8.toInt32) ((nar .char x8).toInt8.toInt32) ((nar .char x9).toInt8.toInt32) ((nar .char x10).toInt8.toInt32) x11 T20.heap n0 o46 f24 f26 f22 f13 hc14 f23 hc42 hc43 hc44 hc45) (w 30 rfl) (w 31 rfl) (w 32 rfl) (w 33 rfl) (by decide) (W := 0) (by decide) (by decide) (by decide) (by decide) (g := (mkF m 142 #[lI x0, lI x1, lI x2, lI x3, lI x4, lI x5, lV vI5, lI x6, lI x7, lI x8, lI x9, lI x10, lR b20_0, lI x16, lU, lU] [(.ref b20_0)])) rfl (by rw [hml]; rfl) (argsL := [(.ref b20_0)]) (rest := []) (lenOf pd__Ljava_lang_String__Ljava_lang_String_ rfl) rfl (own_W rfl) (hb hby at_142)
  obtain ⟨rfl, N47q, E47⟩ := hQ47
  have N47 := Fr.app N20 N47q
  refine ⟨some vI1, _, _, _, _, _, _, _, nofun, X47, by decide, by decide, hS1, (by rw [E47]; exact (Nat.zero_le _)), hZ, E47, R29, ?_, fun fs hr => ?_⟩
  · rw [E47]; exact ⟨rfl, N47⟩
  · show SG p e below s₁ (mkF m 0 #[lI x0, lI x1, lI x2, lI x3, lI x4, lI x5, lU, lU, lU, lU, lU, lU, lU, lU, lU, lU] []) _
    refine qiN X0 hx hby at_0 ?_
    refine X0.ldcInt hx hown (mvT hZ (w 0 rfl)) (g := (mkF m 1 #[lI x0, lI x1, lI x2, lI x3, lI x4, lI x5, lU, lU, lU, lU, lU, lU, lU, lU, lU, lU] [(.int x0)])) rfl (hb hby at_1) _ ?_
    show SG p e below s₁ (mkF m 3 #[lI x0, lI x1, lI x2, lI x3, lI x4, lI x5, lU, lU, lU, lU, lU, lU, lU, lU, lU, lU] [vI2147483647, (.int x0)]) _
    refine XS.iand X0.here hx rfl (hb hby at_3) rfl ?_
    refine qb X0 hx hby at_4 ?_
    refine iremM (g := (mkF m 6 #[lI x0, lI x1, lI x2, lI x3, lI x4, lI x5, lU, lU, lU, lU, lU, lU, lU, lU, lU, lU] [vI6, (.int (x0 &&& (2147483647 : Int32)))])) X0 hx rfl (hb hby at_6) rfl (by decide : ¬ ((6 : Int32) = (0 : Int32))) ?_
    show SG p e below s₁ (mkF m 7 #[lI x0, lI x1, lI x2, lI x3, lI x4, lI x5, lU, lU, lU, lU, lU, lU, lU, lU, lU, lU] [(.int ((x0 &&& (2147483647 : Int32)) % (6 : Int32)))]) _
    rw [hc2]
    show SG p e below s₁ (mkF m 7 #[lI x0, lI x1, lI x2, lI x3, lI x4, lI x5, lU, lU, lU, lU, lU, lU, lU, lU, lU, lU] [vI5]) _
    refine XS.istore X0.here hx rfl (hb hby at_7) rfl (l' := #[lI x0, lI x1, lI x2, lI x3, lI x4, lI x5, lV vI5, lU, lU, lU, lU, lU, lU, lU, lU, lU]) rfl ?_
    refine qiN X0 hx hby at_9 ?_
    refine st3 _ ?_
    show SG p e below T3 (mkF m 13 #[lI x0, lI x1, lI x2, lI x3, lI x4, lI x5, lV vI5, lU, lU, lU, lU, lU, lU, lU, lU, lU] [(.int (nar .char (if (x1 &&& (1 : Int32)) = (0 : Int32) then ((((x1.toUInt32 >>> ((1 : Int32) &&& 31).toUInt32).toInt32) &&& (255 : Int32)).toUInt32.toUInt16.toUInt32.toInt32) else (47 : Int32))))]) _
    rw [hq4]
    show SG p e below T3 (mkF m 13 #[lI x0, lI x1, lI x2, lI x3, lI x4, lI x5, lV vI5, lU, lU, lU, lU, lU, lU, lU, lU, lU] [(.int x6)]) _
    refine XS.istore X3.here hx rfl (hb hby at_13) rfl (l' := #[lI x0, lI x1, lI x2, lI x3, lI x4, lI x5, lV vI5, lI x6, lU, lU, lU, lU, lU, lU, lU, lU]) rfl ?_
    refine qiN X3 hx hby at_15 ?_
    refine st5 _ ?_
    show SG p e below T5 (mkF m 19 #[lI x0, lI x1, lI x2, lI x3, lI x4, lI x5, lV vI5, lI x6, lU, lU, lU, lU, lU, lU, lU, lU] [(.int (nar .char (if (x2 &&& (1 : Int32)) = (0 : Int32) then ((((x2.toUInt32 >>> ((1 : Int32) &&& 31).toUInt32).toInt32) &&& (255 : Int32)).toUInt32.toUInt16.toUInt32.toInt32) else (47 : Int32))))]) _
    rw [hq6]
    show SG p e below T5 (mkF m 19 #[lI x0, lI x1, lI x2, lI x3, lI x4, lI x5, lV vI5, lI x6, lU, lU, lU, lU, lU, lU, lU, lU] [(.int x7)]) _
    refine XS.istore X5.here hx rfl (hb hby at_19) rfl (l' := #[lI x0, lI x1, lI x2, lI x3, lI x4, lI x5, lV vI5, lI x6, lI x7, lU, lU, lU, lU, lU, lU, lU]) rfl ?_
    refine qiN X5 hx hby at_21 ?_
    refine st7 _ ?_
    show SG p e below T7 (mkF m 25 #[lI x0, lI x1, lI x2, lI x3, lI x4, lI x5, lV vI5, lI x6, lI x7, lU, lU, lU, lU, lU, lU, lU] [(.int (nar .char (if (x3 &&& (1 : Int32)) = (0 : Int32) then ((((x3.toUInt32 >>> ((1 : Int32) &&& 31).toUInt32).toInt32) &&& (255 : Int32)).toUInt32.toUInt16.toUInt32.toInt32) else (47 : Int32))))]) _
    rw [hq8]
    show SG p e below T7 (mkF m 25 #[lI x0, lI x1, lI x2, lI x3, lI x4, lI x5, lV vI5, lI x6, lI x7, lU, lU, lU, lU, lU, lU, lU] [(.int x8)]) _
    refine XS.istore X7.here hx rfl (hb hby at_25) rfl (l' := #[lI x0, lI x1, lI x2, lI x3, lI x4, lI x5, lV vI5, lI x6, lI x7, lI x8, lU, lU, lU, lU, lU, lU]) rfl ?_
    refine qi X7 hx hby at_27 ?_
    refine st9 _ ?_
    show SG p e below T9 (mkF m 32 #[lI x0, lI x1, lI x2, lI x3, lI x4, lI x5, lV vI5, lI x6, lI x7, lI x8, lU, lU, lU, lU, lU, lU] [(.int (nar .char (if (x4 &&& (1 : Int32)) = (0 : Int32) then ((((x4.toUInt32 >>> ((1 : Int32) &&& 31).toUInt32).toInt32) &&& (255 : Int32)).toUInt32.toUInt16.toUInt32.toInt32) else (47 : Int32))))]) _
    rw [hq10]
    show SG p e below T9 (mkF m 32 #[lI x0, lI x1, lI x2, lI x3, lI x4, lI x5, lV vI5, lI x6, lI x7, lI x8, lU, lU, lU, lU, lU, lU] [(.int x9)]) _
    refine XS.istore X9.here hx rfl (hb hby at_32) rfl (l' := #[lI x0, lI x1, lI x2, lI x3, lI x4, lI x5, lV vI5, lI x6, lI x7, lI x8, lI x9, lU, lU, lU, lU, lU]) rfl ?_
    refine qi X9 hx hby at_34 ?_
    refine st11 _ ?_
    show SG p e below T11 (mkF m 39 #[lI x0, lI x1, lI x2, lI x3, lI x4, lI x5, lV vI5, lI x6, lI x7, lI x8, lI x9, lU, lU, lU, lU, lU] [(.int (nar .char (if (x5 &&& (1 : Int32)) = (0 : Int32) then ((((x5.toUInt32 >>> ((1 : Int32) &&& 31).toUInt32).toInt32) &&& (255 : Int32)).toUInt32.toUInt16.toUInt32.toInt32) else (47 : Int32))))]) _
    rw [hq12]
    show SG p e below T11 (mkF m 39 #[lI x0, lI x1, lI x2, lI x3, lI x4, lI x5, lV vI5, lI x6, lI x7, lI x8, lI x9, lU, lU, lU, lU, lU] [(.int x10)]) _
    refine XS.istore X11.here hx rfl (hb hby at_39) rfl (l' := #[lI x0, lI x1, lI x2, lI x3, lI x4, lI x5, lV vI5, lI x6, lI x7, lI x8, lI x9, lI x10, lU, lU, lU, lU]) rfl ?_
    refine qi X11 hx hby at_41 ?_
    refine qi X11 hx hby at_43 ?_
    refine qi X11 hx hby at_45 ?_
    refine qi X11 hx hby at_47 ?_
    refine qi X11 hx hby at_49 ?_
    refine qi X11 hx hby at_51 ?_
    refine st20 _ ?_
    show SG p e below T20 (mkF m 56 #[lI x0, lI x1, lI x2, lI x3, lI x4, lI x5, lV vI5, lI x6, lI x7, lI x8, lI x9, lI x10, lU, lU, lU, lU] [(.ref b20_0)]) _
    refine XS.astore X20.here hx rfl (hb hby at_56) rfl rfl (l' := #[lI x0, lI x1, lI x2, lI x3, lI x4, lI x5, lV vI5, lI x6, lI x7, lI x8, lI x9, lI x10, lR b20_0, lU, lU, lU]) rfl ?_
    refine qc X20 hx hby at_58 ?_
    refine XS.istore X20.here hx rfl (hb hby at_59) rfl (l' := #[lI x0, lI x1, lI x2, lI x3, lI x4, lI x5, lV vI5, lI x6, lI x7, lI x8, lI x9, lI x10, lR b20_0, .val (.int (-1 : Int32)), lU, lU]) rfl ?_
    refine qi X20 hx hby at_61 ?_
    refine XS.ifNo X20.here hx rfl (hb hby at_63) rfl ((if0 _ _).trans (tlt (by decide : (0 : Int32) < (5 : Int32))).2.2.2) ?_
    refine qi X20 hx hby at_66 ?_
    refine qb X20 hx hby at_68 ?_
    show SG p e below T20 (mkF m 70 #[lI x0, lI x1, lI x2, lI x3, lI x4, lI x5, lV vI5, lI x6, lI x7, lI x8, lI x9, lI x10, lR b20_0, .val (.int (-1 : Int32)), lU, lU] [vI47, (.int x6)]) _
    refine dm32 _ ?_
    show SG p e below T20 (mkF m 76 #[lI x0, lI x1, lI x2, lI x3, lI x4, lI x5, lV vI5, lI x6, lI x7, lI x8, lI x9, lI x10, lR b20_0, .val (.int (if x6 = (47 : Int32) then (0 : Int32) else (-1 : Int32))), lU, lU] []) _
    rw [hq33]
    show SG p e below T20 (mkF m 76 #[lI x0, lI x1, lI x2, lI x3, lI x4, lI x5, lV vI5, lI x6, lI x7, lI x8, lI x9, lI x10, lR b20_0, lI x12, lU, lU] []) _
    refine qi X20 hx hby at_76 ?_
    refine qc X20 hx hby at_78 ?_
    refine XS.icmpNo X20.here hx rfl (hb hby at_79) rfl (tlt (by decide : (1 : Int32) < (5 : Int32))).2.2.2 ?_
    refine qi X20 hx hby at_82 ?_
    refine qb X20 hx hby at_84 ?_
    show SG p e below T20 (mkF m 86 #[lI x0, lI x1, lI x2, lI x3, lI x4, lI x5, lV vI5, lI x6, lI x7, lI x8, lI x9, lI x10, lR b20_0, lI x12, lU, lU] [vI47, (.int x7)]) _
    refine dm34 _ ?_
    show SG p e below T20 (mkF m 92 #[lI x0, lI x1, lI x2, lI x3, lI x4, lI x5, lV vI5, lI x6, lI x7, lI x8, lI x9, lI x10, lR b20_0, .val (.int (if x7 = (47 : Int32) then (1 : Int32) else x12)), lU, lU] []) _
    rw [hq35]
    show SG p e below T20 (mkF m 92 #[lI x0, lI x1, lI x2, lI x3, lI x4, lI x5, lV vI5, lI x6, lI x7, lI x8, lI x9, lI x10, lR b20_0, lI x13, lU, lU] []) _
    refine qi X20 hx hby at_92 ?_
    refine qc X20 hx hby at_94 ?_
    refine XS.icmpNo X20.here hx rfl (hb hby at_95) rfl (tlt (by decide : (2 : Int32) < (5 : Int32))).2.2.2 ?_
    refine qi X20 hx hby at_98 ?_
    refine qb X20 hx hby at_100 ?_
    show SG p e below T20 (mkF m 102 #[lI x0, lI x1, lI x2, lI x3, lI x4, lI x5, lV vI5, lI x6, lI x7, lI x8, lI x9, lI x10, lR b20_0, lI x13, lU, lU] [vI47, (.int x8)]) _
    refine dm36 _ ?_
    show SG p e below T20 (mkF m 108 #[lI x0, lI x1, lI x2, lI x3, lI x4, lI x5, lV vI5, lI x6, lI x7, lI x8, lI x9, lI x10, lR b20_0, .val (.int (if x8 = (47 : Int32) then (2 : Int32) else x13)), lU, lU] []) _
    rw [hq37]
    show SG p e below T20 (mkF m 108 #[lI x0, lI x1, lI x2, lI x3, lI x4, lI x5, lV vI5, lI x6, lI x7, lI x8, lI x9, lI x10, lR b20_0, lI x14, lU, lU] []) _
    refine qi X20 hx hby at_108 ?_
    refine qc X20 hx hby at_110 ?_
    refine XS.icmpNo X20.here hx rfl (hb hby at_111) rfl (tlt (by decide : (3 : Int32) < (5 : Int32))).2.2.2 ?_
    refine qi X20 hx hby at_114 ?_
    refine qb X20 hx hby at_116 ?_
    show SG p e below T20 (mkF m 118 #[lI x0, lI x1, lI x2, lI x3, lI x4, lI x5, lV vI5, lI x6, lI x7, lI x8, lI x9, lI x10, lR b20_0, lI x14, lU, lU] [vI47, (.int x9)]) _
    refine dm38 _ ?_
    show SG p e below T20 (mkF m 124 #[lI x0, lI x1, lI x2, lI x3, lI x4, lI x5, lV vI5, lI x6, lI x7, lI x8, lI x9, lI x10, lR b20_0, .val (.int (if x9 = (47 : Int32) then (3 : Int32) else x14)), lU, lU] []) _
    rw [hq39]
    show SG p e below T20 (mkF m 124 #[lI x0, lI x1, lI x2, lI x3, lI x4, lI x5, lV vI5, lI x6, lI x7, lI x8, lI x9, lI x10, lR b20_0, lI x15, lU, lU] []) _
    refine qi X20 hx hby at_124 ?_
    refine qc X20 hx hby at_126 ?_
    refine XS.icmpNo X20.here hx rfl (hb hby at_127) rfl (tlt (by decide : (4 : Int32) < (5 : Int32))).2.2.2 ?_
    refine qi X20 hx hby at_130 ?_
    refine qb X20 hx hby at_132 ?_
    show SG p e below T20 (mkF m 134 #[lI x0, lI x1, lI x2, lI x3, lI x4, lI x5, lV vI5, lI x6, lI x7, lI x8, lI x9, lI x10, lR b20_0, lI x15, lU, lU] [vI47, (.int x10)]) _
    refine dm40 _ ?_
    show SG p e below T20 (mkF m 140 #[lI x0, lI x1, lI x2, lI x3, lI x4, lI x5, lV vI5, lI x6, lI x7, lI x8, lI x9, lI x10, lR b20_0, .val (.int (if x10 = (47 : Int32) then (4 : Int32) else x15)), lU, lU] []) _
    rw [hq41]
    show SG p e below T20 (mkF m 140 #[lI x0, lI x1, lI x2, lI x3, lI x4, lI x5, lV vI5, lI x6, lI x7, lI x8, lI x9, lI x10, lR b20_0, lI x16, lU, lU] []) _
    refine qa X20 hx hby at_140 ?_
    refine st47 _ ?_
    show SG p e below T47 (mkF m 145 #[lI x0, lI x1, lI x2, lI x3, lI x4, lI x5, lV vI5, lI x6, lI x7, lI x8, lI x9, lI x10, lR b20_0, lI x16, lU, lU] [.null]) _
    refine XS.astore X47.here hx rfl (hb hby at_145) rfl rfl (l' := #[lI x0, lI x1, lI x2, lI x3, lI x4, lI x5, lV vI5, lI x6, lI x7, lI x8, lI x9, lI x10, lR b20_0, lI x16, .val .null, lU]) rfl ?_
    refine qi X47 hx hby at_147 ?_
    refine XS.ifNo X47.here hx rfl (hb hby at_149) rfl ((if0 _ _).trans (flt hc48).2.2.1) ?_
    refine qa X47 hx hby at_152 ?_
    refine XS.ifnonnullNo X47.here hx rfl (hb hby at_154) rfl ?_
    refine qc X47 hx hby at_157 ?_
    refine XS.goto X47.here hx rfl (pc0 := 158) (pc' := 162) rfl (hb hby at_158) (by decide) (by decide) ?_
    show SG p e below T47 (mkF m 162 #[lI x0, lI x1, lI x2, lI x3, lI x4, lI x5, lV vI5, lI x6, lI x7, lI x8, lI x9, lI x10, lR b20_0, lI x16, .val .null, lU] [vI1]) _
    exact retN X47 hx (t := .boolean) hret (by simp) (hb hby at_162) hr
def Q0_13 (Z : State) (x0 x1 : Int32) (x2 x3 : Int32) (x4 x5 : Int32) (x6 x7 : Int32) (x8 x9 : Int32) (x10 x11 : Int32) (x12 x13 : Int32) (x14 x15 x16 : Int32) (u17 : Value) (h0 : Heap) (n0 : Nat) (v : Option Value) (h : Heap) (L : List Loc) : Prop := v = some vI1 ∧ Fr n0 L
theorem rm0_13 (l : Launch) (Z : State) (a0 : Array Value) (hw : own_HW a0 Z) (ws : List Jvm.Cond) (x0 x1 : Int32) (x2 x3 : Int32) (x4 x5 : Int32) (x6 x7 : Int32) (x8 x9 : Int32) (x10 x11 : Int32) (x12 x13 : Int32) (x14 x15 x16 : Int32) (u17 : Value) (h0 : Heap) (n0 : Nat) (O0 : Old Z n0 h0) (hc2 : ((x0 &&& (2147483647 : Int32)) % (6 : Int32)) = (5 : Int32)) (hq4 : (nar .char (if (x1 &&& (1 : Int32)) = (0 : Int32) then ((((x1.toUInt32 >>> ((1 : Int32) &&& 31).toUInt32).toInt32) &&& (255 : Int32)).toUInt32.toUInt16.toUInt32.toInt32) else (47 : Int32))) = x6) (hq6 : (nar .char (if (x2 &&& (1 : Int32)) = (0 : Int32) then ((((x2.toUInt32 >>> ((1 : Int32) &&& 31).toUInt32).toInt32) &&& (255 : Int32)).toUInt32.toUInt16.toUInt32.toInt32) else (47 : Int32))) = x7) (hq8 : (nar .char (if (x3 &&& (1 : Int32)) = (0 : Int32) then ((((x3.toUInt32 >>> ((1 : Int32) &&& 31).toUInt32).toInt32) &&& (255 : Int32)).toUInt32.toUInt16.toUInt32.toInt32) else (47 : Int32))) = x8) (hq10 : (nar .char (if (x4 &&& (1 : Int32)) = (0 : Int32) then ((((x4.toUInt32 >>> ((1 : Int32) &&& 31).toUInt32).toInt32) &&& (255 : Int32)).toUInt32.toUInt16.toUInt32.toInt32) else (47 : Int32))) = x9) (hq12 : (nar .char (if (x5 &&& (1 : Int32)) = (0 : Int32) then ((((x5.toUInt32 >>> ((1 : Int32) &&& 31).toUInt32).toInt32) &&& (255 : Int32)).toUInt32.toUInt16.toUInt32.toInt32) else (47 : Int32))) = x10) (f13 : Sta Z Z.heap "java/lang/String" "COMPACT_STRINGS" "Z" (.int x11)) (hc14 : ¬ (x11 = (0 : Int32))) (hc15 : ¬ ((255 : Int32) < (nar .char x6))) (hc16 : ¬ ((255 : Int32) < (nar .char x7))) (hc17 : ¬ ((255 : Int32) < (nar .char x8))) (hc18 : ¬ ((255 : Int32) < (nar .char x9))) (hc19 : ¬ ((255 : Int32) < (nar .char x10))) (hq33 : (if x6 = (47 : Int32) then (0 : Int32) else (-1 : Int32)) = x12) (hq35 : (if x7 = (47 : Int32) then (1 : Int32) else x12) = x13) (hq37 : (if x8 = (47 : Int32) then (2 : Int32) else x13) = x14) (hq39 : (if x9 = (47 : Int32) then (3 : Int32) else x14) = x15) (hq41 : (if x10 = (47 : Int32) then (4 : Int32) else x15) = x16) (hc42 : ¬ (((nar .char x8).toInt8.toInt32) = (47 : Int32))) (hc43 : ¬ (((nar .char x9).toInt8.toInt32) = (47 : Int32))) (hc44 : ¬ (((nar .char x10).toInt8.toInt32) = (47 : Int32))) (hc45 : ((nar .char x7).toInt8.toInt32) = (47 : Int32)) (f46 : Sta Z Z.heap cs4 "SIOOBE_FORMATTER" cs5 u17) (hc47 : u17.isRef = true) (hc61 : x16 = (1 : Int32)) :
    own_MH l x code maxLocals ret ws room_1 Z h0 #[(.int x0), (.int x1), (.int x2), (.int x3), (.int x4), (.int x5)] (Q0_13 Z x0 x1 x2 x3 x4 x5 x6 x7 x8 x9 x10 x11 x12 x13 x14 x15 x16 u17 h0 n0) := by
  have hEL : EW Z a0 consts_1 := own_EW hw
  refine own_openH hEL (plainFor_of_name pn_com_example_nearmiss_nearmiss_ElementParentPathPinLaw) (L0 := #[lI x0, lI x1, lI x2, lI x3, lI x4, lI x5, lU, lU, lU, lU, lU, lU, lU, lU, lU, lU]) (fun _ => by first | (simp [entryFrame, mkF, argsToLocals, Value.category, maxLocals]; done) | rfl) ?_
  intro p e s m below meth c s₁ hx hby hml hret hnn hZ hown X0 e0 R0
  have N0 := Fr.nil n0; have w := @ww Z a0 hw
  have hS1 := (State.WarmedH.refl s).since 0
  obtain ⟨_, T3, Lc3, X3, hQ3, st3⟩ := own_cS X0 hx hZ hown e0 (rm1_1 l Z a0 hw [] x1 h0 n0 O0) (w 1 rfl) (w 2 rfl) (w 3 rfl) (w 4 rfl) (by decide) (W := 0) (by decide) (by decide) (by decide) (by decide) (g := (mkF m 10 #[lI x0, lI x1, lI x2, lI x3, lI x4, lI x5, lV vI5, lU, lU, lU, lU, lU, lU, lU, lU, lU] [(.int x1)])) rfl (by rw [hml]; rfl) (argsL := [(.int x1)]) (rest := []) (lenOf pd__I_C rfl) rfl (own_W rfl) (hb hby at_10)
  obtain ⟨rfl, N3q, E3⟩ := hQ3
  have N3 := Fr.app N0 N3q
  obtain ⟨_, T5, Lc5, X5, hQ5, st5⟩ := own_cS X3 hx hZ hown E3 (rm1_1 l Z a0 hw [] x2 h0 n0 O0) (w 1 rfl) (w 2 rfl) (w 3 rfl) (w 4 rfl) (by decide) (W := 0) (by decide) (by decide) (by decide) (by decide) (g := (mkF m 16 #[lI x0, lI x1, lI x2, lI x3, lI x4, lI x5, lV vI5, lI x6, lU, lU, lU, lU, lU, lU, lU, lU] [(.int x2)])) rfl (by rw [hml]; rfl) (argsL := [(.int x2)]) (rest := []) (lenOf pd__I_C rfl) rfl (own_W rfl) (hb hby at_16)
  obtain ⟨rfl, N5q, E5⟩ := hQ5
  have N5 := Fr.app N3 N5q
  obtain ⟨_, T7, Lc7, X7, hQ7, st7⟩ := own_cS X5 hx hZ hown E5 (rm1_1 l Z a0 hw [] x3 h0 n0 O0) (w 1 rfl) (w 2 rfl) (w 3 rfl) (w 4 rfl) (by decide) (W := 0) (by decide) (by decide) (by decide) (by decide) (g := (mkF m 22 #[lI x0, lI x1, lI x2, lI x3, lI x4, lI x5, lV vI5, lI x6, lI x7, lU, lU, lU, lU, lU, lU, lU] [(.int x3)])) rfl (by rw [hml]; rfl) (argsL := [(.int x3)]) (rest := []) (lenOf pd__I_C rfl) rfl (own_W rfl) (hb hby at_22)
  obtain ⟨rfl, N7q, E7⟩ := hQ7
  have N7 := Fr.app N5 N7q
  obtain ⟨_, T9, Lc9, X9, hQ9, st9⟩ := own_cS X7 hx hZ hown E7 (rm1_1 l Z a0 hw [] x4 h0 n0 O0) (w 1 rfl) (w 2 rfl) (w 3 rfl) (w 4 rfl) (by decide) (W := 0) (by decide) (by decide) (by decide) (by decide) (g := (mkF m 29 #[lI x0, lI x1, lI x2, lI x3, lI x4, lI x5, lV vI5, lI x6, lI x7, lI x8, lU, lU, lU, lU, lU, lU] [(.int x4)])) rfl (by rw [hml]; rfl) (argsL := [(.int x4)]) (rest := []) (lenOf pd__I_C rfl) rfl (own_W rfl) (hb hby at_29)
  obtain ⟨rfl, N9q, E9⟩ := hQ9
  have N9 := Fr.app N7 N9q
  obtain ⟨_, T11, Lc11, X11, hQ11, st11⟩ := own_cS X9 hx hZ hown E9 (rm1_1 l Z a0 hw [] x5 h0 n0 O0) (w 1 rfl) (w 2 rfl) (w 3 rfl) (w 4 rfl) (by decide) (W := 0) (by decide) (by decide) (by decide) (by decide) (g := (mkF m 36 #[lI x0, lI x1, lI x2, lI x3, lI x4, lI x5, lV vI5, lI x6, lI x7, lI x8, lI x9, lU, lU, lU, lU, lU] [(.int x5)])) rfl (by rw [hml]; rfl) (argsL := [(.int x5)]) (rest := []) (lenOf pd__I_C rfl) rfl (own_W rfl) (hb hby at_36)
  obtain ⟨rfl, N11q, E11⟩ := hQ11
  have N11 := Fr.app N9 N11q
  obtain ⟨_, T20, Lc20, X20, hQ20, st20⟩ := own_cS X11 hx hZ hown E11 (rm2_6 l Z a0 hw [] x6 x7 x8 x9 x10 x11 h0 n0 O0 f13 hc14 hc15 hc16 hc17 hc18 hc19) (w 5 rfl) (w 6 rfl) (w 3 rfl) (w 7 rfl) (by decide) (W := 0) (by decide) (by decide) (by decide) (by decide) (g := (mkF m 53 #[lI x0, lI x1, lI x2, lI x3, lI x4, lI x5, lV vI5, lI x6, lI x7, lI x8, lI x9, lI x10, lU, lU, lU, lU] [(.int x10), (.int x9), (.int x8), (.int x7), (.int x6), vI5])) rfl (by rw [hml]; rfl) (argsL := [vI5, (.int x6), (.int x7), (.int x8), (.int x9), (.int x10)]) (rest := []) (lenOf pd__ICCCCC_Ljava_lang_String_ rfl) rfl (own_W rfl) (hb hby at_53)
  obtain ⟨b20_0, b20_1, k20_0, rfl, N20q, K20, f21, f22, f23, f24, f25, f26, f27, f28⟩ := hQ20
  have N20 := Fr.app N11 N20q
  have R29 := CHr.trans R0 (CHr.keep K20 sf0 R0.1)
  have sf30 : Safe Z consts_1 s.vm h0 b20_0 := Safe.new f21
  have sf31 : Safe Z consts_1 s.vm h0 b20_1 := Safe.new f25
  have dm32 : ∀ t, Steps p.tables e below (T20.setTop (mkF m 76 #[lI x0, lI x1, lI x2, lI x3, lI x4, lI x5, lV vI5, lI x6, lI x7, lI x8, lI x9, lI x10, lR b20_0, .val (.int (if x6 = (47 : Int32) then (0 : Int32) else (-1 : Int32))), lU, lU] [])) t → Steps p.tables e below (T20.setTop (mkF m 70 #[lI x0, lI x1, lI x2, lI x3, lI x4, lI x5, lV vI5, lI x6, lI x7, lI x8, lI x9, lI x10, lR b20_0, .val (.int (-1 : Int32)), lU, lU] [vI47, (.int x6)])) t := by
    intro t kk
    by_cases hd : x6 = (47 : Int32)
    · show SG p e below T20 (mkF m 70 #[lI x0, lI x1, lI x2, lI x3, lI x4, lI x5, lV vI5, lI x6, lI x7, lI x8, lI x9, lI x10, lR b20_0, .val (.int (-1 : Int32)), lU, lU] [vI47, (.int x6)]) _
      refine XS.icmpNo X20.here hx rfl (hb hby at_70) rfl (teq hd).2 ?_
      refine qc X20 hx hby at_73 ?_
      refine XS.istore X20.here hx rfl (hb hby at_74) rfl (l' := #[lI x0, lI x1, lI x2, lI x3, lI x4, lI x5, lV vI5, lI x6, lI x7, lI x8, lI x9, lI x10, lR b20_0, lV vI0, lU, lU]) rfl ?_
      simp only [if_pos hd] at kk
      exact kk
    · show SG p e below T20 (mkF m 70 #[lI x0, lI x1, lI x2, lI x3, lI x4, lI x5, lV vI5, lI x6, lI x7, lI x8, lI x9, lI x10, lR b20_0, .val (.int (-1 : Int32)), lU, lU] [vI47, (.int x6)]) _
      refine XS.icmpYes X20.here hx rfl (pc0 := 70) (pc' := 76) rfl (hb hby at_70) rfl (feq hd).2 (by decide) (by decide) ?_
      simp only [if_neg hd] at kk
      exact kk
  have dm34 : ∀ t, Steps p.tables e below (T20.setTop (mkF m 92 #[lI x0, lI x1, lI x2, lI x3, lI x4, lI x5, lV vI5, lI x6, lI x7, lI x8, lI x9, lI x10, lR b20_0, .val (.int (if x7 = (47 : Int32) then (1 : Int32) else x12)), lU, lU] [])) t → Steps p.tables e below (T20.setTop (mkF m 86 #[lI x0, lI x1, lI x2, lI x3, lI x4, lI x5, lV vI5, lI x6, lI x7, lI x8, lI x9, lI x10, lR b20_0, lI x12, lU, lU] [vI47, (.int x7)])) t := by
    intro t kk
    by_cases hd : x7 = (47 : Int32)
    · show SG p e below T20 (mkF m 86 #[lI x0, lI x1, lI x2, lI x3, lI x4, lI x5, lV vI5, lI x6, lI x7, lI x8, lI x9, lI x10, lR b20_0, lI x12, lU, lU] [vI47, (.int x7)]) _
      refine XS.icmpNo X20.here hx rfl (hb hby at_86) rfl (teq hd).2 ?_
      refine qc X20 hx hby at_89 ?_
      refine XS.istore X20.here hx rfl (hb hby at_90) rfl (l' := #[lI x0, lI x1, lI x2, lI x3, lI x4, lI x5, lV vI5, lI x6, lI x7, lI x8, lI x9, lI x10, lR b20_0, lV vI1, lU, lU]) rfl ?_
      simp only [if_pos hd] at kk
      exact kk
    · show SG p e below T20 (mkF m 86 #[lI x0, lI x1, lI x2, lI x3, lI x4, lI x5, lV vI5, lI x6, lI x7, lI x8, lI x9, lI x10, lR b20_0, lI x12, lU, lU] [vI47, (.int x7)]) _
      refine XS.icmpYes X20.here hx rfl (pc0 := 86) (pc' := 92) rfl (hb hby at_86) rfl (feq hd).2 (by decide) (by decide) ?_
      simp only [if_neg hd] at kk
      exact kk
  have dm36 : ∀ t, Steps p.tables e below (T20.setTop (mkF m 108 #[lI x0, lI x1, lI x2, lI x3, lI x4, lI x5, lV vI5, lI x6, lI x7, lI x8, lI x9, lI x10, lR b20_0, .val (.int (if x8 = (47 : Int32) then (2 : Int32) else x13)), lU, lU] [])) t → Steps p.tables e below (T20.setTop (mkF m 102 #[lI x0, lI x1, lI x2, lI x3, lI x4, lI x5, lV vI5, lI x6, lI x7, lI x8, lI x9, lI x10, lR b20_0, lI x13, lU, lU] [vI47, (.int x8)])) t := by
    intro t kk
    by_cases hd : x8 = (47 : Int32)
    · show SG p e below T20 (mkF m 102 #[lI x0, lI x1, lI x2, lI x3, lI x4, lI x5, lV vI5, lI x6, lI x7, lI x8, lI x9, lI x10, lR b20_0, lI x13, lU, lU] [vI47, (.int x8)]) _
      refine XS.icmpNo X20.here hx rfl (hb hby at_102) rfl (teq hd).2 ?_
      refine qc X20 hx hby at_105 ?_
      refine XS.istore X20.here hx rfl (hb hby at_106) rfl (l' := #[lI x0, lI x1, lI x2, lI x3, lI x4, lI x5, lV vI5, lI x6, lI x7, lI x8, lI x9, lI x10, lR b20_0, lV vI2, lU, lU]) rfl ?_
      simp only [if_pos hd] at kk
      exact kk
    · show SG p e below T20 (mkF m 102 #[lI x0, lI x1, lI x2, lI x3, lI x4, lI x5, lV vI5, lI x6, lI x7, lI x8, lI x9, lI x10, lR b20_0, lI x13, lU, lU] [vI47, (.int x8)]) _
      refine XS.icmpYes X20.here hx rfl (pc0 := 102) (pc' := 108) rfl (hb hby at_102) rfl (feq hd).2 (by decide) (by decide) ?_
      simp only [if_neg hd] at kk
      exact kk
  have dm38 : ∀ t, Steps p.tables e below (T20.setTop (mkF m 124 #[lI x0, lI x1, lI x2, lI x3, lI x4, lI x5, lV vI5, lI x6, lI x7, lI x8, lI x9, lI x10, lR b20_0, .val (.int (if x9 = (47 : Int32) then (3 : Int32) else x14)), lU, lU] [])) t → Steps p.tables e below (T20.setTop (mkF m 118 #[lI x0, lI x1, lI x2, lI x3, lI x4, lI x5, lV vI5, lI x6, lI x7, lI x8, lI x9, lI x10, lR b20_0, lI x14, lU, lU] [vI47, (.int x9)])) t := by
    intro t kk
    by_cases hd : x9 = (47 : Int32)
    · show SG p e below T20 (mkF m 118 #[lI x0, lI x1, lI x2, lI x3, lI x4, lI x5, lV vI5, lI x6, lI x7, lI x8, lI x9, lI x10, lR b20_0, lI x14, lU, lU] [vI47, (.int x9)]) _
      refine XS.icmpNo X20.here hx rfl (hb hby at_118) rfl (teq hd).2 ?_
      refine qc X20 hx hby at_121 ?_
      refine XS.istore X20.here hx rfl (hb hby at_122) rfl (l' := #[lI x0, lI x1, lI x2, lI x3, lI x4, lI x5, lV vI5, lI x6, lI x7, lI x8, lI x9, lI x10, lR b20_0, lV vI3, lU, lU]) rfl ?_
      simp only [if_pos hd] at kk
      exact kk
    · show SG p e below T20 (mkF m 118 #[lI x0, lI x1, lI x2, lI x3, lI x4, lI x5, lV vI5, lI x6, lI x7, lI x8, lI x9, lI x10, lR b20_0, lI x14, lU, lU] [vI47, (.int x9)]) _
      refine XS.icmpYes X20.here hx rfl (pc0 := 118) (pc' := 124) rfl (hb hby at_118) rfl (feq hd).2 (by decide) (by decide) ?_
      simp only [if_neg hd] at kk
      exact kk
  have dm40 : ∀ t, Steps p.tables e below (T20.setTop (mkF m 140 #[lI x0, lI x1, lI x2, lI x3, lI x4, lI x5, lV vI5, lI x6, lI x7, lI x8, lI x9, lI x10, lR b20_0, .val (.int (if x10 = (47 : Int32) then (4 : Int32) else x15)), lU, lU] [])) t → Steps p.tables e below (T20.setTop (mkF m 134 #[lI x0, lI x1, lI x2, lI x3, lI x4, lI x5, lV vI5, lI x6, lI x7, lI x8, lI x9, lI x10, lR b20_0, lI x15, lU, lU] [vI47, (.int x10)])) t := by
    intro t kk
    by_cases hd : x10 = (47 : Int32)
    · show SG p e below T20 (mkF m 134 #[lI x0, lI x1, lI x2, lI x3, lI x4, lI x5, lV vI5, lI x6, lI x7, lI x8, lI x9, lI x10, lR b20_0, lI x15, lU, lU] [vI47, (.int x10)]) _
      refine XS.icmpNo X20.here hx rfl (hb hby at_134) rfl (teq hd).2 ?_
      refine qc X20 hx hby at_137 ?_
      refine XS.istore X20.here hx rfl (hb hby at_138) rfl (l' := #[lI x0, lI x1, lI x2, lI x3, lI x4, lI x5, lV vI5, lI x6, lI x7, lI x8, lI x9, lI x10, lR b20_0, lV vI4, lU, lU]) rfl ?_
      simp only [if_pos hd] at kk
      exact kk
    · show SG p e below T20 (mkF m 134 #[lI x0, lI x1, lI x2, lI x3, lI x4, lI x5, lV vI5, lI x6, lI x7, lI x8, lI x9, lI x10, lR b20_0, lI x15, lU, lU] [vI47, (.int x10)]) _
      refine XS.icmpYes X20.here hx rfl (pc0 := 134) (pc' := 140) rfl (hb hby at_134) rfl (feq hd).2 (by decide) (by decide) ?_
      simp only [if_neg hd] at kk
      exact kk
  have o48 := Old.keep O0 K20 all0
  obtain ⟨_, T49, Lc49, X49, hQ49, st49⟩ := own_cS X20 hx hZ hown rfl (rm6_5 l Z a0 hw [] b20_0 b20_1 (5 : Int32) k20_0 ([(.int ((nar .char x6).toInt8.toInt32)), (.int ((nar .char x7).toInt8.toInt32)), (.int ((nar .char x8).toInt8.toInt32)), (.int ((nar .char x9).toInt8.toInt32)), (.int ((nar .char x10).toInt8.toInt32))]) x11 (0 : Int32) 3 (1 : Int32) ((nar .char x7).toInt8.toInt32) u17 T20.heap n0 o48 f22 f24 f26 f13 hc14 f23 (by decide) (by decide) (by decide) (fun j hj => match j, hj with | 0, _ => ⟨by decide, rfl, by decide, by decide, by decide, by decide, own_atN (n := 2) (by decide) rfl hc42⟩ | 1, _ => ⟨by decide, rfl, by decide, by decide, by decide, by decide, own_atN (n := 3) (by decide) rfl hc43⟩ | 2, _ => ⟨by decide, rfl, by decide, by decide, by decide, by decide, own_atN (n := 4) (by decide) rfl hc44⟩ | z + 3, hz => absurd hz (by omega)) (by decide) (own_gd (n := 1) rfl rfl) (by decide) hc45 (by decide) f46 hc47 (by decide) (by decide) (by decide) (by decide) (by decide) (by decide) (by decide) (by decide) (by decide)) (w 30 rfl) (w 31 rfl) (w 32 rfl) (w 33 rfl) (by decide) (W := 0) (by decide) (by decide) (by decide) (by decide) (g := (mkF m 142 #[lI x0, lI x1, lI x2, lI x3, lI x4, lI x5, lV vI5, lI x6, lI x7, lI x8, lI x9, lI x10, lR b20_0, lI x16, lU, lU] [(.ref b20_0)])) rfl (by rw [hml]; rfl) (argsL := [(.ref b20_0)]) (rest := []) (lenOf pd__Ljava_lang_String__Ljava_lang_String_ rfl) rfl (own_W rfl) (hb hby at_142)
  obtain ⟨b49_0, b49_1, k49_0, rfl, N49q, K49, f50, f51, f52, f53, f54, f55, f56, f57⟩ := hQ49
  have N49 := Fr.app N20 N49q
  have R58 := CHr.trans R29 (CHr.keep K49 sf0 R29.1)
  have sf59 : Safe Z consts_1 s.vm T20.heap b49_0 := Safe.new f50
  have sf60 : Safe Z consts_1 s.vm T20.heap b49_1 := Safe.new f54
  have o62 := Old.keep o48 K49 all0
  obtain ⟨_, T63, Lc63, X63, hQ63, st63⟩ := own_cS X49 hx hZ hown rfl (rm2_2 l Z a0 hw [] x6 x7 x8 x9 x10 x11 T49.heap n0 o62 f13 hc14 hc15) (w 5 rfl) (w 6 rfl) (w 3 rfl) (w 7 rfl) (by decide) (W := 0) (by decide) (by decide) (by decide) (by decide) (g := (mkF m 175 #[lI x0, lI x1, lI x2, lI x3, lI x4, lI x5, lV vI5, lI x6, lI x7, lI x8, lI x9, lI x10, lR b20_0, lV vI1, lR b49_0, lU] [(.int x10), (.int x9), (.int x8), (.int x7), (.int x6), vI1])) rfl (by rw [hml]; rfl) (argsL := [vI1, (.int x6), (.int x7), (.int x8), (.int x9), (.int x10)]) (rest := []) (lenOf pd__ICCCCC_Ljava_lang_String_ rfl) rfl (own_W rfl) (hb hby at_175)
  obtain ⟨b63_0, b63_1, k63_0, rfl, N63q, K63, f64, f65, f66, f67, f68, f69, f70, f71⟩ := hQ63
  have N63 := Fr.app N49 N63q
  have R72 := CHr.trans R58 (CHr.keep K63 sf0 R58.1)
  have sf73 : Safe Z consts_1 s.vm T49.heap b63_0 := Safe.new f64
  have sf74 : Safe Z consts_1 s.vm T49.heap b63_1 := Safe.new f68
  have f75 := (f53.keep K63 nin0)
  have f76 := (f52.keep K63 nin0)
  have f77 := (f55.keep K63 nin0)
  have f78 := (f51.keep K63)
  have o79 := Old.keep o62 K63 all0
  have f80 := f13.ext o79.2
  obtain ⟨cqq82, kqq82, qq82a, qq82b, qq82c⟩ := isOf hZ rfl f78
  obtain ⟨_, T81, Lc81, X81, hQ81, st81⟩ := own_fin (X63.virtualBack hx (y := mN21) (z := mN21) hown (mvT hZ (w 116 rfl)) (mvT hZ (w 117 rfl)) (notFace_of_selects (args := #[]) (mvT hZ (w 119 rfl))) (mvT hZ (w 119 rfl)) (mvT hZ (w 118 rfl)) (by decide) (own_strEq hZ hw (w 9 rfl) (bs := [((nar .char x6).toInt8.toInt32)]) f78 f76 f75 (own_trunc (ws := [(.int ((nar .char x6).toInt8.toInt32))]) (rest := [(.int ((nar .char x7).toInt8.toInt32)), (.int ((nar .char x8).toInt8.toInt32)), (.int ((nar .char x9).toInt8.toInt32)), (.int ((nar .char x10).toInt8.toInt32))]) (own_lenK (n := 1) rfl (by decide)) f77) (own_ofLen (n := 1) (by decide) rfl) (Nat.le_of_ble_eq_true rfl) (ds := [((nar .char x6).toInt8.toInt32)]) f65 f67 f66 f69 (own_ofLen (n := 1) (by decide) rfl) (Nat.le_of_ble_eq_true rfl) f80 hc14 (r := 1) (n0 := n0) (Or.inl ⟨rfl, rfl⟩) (by decide) (by decide : 0 + 28 ≤ _)) qq82a qq82c (g := (mkF m 189 #[lI x0, lI x1, lI x2, lI x3, lI x4, lI x5, lV vI5, lI x6, lI x7, lI x8, lI x9, lI x10, lR b20_0, lV vI1, lR b49_0, lR b63_0] [(.ref b63_0), (.ref b49_0)])) rfl (by rw [hml]; rfl) (Steps.refl _) (argsL := [(.ref b63_0)]) (rest := []) (lenOf pd__Ljava_lang_Object__Z rfl) rfl (own_W rfl) (hb hby at_189) (fun _ _ => ⟨rfl, rfl, (by decide : 8 + 0 ≤ _), (by decide : 32 + 0 ≤ _)⟩))
  obtain ⟨rfl, N81q, E81⟩ := hQ81
  have N81 := Fr.app N63 N81q
  refine ⟨some vI1, _, _, _, _, _, _, _, nofun, X81, by decide, by decide, hS1, (by rw [E81]; exact (Nat.zero_le _)), hZ, E81, R72, ?_, fun fs hr => ?_⟩
  · rw [E81]; exact ⟨rfl, N81⟩
  · show SG p e below s₁ (mkF m 0 #[lI x0, lI x1, lI x2, lI x3, lI x4, lI x5, lU, lU, lU, lU, lU, lU, lU, lU, lU, lU] []) _
    refine qiN X0 hx hby at_0 ?_
    refine X0.ldcInt hx hown (mvT hZ (w 0 rfl)) (g := (mkF m 1 #[lI x0, lI x1, lI x2, lI x3, lI x4, lI x5, lU, lU, lU, lU, lU, lU, lU, lU, lU, lU] [(.int x0)])) rfl (hb hby at_1) _ ?_
    show SG p e below s₁ (mkF m 3 #[lI x0, lI x1, lI x2, lI x3, lI x4, lI x5, lU, lU, lU, lU, lU, lU, lU, lU, lU, lU] [vI2147483647, (.int x0)]) _
    refine XS.iand X0.here hx rfl (hb hby at_3) rfl ?_
    refine qb X0 hx hby at_4 ?_
    refine iremM (g := (mkF m 6 #[lI x0, lI x1, lI x2, lI x3, lI x4, lI x5, lU, lU, lU, lU, lU, lU, lU, lU, lU, lU] [vI6, (.int (x0 &&& (2147483647 : Int32)))])) X0 hx rfl (hb hby at_6) rfl (by decide : ¬ ((6 : Int32) = (0 : Int32))) ?_
    show SG p e below s₁ (mkF m 7 #[lI x0, lI x1, lI x2, lI x3, lI x4, lI x5, lU, lU, lU, lU, lU, lU, lU, lU, lU, lU] [(.int ((x0 &&& (2147483647 : Int32)) % (6 : Int32)))]) _
    rw [hc2]
    show SG p e below s₁ (mkF m 7 #[lI x0, lI x1, lI x2, lI x3, lI x4, lI x5, lU, lU, lU, lU, lU, lU, lU, lU, lU, lU] [vI5]) _
    refine XS.istore X0.here hx rfl (hb hby at_7) rfl (l' := #[lI x0, lI x1, lI x2, lI x3, lI x4, lI x5, lV vI5, lU, lU, lU, lU, lU, lU, lU, lU, lU]) rfl ?_
    refine qiN X0 hx hby at_9 ?_
    refine st3 _ ?_
    show SG p e below T3 (mkF m 13 #[lI x0, lI x1, lI x2, lI x3, lI x4, lI x5, lV vI5, lU, lU, lU, lU, lU, lU, lU, lU, lU] [(.int (nar .char (if (x1 &&& (1 : Int32)) = (0 : Int32) then ((((x1.toUInt32 >>> ((1 : Int32) &&& 31).toUInt32).toInt32) &&& (255 : Int32)).toUInt32.toUInt16.toUInt32.toInt32) else (47 : Int32))))]) _
    rw [hq4]
    show SG p e below T3 (mkF m 13 #[lI x0, lI x1, lI x2, lI x3, lI x4, lI x5, lV vI5, lU, lU, lU, lU, lU, lU, lU, lU, lU] [(.int x6)]) _
    refine XS.istore X3.here hx rfl (hb hby at_13) rfl (l' := #[lI x0, lI x1, lI x2, lI x3, lI x4, lI x5, lV vI5, lI x6, lU, lU, lU, lU, lU, lU, lU, lU]) rfl ?_
    refine qiN X3 hx hby at_15 ?_
    refine st5 _ ?_
    show SG p e below T5 (mkF m 19 #[lI x0, lI x1, lI x2, lI x3, lI x4, lI x5, lV vI5, lI x6, lU, lU, lU, lU, lU, lU, lU, lU] [(.int (nar .char (if (x2 &&& (1 : Int32)) = (0 : Int32) then ((((x2.toUInt32 >>> ((1 : Int32) &&& 31).toUInt32).toInt32) &&& (255 : Int32)).toUInt32.toUInt16.toUInt32.toInt32) else (47 : Int32))))]) _
    rw [hq6]
    show SG p e below T5 (mkF m 19 #[lI x0, lI x1, lI x2, lI x3, lI x4, lI x5, lV vI5, lI x6, lU, lU, lU, lU, lU, lU, lU, lU] [(.int x7)]) _
    refine XS.istore X5.here hx rfl (hb hby at_19) rfl (l' := #[lI x0, lI x1, lI x2, lI x3, lI x4, lI x5, lV vI5, lI x6, lI x7, lU, lU, lU, lU, lU, lU, lU]) rfl ?_
    refine qiN X5 hx hby at_21 ?_
    refine st7 _ ?_
    show SG p e below T7 (mkF m 25 #[lI x0, lI x1, lI x2, lI x3, lI x4, lI x5, lV vI5, lI x6, lI x7, lU, lU, lU, lU, lU, lU, lU] [(.int (nar .char (if (x3 &&& (1 : Int32)) = (0 : Int32) then ((((x3.toUInt32 >>> ((1 : Int32) &&& 31).toUInt32).toInt32) &&& (255 : Int32)).toUInt32.toUInt16.toUInt32.toInt32) else (47 : Int32))))]) _
    rw [hq8]
    show SG p e below T7 (mkF m 25 #[lI x0, lI x1, lI x2, lI x3, lI x4, lI x5, lV vI5, lI x6, lI x7, lU, lU, lU, lU, lU, lU, lU] [(.int x8)]) _
    refine XS.istore X7.here hx rfl (hb hby at_25) rfl (l' := #[lI x0, lI x1, lI x2, lI x3, lI x4, lI x5, lV vI5, lI x6, lI x7, lI x8, lU, lU, lU, lU, lU, lU]) rfl ?_
    refine qi X7 hx hby at_27 ?_
    refine st9 _ ?_
    show SG p e below T9 (mkF m 32 #[lI x0, lI x1, lI x2, lI x3, lI x4, lI x5, lV vI5, lI x6, lI x7, lI x8, lU, lU, lU, lU, lU, lU] [(.int (nar .char (if (x4 &&& (1 : Int32)) = (0 : Int32) then ((((x4.toUInt32 >>> ((1 : Int32) &&& 31).toUInt32).toInt32) &&& (255 : Int32)).toUInt32.toUInt16.toUInt32.toInt32) else (47 : Int32))))]) _
    rw [hq10]
    show SG p e below T9 (mkF m 32 #[lI x0, lI x1, lI x2, lI x3, lI x4, lI x5, lV vI5, lI x6, lI x7, lI x8, lU, lU, lU, lU, lU, lU] [(.int x9)]) _
    refine XS.istore X9.here hx rfl (hb hby at_32) rfl (l' := #[lI x0, lI x1, lI x2, lI x3, lI x4, lI x5, lV vI5, lI x6, lI x7, lI x8, lI x9, lU, lU, lU, lU, lU]) rfl ?_
    refine qi X9 hx hby at_34 ?_
    refine st11 _ ?_
    show SG p e below T11 (mkF m 39 #[lI x0, lI x1, lI x2, lI x3, lI x4, lI x5, lV vI5, lI x6, lI x7, lI x8, lI x9, lU, lU, lU, lU, lU] [(.int (nar .char (if (x5 &&& (1 : Int32)) = (0 : Int32) then ((((x5.toUInt32 >>> ((1 : Int32) &&& 31).toUInt32).toInt32) &&& (255 : Int32)).toUInt32.toUInt16.toUInt32.toInt32) else (47 : Int32))))]) _
    rw [hq12]
    show SG p e below T11 (mkF m 39 #[lI x0, lI x1, lI x2, lI x3, lI x4, lI x5, lV vI5, lI x6, lI x7, lI x8, lI x9, lU, lU, lU, lU, lU] [(.int x10)]) _
    refine XS.istore X11.here hx rfl (hb hby at_39) rfl (l' := #[lI x0, lI x1, lI x2, lI x3, lI x4, lI x5, lV vI5, lI x6, lI x7, lI x8, lI x9, lI x10, lU, lU, lU, lU]) rfl ?_
    refine qi X11 hx hby at_41 ?_
    refine qi X11 hx hby at_43 ?_
    refine qi X11 hx hby at_45 ?_
    refine qi X11 hx hby at_47 ?_
    refine qi X11 hx hby at_49 ?_
    refine qi X11 hx hby at_51 ?_
    refine st20 _ ?_
    show SG p e below T20 (mkF m 56 #[lI x0, lI x1, lI x2, lI x3, lI x4, lI x5, lV vI5, lI x6, lI x7, lI x8, lI x9, lI x10, lU, lU, lU, lU] [(.ref b20_0)]) _
    refine XS.astore X20.here hx rfl (hb hby at_56) rfl rfl (l' := #[lI x0, lI x1, lI x2, lI x3, lI x4, lI x5, lV vI5, lI x6, lI x7, lI x8, lI x9, lI x10, lR b20_0, lU, lU, lU]) rfl ?_
    refine qc X20 hx hby at_58 ?_
    refine XS.istore X20.here hx rfl (hb hby at_59) rfl (l' := #[lI x0, lI x1, lI x2, lI x3, lI x4, lI x5, lV vI5, lI x6, lI x7, lI x8, lI x9, lI x10, lR b20_0, .val (.int (-1 : Int32)), lU, lU]) rfl ?_
    refine qi X20 hx hby at_61 ?_
    refine XS.ifNo X20.here hx rfl (hb hby at_63) rfl ((if0 _ _).trans (tlt (by decide : (0 : Int32) < (5 : Int32))).2.2.2) ?_
    refine qi X20 hx hby at_66 ?_
    refine qb X20 hx hby at_68 ?_
    show SG p e below T20 (mkF m 70 #[lI x0, lI x1, lI x2, lI x3, lI x4, lI x5, lV vI5, lI x6, lI x7, lI x8, lI x9, lI x10, lR b20_0, .val (.int (-1 : Int32)), lU, lU] [vI47, (.int x6)]) _
    refine dm32 _ ?_
    show SG p e below T20 (mkF m 76 #[lI x0, lI x1, lI x2, lI x3, lI x4, lI x5, lV vI5, lI x6, lI x7, lI x8, lI x9, lI x10, lR b20_0, .val (.int (if x6 = (47 : Int32) then (0 : Int32) else (-1 : Int32))), lU, lU] []) _
    rw [hq33]
    show SG p e below T20 (mkF m 76 #[lI x0, lI x1, lI x2, lI x3, lI x4, lI x5, lV vI5, lI x6, lI x7, lI x8, lI x9, lI x10, lR b20_0, lI x12, lU, lU] []) _
    refine qi X20 hx hby at_76 ?_
    refine qc X20 hx hby at_78 ?_
    refine XS.icmpNo X20.here hx rfl (hb hby at_79) rfl (tlt (by decide : (1 : Int32) < (5 : Int32))).2.2.2 ?_
    refine qi X20 hx hby at_82 ?_
    refine qb X20 hx hby at_84 ?_
    show SG p e below T20 (mkF m 86 #[lI x0, lI x1, lI x2, lI x3, lI x4, lI x5, lV vI5, lI x6, lI x7, lI x8, lI x9, lI x10, lR b20_0, lI x12, lU, lU] [vI47, (.int x7)]) _
    refine dm34 _ ?_
    show SG p e below T20 (mkF m 92 #[lI x0, lI x1, lI x2, lI x3, lI x4, lI x5, lV vI5, lI x6, lI x7, lI x8, lI x9, lI x10, lR b20_0, .val (.int (if x7 = (47 : Int32) then (1 : Int32) else x12)), lU, lU] []) _
    rw [hq35]
    show SG p e below T20 (mkF m 92 #[lI x0, lI x1, lI x2, lI x3, lI x4, lI x5, lV vI5, lI x6, lI x7, lI x8, lI x9, lI x10, lR b20_0, lI x13, lU, lU] []) _
    refine qi X20 hx hby at_92 ?_
    refine qc X20 hx hby at_94 ?_
    refine XS.icmpNo X20.here hx rfl (hb hby at_95) rfl (tlt (by decide : (2 : Int32) < (5 : Int32))).2.2.2 ?_
    refine qi X20 hx hby at_98 ?_
    refine qb X20 hx hby at_100 ?_
    show SG p e below T20 (mkF m 102 #[lI x0, lI x1, lI x2, lI x3, lI x4, lI x5, lV vI5, lI x6, lI x7, lI x8, lI x9, lI x10, lR b20_0, lI x13, lU, lU] [vI47, (.int x8)]) _
    refine dm36 _ ?_
    show SG p e below T20 (mkF m 108 #[lI x0, lI x1, lI x2, lI x3, lI x4, lI x5, lV vI5, lI x6, lI x7, lI x8, lI x9, lI x10, lR b20_0, .val (.int (if x8 = (47 : Int32) then (2 : Int32) else x13)), lU, lU] []) _
    rw [hq37]
    show SG p e below T20 (mkF m 108 #[lI x0, lI x1, lI x2, lI x3, lI x4, lI x5, lV vI5, lI x6, lI x7, lI x8, lI x9, lI x10, lR b20_0, lI x14, lU, lU] []) _
    refine qi X20 hx hby at_108 ?_
    refine qc X20 hx hby at_110 ?_
    refine XS.icmpNo X20.here hx rfl (hb hby at_111) rfl (tlt (by decide : (3 : Int32) < (5 : Int32))).2.2.2 ?_
    refine qi X20 hx hby at_114 ?_
    refine qb X20 hx hby at_116 ?_
    show SG p e below T20 (mkF m 118 #[lI x0, lI x1, lI x2, lI x3, lI x4, lI x5, lV vI5, lI x6, lI x7, lI x8, lI x9, lI x10, lR b20_0, lI x14, lU, lU] [vI47, (.int x9)]) _
    refine dm38 _ ?_
    show SG p e below T20 (mkF m 124 #[lI x0, lI x1, lI x2, lI x3, lI x4, lI x5, lV vI5, lI x6, lI x7, lI x8, lI x9, lI x10, lR b20_0, .val (.int (if x9 = (47 : Int32) then (3 : Int32) else x14)), lU, lU] []) _
    rw [hq39]
    show SG p e below T20 (mkF m 124 #[lI x0, lI x1, lI x2, lI x3, lI x4, lI x5, lV vI5, lI x6, lI x7, lI x8, lI x9, lI x10, lR b20_0, lI x15, lU, lU] []) _
    refine qi X20 hx hby at_124 ?_
    refine qc X20 hx hby at_126 ?_
    refine XS.icmpNo X20.here hx rfl (hb hby at_127) rfl (tlt (by decide : (4 : Int32) < (5 : Int32))).2.2.2 ?_
    refine qi X20 hx hby at_130 ?_
    refine qb X20 hx hby at_132 ?_
    show SG p e below T20 (mkF m 134 #[lI x0, lI x1, lI x2, lI x3, lI x4, lI x5, lV vI5, lI x6, lI x7, lI x8, lI x9, lI x10, lR b20_0, lI x15, lU, lU] [vI47, (.int x10)]) _
    refine dm40 _ ?_
    show SG p e below T20 (mkF m 140 #[lI x0, lI x1, lI x2, lI x3, lI x4, lI x5, lV vI5, lI x6, lI x7, lI x8, lI x9, lI x10, lR b20_0, .val (.int (if x10 = (47 : Int32) then (4 : Int32) else x15)), lU, lU] []) _
    rw [hq41]
    show SG p e below T20 (mkF m 140 #[lI x0, lI x1, lI x2, lI x3, lI x4, lI x5, lV vI5, lI x6, lI x7, lI x8, lI x9, lI x10, lR b20_0, lI x16, lU, lU] []) _
    refine qa X20 hx hby at_140 ?_
    refine st49 _ ?_
    show SG p e below T49 (mkF m 145 #[lI x0, lI x1, lI x2, lI x3, lI x4, lI x5, lV vI5, lI x6, lI x7, lI x8, lI x9, lI x10, lR b20_0, lI x16, lU, lU] [(.ref b49_0)]) _
    refine XS.astore X49.here hx rfl (hb hby at_145) rfl rfl (l' := #[lI x0, lI x1, lI x2, lI x3, lI x4, lI x5, lV vI5, lI x6, lI x7, lI x8, lI x9, lI x10, lR b20_0, lI x16, lR b49_0, lU]) rfl ?_
    refine qi X49 hx hby at_147 ?_
    show SG p e below T49 (mkF m 149 #[lI x0, lI x1, lI x2, lI x3, lI x4, lI x5, lV vI5, lI x6, lI x7, lI x8, lI x9, lI x10, lR b20_0, lI x16, lR b49_0, lU] [(.int x16)]) _
    rw [hc61]
    show SG p e below T49 (mkF m 149 #[lI x0, lI x1, lI x2, lI x3, lI x4, lI x5, lV vI5, lI x6, lI x7, lI x8, lI x9, lI x10, lR b20_0, lV vI1, lR b49_0, lU] [vI1]) _
    refine XS.ifYes X49.here hx rfl (pc0 := 149) (pc' := 163) rfl (hb hby at_149) rfl ((if0 _ _).trans (tlt (by decide : (0 : Int32) < (1 : Int32))).2.2.1) (by decide) (by decide) ?_
    show SG p e below T49 (mkF m 163 #[lI x0, lI x1, lI x2, lI x3, lI x4, lI x5, lV vI5, lI x6, lI x7, lI x8, lI x9, lI x10, lR b20_0, lV vI1, lR b49_0, lU] []) _
    refine qi X49 hx hby at_163 ?_
    refine qi X49 hx hby at_165 ?_
    refine qi X49 hx hby at_167 ?_
    refine qi X49 hx hby at_169 ?_
    refine qi X49 hx hby at_171 ?_
    refine qi X49 hx hby at_173 ?_
    refine st63 _ ?_
    show SG p e below T63 (mkF m 178 #[lI x0, lI x1, lI x2, lI x3, lI x4, lI x5, lV vI5, lI x6, lI x7, lI x8, lI x9, lI x10, lR b20_0, lV vI1, lR b49_0, lU] [(.ref b63_0)]) _
    refine XS.astore X63.here hx rfl (hb hby at_178) rfl rfl (l' := #[lI x0, lI x1, lI x2, lI x3, lI x4, lI x5, lV vI5, lI x6, lI x7, lI x8, lI x9, lI x10, lR b20_0, lV vI1, lR b49_0, lR b63_0]) rfl ?_
    refine qa X63 hx hby at_180 ?_
    refine XS.ifnullNo X63.here hx rfl (hb hby at_182) rfl ?_
    refine qa X63 hx hby at_185 ?_
    refine qa X63 hx hby at_187 ?_
    refine st81.trans ?_
    show SG p e below T81 (mkF m 192 #[lI x0, lI x1, lI x2, lI x3, lI x4, lI x5, lV vI5, lI x6, lI x7, lI x8, lI x9, lI x10, lR b20_0, lV vI1, lR b49_0, lR b63_0] [vI1]) _
    refine XS.ifNo X81.here hx rfl (hb hby at_192) rfl ((if0 _ _).trans (feq (by decide : ¬ ((1 : Int32) = (0 : Int32)))).1) ?_
    refine qc X81 hx hby at_195 ?_
    refine XS.goto X81.here hx rfl (pc0 := 196) (pc' := 200) rfl (hb hby at_196) (by decide) (by decide) ?_
    show SG p e below T81 (mkF m 200 #[lI x0, lI x1, lI x2, lI x3, lI x4, lI x5, lV vI5, lI x6, lI x7, lI x8, lI x9, lI x10, lR b20_0, lV vI1, lR b49_0, lR b63_0] [vI1]) _
    exact retN X81 hx (t := .boolean) hret (by simp) (hb hby at_200) hr
def Q0_14 (Z : State) (x0 x1 : Int32) (x2 x3 : Int32) (x4 x5 : Int32) (x6 x7 : Int32) (x8 x9 : Int32) (x10 x11 : Int32) (x12 x13 : Int32) (x14 x15 x16 : Int32) (u17 : Value) (h0 : Heap) (n0 : Nat) (v : Option Value) (h : Heap) (L : List Loc) : Prop := v = some vI1 ∧ Fr n0 L
theorem rm0_14 (l : Launch) (Z : State) (a0 : Array Value) (hw : own_HW a0 Z) (ws : List Jvm.Cond) (x0 x1 : Int32) (x2 x3 : Int32) (x4 x5 : Int32) (x6 x7 : Int32) (x8 x9 : Int32) (x10 x11 : Int32) (x12 x13 : Int32) (x14 x15 x16 : Int32) (u17 : Value) (h0 : Heap) (n0 : Nat) (O0 : Old Z n0 h0) (hc2 : ((x0 &&& (2147483647 : Int32)) % (6 : Int32)) = (5 : Int32)) (hq4 : (nar .char (if (x1 &&& (1 : Int32)) = (0 : Int32) then ((((x1.toUInt32 >>> ((1 : Int32) &&& 31).toUInt32).toInt32) &&& (255 : Int32)).toUInt32.toUInt16.toUInt32.toInt32) else (47 : Int32))) = x6) (hq6 : (nar .char (if (x2 &&& (1 : Int32)) = (0 : Int32) then ((((x2.toUInt32 >>> ((1 : Int32) &&& 31).toUInt32).toInt32) &&& (255 : Int32)).toUInt32.toUInt16.toUInt32.toInt32) else (47 : Int32))) = x7) (hq8 : (nar .char (if (x3 &&& (1 : Int32)) = (0 : Int32) then ((((x3.toUInt32 >>> ((1 : Int32) &&& 31).toUInt32).toInt32) &&& (255 : Int32)).toUInt32.toUInt16.toUInt32.toInt32) else (47 : Int32))) = x8) (hq10 : (nar .char (if (x4 &&& (1 : Int32)) = (0 : Int32) then ((((x4.toUInt32 >>> ((1 : Int32) &&& 31).toUInt32).toInt32) &&& (255 : Int32)).toUInt32.toUInt16.toUInt32.toInt32) else (47 : Int32))) = x9) (hq12 : (nar .char (if (x5 &&& (1 : Int32)) = (0 : Int32) then ((((x5.toUInt32 >>> ((1 : Int32) &&& 31).toUInt32).toInt32) &&& (255 : Int32)).toUInt32.toUInt16.toUInt32.toInt32) else (47 : Int32))) = x10) (f13 : Sta Z Z.heap "java/lang/String" "COMPACT_STRINGS" "Z" (.int x11)) (hc14 : ¬ (x11 = (0 : Int32))) (hc15 : ¬ ((255 : Int32) < (nar .char x6))) (hc16 : ¬ ((255 : Int32) < (nar .char x7))) (hc17 : ¬ ((255 : Int32) < (nar .char x8))) (hc18 : ¬ ((255 : Int32) < (nar .char x9))) (hc19 : ¬ ((255 : Int32) < (nar .char x10))) (hq33 : (if x6 = (47 : Int32) then (0 : Int32) else (-1 : Int32)) = x12) (hq35 : (if x7 = (47 : Int32) then (1 : Int32) else x12) = x13) (hq37 : (if x8 = (47 : Int32) then (2 : Int32) else x13) = x14) (hq39 : (if x9 = (47 : Int32) then (3 : Int32) else x14) = x15) (hq41 : (if x10 = (47 : Int32) then (4 : Int32) else x15) = x16) (hc42 : ¬ (((nar .char x9).toInt8.toInt32) = (47 : Int32))) (hc43 : ¬ (((nar .char x10).toInt8.toInt32) = (47 : Int32))) (hc44 : ((nar .char x8).toInt8.toInt32) = (47 : Int32)) (f45 : Sta Z Z.heap cs4 "SIOOBE_FORMATTER" cs5 u17) (hc46 : u17.isRef = true) (hc60 : x16 = (2 : Int32)) :
    own_MH l x code maxLocals ret ws room_1 Z h0 #[(.int x0), (.int x1), (.int x2), (.int x3), (.int x4), (.int x5)] (Q0_14 Z x0 x1 x2 x3 x4 x5 x6 x7 x8 x9 x10 x11 x12 x13 x14 x15 x16 u17 h0 n0) := by
  have hEL : EW Z a0 consts_1 := own_EW hw
  refine own_openH hEL (plainFor_of_name pn_com_example_nearmiss_nearmiss_ElementParentPathPinLaw) (L0 := #[lI x0, lI x1, lI x2, lI x3, lI x4, lI x5, lU, lU, lU, lU, lU, lU, lU, lU, lU, lU]) (fun _ => by first | (simp [entryFrame, mkF, argsToLocals, Value.category, maxLocals]; done) | rfl) ?_
  intro p e s m below meth c s₁ hx hby hml hret hnn hZ hown X0 e0 R0
  have N0 := Fr.nil n0; have w := @ww Z a0 hw
  have hS1 := (State.WarmedH.refl s).since 0
  obtain ⟨_, T3, Lc3, X3, hQ3, st3⟩ := own_cS X0 hx hZ hown e0 (rm1_1 l Z a0 hw [] x1 h0 n0 O0) (w 1 rfl) (w 2 rfl) (w 3 rfl) (w 4 rfl) (by decide) (W := 0) (by decide) (by decide) (by decide) (by decide) (g := (mkF m 10 #[lI x0, lI x1, lI x2, lI x3, lI x4, lI x5, lV vI5, lU, lU, lU, lU, lU, lU, lU, lU, lU] [(.int x1)])) rfl (by rw [hml]; rfl) (argsL := [(.int x1)]) (rest := []) (lenOf pd__I_C rfl) rfl (own_W rfl) (hb hby at_10)
  obtain ⟨rfl, N3q, E3⟩ := hQ3
  have N3 := Fr.app N0 N3q
  obtain ⟨_, T5, Lc5, X5, hQ5, st5⟩ := own_cS X3 hx hZ hown E3 (rm1_1 l Z a0 hw [] x2 h0 n0 O0) (w 1 rfl) (w 2 rfl) (w 3 rfl) (w 4 rfl) (by decide) (W := 0) (by decide) (by decide) (by decide) (by decide) (g := (mkF m 16 #[lI x0, lI x1, lI x2, lI x3, lI x4, lI x5, lV vI5, lI x6, lU, lU, lU, lU, lU, lU, lU, lU] [(.int x2)])) rfl (by rw [hml]; rfl) (argsL := [(.int x2)]) (rest := []) (lenOf pd__I_C rfl) rfl (own_W rfl) (hb hby at_16)
  obtain ⟨rfl, N5q, E5⟩ := hQ5
  have N5 := Fr.app N3 N5q
  obtain ⟨_, T7, Lc7, X7, hQ7, st7⟩ := own_cS X5 hx hZ hown E5 (rm1_1 l Z a0 hw [] x3 h0 n0 O0) (w 1 rfl) (w 2 rfl) (w 3 rfl) (w 4 rfl) (by decide) (W := 0) (by decide) (by decide) (by decide) (by decide) (g := (mkF m 22 #[lI x0, lI x1, lI x2, lI x3, lI x4, lI x5, lV vI5, lI x6, lI x7, lU, lU, lU, lU, lU, lU, lU] [(.int x3)])) rfl (by rw [hml]; rfl) (argsL := [(.int x3)]) (rest := []) (lenOf pd__I_C rfl) rfl (own_W rfl) (hb hby at_22)
  obtain ⟨rfl, N7q, E7⟩ := hQ7
  have N7 := Fr.app N5 N7q
  obtain ⟨_, T9, Lc9, X9, hQ9, st9⟩ := own_cS X7 hx hZ hown E7 (rm1_1 l Z a0 hw [] x4 h0 n0 O0) (w 1 rfl) (w 2 rfl) (w 3 rfl) (w 4 rfl) (by decide) (W := 0) (by decide) (by decide) (by decide) (by decide) (g := (mkF m 29 #[lI x0, lI x1, lI x2, lI x3, lI x4, lI x5, lV vI5, lI x6, lI x7, lI x8, lU, lU, lU, lU, lU, lU] [(.int x4)])) rfl (by rw [hml]; rfl) (argsL := [(.int x4)]) (rest := []) (lenOf pd__I_C rfl) rfl (own_W rfl) (hb hby at_29)
  obtain ⟨rfl, N9q, E9⟩ := hQ9
  have N9 := Fr.app N7 N9q
  obtain ⟨_, T11, Lc11, X11, hQ11, st11⟩ := own_cS X9 hx hZ hown E9 (rm1_1 l Z a0 hw [] x5 h0 n0 O0) (w 1 rfl) (w 2 rfl) (w 3 rfl) (w 4 rfl) (by decide) (W := 0) (by decide) (by decide) (by decide) (by decide) (g := (mkF m 36 #[lI x0, lI x1, lI x2, lI x3, lI x4, lI x5, lV vI5, lI x6, lI x7, lI x8, lI x9, lU, lU, lU, lU, lU] [(.int x5)])) rfl (by rw [hml]; rfl) (argsL := [(.int x5)]) (rest := []) (lenOf pd__I_C rfl) rfl (own_W rfl) (hb hby at_36)
  obtain ⟨rfl, N11q, E11⟩ := hQ11
  have N11 := Fr.app N9 N11q
  obtain ⟨_, T20, Lc20, X20, hQ20, st20⟩ := own_cS X11 hx hZ hown E11 (rm2_6 l Z a0 hw [] x6 x7 x8 x9 x10 x11 h0 n0 O0 f13 hc14 hc15 hc16 hc17 hc18 hc19) (w 5 rfl) (w 6 rfl) (w 3 rfl) (w 7 rfl) (by decide) (W := 0) (by decide) (by decide) (by decide) (by decide) (g := (mkF m 53 #[lI x0, lI x1, lI x2, lI x3, lI x4, lI x5, lV vI5, lI x6, lI x7, lI x8, lI x9, lI x10, lU, lU, lU, lU] [(.int x10), (.int x9), (.int x8), (.int x7), (.int x6), vI5])) rfl (by rw [hml]; rfl) (argsL := [vI5, (.int x6), (.int x7), (.int x8), (.int x9), (.int x10)]) (rest := []) (lenOf pd__ICCCCC_Ljava_lang_String_ rfl) rfl (own_W rfl) (hb hby at_53)
  obtain ⟨b20_0, b20_1, k20_0, rfl, N20q, K20, f21, f22, f23, f24, f25, f26, f27, f28⟩ := hQ20
  have N20 := Fr.app N11 N20q
  have R29 := CHr.trans R0 (CHr.keep K20 sf0 R0.1)
  have sf30 : Safe Z consts_1 s.vm h0 b20_0 := Safe.new f21
  have sf31 : Safe Z consts_1 s.vm h0 b20_1 := Safe.new f25
  have dm32 : ∀ t, Steps p.tables e below (T20.setTop (mkF m 76 #[lI x0, lI x1, lI x2, lI x3, lI x4, lI x5, lV vI5, lI x6, lI x7, lI x8, lI x9, lI x10, lR b20_0, .val (.int (if x6 = (47 : Int32) then (0 : Int32) else (-1 : Int32))), lU, lU] [])) t → Steps p.tables e below (T20.setTop (mkF m 70 #[lI x0, lI x1, lI x2, lI x3, lI x4, lI x5, lV vI5, lI x6, lI x7, lI x8, lI x9, lI x10, lR b20_0, .val (.int (-1 : Int32)), lU, lU] [vI47, (.int x6)])) t := by
    intro t kk
    by_cases hd : x6 = (47 : Int32)
    · show SG p e below T20 (mkF m 70 #[lI x0, lI x1, lI x2, lI x3, lI x4, lI x5, lV vI5, lI x6, lI x7, lI x8, lI x9, lI x10, lR b20_0, .val (.int (-1 : Int32)), lU, lU] [vI47, (.int x6)]) _
      refine XS.icmpNo X20.here hx rfl (hb hby at_70) rfl (teq hd).2 ?_
      refine qc X20 hx hby at_73 ?_
      refine XS.istore X20.here hx rfl (hb hby at_74) rfl (l' := #[lI x0, lI x1, lI x2, lI x3, lI x4, lI x5, lV vI5, lI x6, lI x7, lI x8, lI x9, lI x10, lR b20_0, lV vI0, lU, lU]) rfl ?_
      simp only [if_pos hd] at kk
      exact kk
    · show SG p e below T20 (mkF m 70 #[lI x0, lI x1, lI x2, lI x3, lI x4, lI x5, lV vI5, lI x6, lI x7, lI x8, lI x9, lI x10, lR b20_0, .val (.int (-1 : Int32)), lU, lU] [vI47, (.int x6)]) _
      refine XS.icmpYes X20.here hx rfl (pc0 := 70) (pc' := 76) rfl (hb hby at_70) rfl (feq hd).2 (by decide) (by decide) ?_
      simp only [if_neg hd] at kk
      exact kk
  have dm34 : ∀ t, Steps p.tables e below (T20.setTop (mkF m 92 #[lI x0, lI x1, lI x2, lI x3, lI x4, lI x5, lV vI5, lI x6, lI x7, lI x8, lI x9, lI x10, lR b20_0, .val (.int (if x7 = (47 : Int32) then (1 : Int32) else x12)), lU, lU] [])) t → Steps p.tables e below (T20.setTop (mkF m 86 #[lI x0, lI x1, lI x2, lI x3, lI x4, lI x5, lV vI5, lI x6, lI x7, lI x8, lI x9, lI x10, lR b20_0, lI x12, lU, lU] [vI47, (.int x7)])) t := by
    intro t kk
    by_cases hd : x7 = (47 : Int32)
    · show SG p e below T20 (mkF m 86 #[lI x0, lI x1, lI x2, lI x3, lI x4, lI x5, lV vI5, lI x6, lI x7, lI x8, lI x9, lI x10, lR b20_0, lI x12, lU, lU] [vI47, (.int x7)]) _
      refine XS.icmpNo X20.here hx rfl (hb hby at_86) rfl (teq hd).2 ?_
      refine qc X20 hx hby at_89 ?_
      refine XS.istore X20.here hx rfl (hb hby at_90) rfl (l' := #[lI x0, lI x1, lI x2, lI x3, lI x4, lI x5, lV vI5, lI x6, lI x7, lI x8, lI x9, lI x10, lR b20_0, lV vI1, lU, lU]) rfl ?_
      simp only [if_pos hd] at kk
      exact kk
    · show SG p e below T20 (mkF m 86 #[lI x0, lI x1, lI x2, lI x3, lI x4, lI x5, lV vI5, lI x6, lI x7, lI x8, lI x9, lI x10, lR b20_0, lI x12, lU, lU] [vI47, (.int x7)]) _
      refine XS.icmpYes X20.here hx rfl (pc0 := 86) (pc' := 92) rfl (hb hby at_86) rfl (feq hd).2 (by decide) (by decide) ?_
      simp only [if_neg hd] at kk
      exact kk
  have dm36 : ∀ t, Steps p.tables e below (T20.setTop (mkF m 108 #[lI x0, lI x1, lI x2, lI x3, lI x4, lI x5, lV vI5, lI x6, lI x7, lI x8, lI x9, lI x10, lR b20_0, .val (.int (if x8 = (47 : Int32) then (2 : Int32) else x13)), lU, lU] [])) t → Steps p.tables e below (T20.setTop (mkF m 102 #[lI x0, lI x1, lI x2, lI x3, lI x4, lI x5, lV vI5, lI x6, lI x7, lI x8, lI x9, lI x10, lR b20_0, lI x13, lU, lU] [vI47, (.int x8)])) t := by
    intro t kk
    by_cases hd : x8 = (47 : Int32)
    · show SG p e below T20 (mkF m 102 #[lI x0, lI x1, lI x2, lI x3, lI x4, lI x5, lV vI5, lI x6, lI x7, lI x8, lI x9, lI x10, lR b20_0, lI x13, lU, lU] [vI47, (.int x8)]) _
      refine XS.icmpNo X20.here hx rfl (hb hby at_102) rfl (teq hd).2 ?_
      refine qc X20 hx hby at_105 ?_
      refine XS.istore X20.here hx rfl (hb hby at_106) rfl (l' := #[lI x0, lI x1, lI x2, lI x3, lI x4, lI x5, lV vI5, lI x6, lI x7, lI x8, lI x9, lI x10, lR b20_0, lV vI2, lU, lU]) rfl ?_
      simp only [if_pos hd] at kk
      exact kk
    · show SG p e below T20 (mkF m 102 #[lI x0, lI x1, lI x2, lI x3, lI x4, lI x5, lV vI5, lI x6, lI x7, lI x8, lI x9, lI x10, lR b20_0, lI x13, lU, lU] [vI47, (.int x8)]) _
      refine XS.icmpYes X20.here hx rfl (pc0 := 102) (pc' := 108) rfl (hb hby at_102) rfl (feq hd).2 (by decide) (by decide) ?_
      simp only [if_neg hd] at kk
      exact kk
  have dm38 : ∀ t, Steps p.tables e below (T20.setTop (mkF m 124 #[lI x0, lI x1, lI x2, lI x3, lI x4, lI x5, lV vI5, lI x6, lI x7, lI x8, lI x9, lI x10, lR b20_0, .val (.int (if x9 = (47 : Int32) then (3 : Int32) else x14)), lU, lU] [])) t → Steps p.tables e below (T20.setTop (mkF m 118 #[lI x0, lI x1, lI x2, lI x3, lI x4, lI x5, lV vI5, lI x6, lI x7, lI x8, lI x9, lI x10, lR b20_0, lI x14, lU, lU] [vI47, (.int x9)])) t := by
    intro t kk
    by_cases hd : x9 = (47 : Int32)
    · show SG p e below T20 (mkF m 118 #[lI x0, lI x1, lI x2, lI x3, lI x4, lI x5, lV vI5, lI x6, lI x7, lI x8, lI x9, lI x10, lR b20_0, lI x14, lU, lU] [vI47, (.int x9)]) _
      refine XS.icmpNo X20.here hx rfl (hb hby at_118) rfl (teq hd).2 ?_
      refine qc X20 hx hby at_121 ?_
      refine XS.istore X20.here hx rfl (hb hby at_122) rfl (l' := #[lI x0, lI x1, lI x2, lI x3, lI x4, lI x5, lV vI5, lI x6, lI x7, lI x8, lI x9, lI x10, lR b20_0, lV vI3, lU, lU]) rfl ?_
      simp only [if_pos hd] at kk
      exact kk
    · show SG p e below T20 (mkF m 118 #[lI x0, lI x1, lI x2, lI x3, lI x4, lI x5, lV vI5, lI x6, lI x7, lI x8, lI x9, lI x10, lR b20_0, lI x14, lU, lU] [vI47, (.int x9)]) _
      refine XS.icmpYes X20.here hx rfl (pc0 := 118) (pc' := 124) rfl (hb hby at_118) rfl (feq hd).2 (by decide) (by decide) ?_
      simp only [if_neg hd] at kk
      exact kk
  have dm40 : ∀ t, Steps p.tables e below (T20.setTop (mkF m 140 #[lI x0, lI x1, lI x2, lI x3, lI x4, lI x5, lV vI5, lI x6, lI x7, lI x8, lI x9, lI x10, lR b20_0, .val (.int (if x10 = (47 : Int32) then (4 : Int32) else x15)), lU, lU] [])) t → Steps p.tables e below (T20.setTop (mkF m 134 #[lI x0, lI x1, lI x2, lI x3, lI x4, lI x5, lV vI5, lI x6, lI x7, lI x8, lI x9, lI x10, lR b20_0, lI x15, lU, lU] [vI47, (.int x10)])) t := by
    intro t kk
    by_cases hd : x10 = (47 : Int32)
    · show SG p e below T20 (mkF m 134 #[lI x0, lI x1, lI x2, lI x3, lI x4, lI x5, lV vI5, lI x6, lI x7, lI x8, lI x9, lI x10, lR b20_0, lI x15, lU, lU] [vI47, (.int x10)]) _
      refine XS.icmpNo X20.here hx rfl (hb hby at_134) rfl (teq hd).2 ?_
      refine qc X20 hx hby at_137 ?_
      refine XS.istore X20.here hx rfl (hb hby at_138) rfl (l' := #[lI x0, lI x1, lI x2, lI x3, lI x4, lI x5, lV vI5, lI x6, lI x7, lI x8, lI x9, lI x10, lR b20_0, lV vI4, lU, lU]) rfl ?_
      simp only [if_pos hd] at kk
      exact kk
    · show SG p e below T20 (mkF m 134 #[lI x0, lI x1, lI x2, lI x3, lI x4, lI x5, lV vI5, lI x6, lI x7, lI x8, lI x9, lI x10, lR b20_0, lI x15, lU, lU] [vI47, (.int x10)]) _
      refine XS.icmpYes X20.here hx rfl (pc0 := 134) (pc' := 140) rfl (hb hby at_134) rfl (feq hd).2 (by decide) (by decide) ?_
      simp only [if_neg hd] at kk
      exact kk
  have o47 := Old.keep O0 K20 all0
  obtain ⟨_, T48, Lc48, X48, hQ48, st48⟩ := own_cS X20 hx hZ hown rfl (rm6_5 l Z a0 hw [] b20_0 b20_1 (5 : Int32) k20_0 ([(.int ((nar .char x6).toInt8.toInt32)), (.int ((nar .char x7).toInt8.toInt32)), (.int ((nar .char x8).toInt8.toInt32)), (.int ((nar .char x9).toInt8.toInt32)), (.int ((nar .char x10).toInt8.toInt32))]) x11 (0 : Int32) 2 (2 : Int32) ((nar .char x8).toInt8.toInt32) u17 T20.heap n0 o47 f22 f24 f26 f13 hc14 f23 (by decide) (by decide) (by decide) (fun j hj => match j, hj with | 0, _ => ⟨by decide, rfl, by decide, by decide, by decide, by decide, own_atN (n := 3) (by decide) rfl hc42⟩ | 1, _ => ⟨by decide, rfl, by decide, by decide, by decide, by decide, own_atN (n := 4) (by decide) rfl hc43⟩ | z + 2, hz => absurd hz (by omega)) (by decide) (own_gd (n := 2) rfl rfl) (by decide) hc44 (by decide) f45 hc46 (by decide) (by decide) (by decide) (by decide) (by decide) (by decide) (by decide) (by decide) (by decide)) (w 30 rfl) (w 31 rfl) (w 32 rfl) (w 33 rfl) (by decide) (W := 0) (by decide) (by decide) (by decide) (by decide) (g := (mkF m 142 #[lI x0, lI x1, lI x2, lI x3, lI x4, lI x5, lV vI5, lI x6, lI x7, lI x8, lI x9, lI x10, lR b20_0, lI x16, lU, lU] [(.ref b20_0)])) rfl (by rw [hml]; rfl) (argsL := [(.ref b20_0)]) (rest := []) (lenOf pd__Ljava_lang_String__Ljava_lang_String_ rfl) rfl (own_W rfl) (hb hby at_142)
  obtain ⟨b48_0, b48_1, k48_0, rfl, N48q, K48, f49, f50, f51, f52, f53, f54, f55, f56⟩ := hQ48
  have N48 := Fr.app N20 N48q
  have R57 := CHr.trans R29 (CHr.keep K48 sf0 R29.1)
  have sf58 : Safe Z consts_1 s.vm T20.heap b48_0 := Safe.new f49
  have sf59 : Safe Z consts_1 s.vm T20.heap b48_1 := Safe.new f53
  have o61 := Old.keep o47 K48 all0
  obtain ⟨_, T62, Lc62, X62, hQ62, st62⟩ := own_cS X48 hx hZ hown rfl (rm2_3 l Z a0 hw [] x6 x7 x8 x9 x10 x11 T48.heap n0 o61 f13 hc14 hc15 hc16) (w 5 rfl) (w 6 rfl) (w 3 rfl) (w 7 rfl) (by decide) (W := 0) (by decide) (by decide) (by decide) (by decide) (g := (mkF m 175 #[lI x0, lI x1, lI x2, lI x3, lI x4, lI x5, lV vI5, lI x6, lI x7, lI x8, lI x9, lI x10, lR b20_0, lV vI2, lR b48_0, lU] [(.int x10), (.int x9), (.int x8), (.int x7), (.int x6), vI2])) rfl (by rw [hml]; rfl) (argsL := [vI2, (.int x6), (.int x7), (.int x8), (.int x9), (.int x10)]) (rest := []) (lenOf pd__ICCCCC_Ljava_lang_String_ rfl) rfl (own_W rfl) (hb hby at_175)
  obtain ⟨b62_0, b62_1, k62_0, rfl, N62q, K62, f63, f64, f65, f66, f67, f68, f69, f70⟩ := hQ62
  have N62 := Fr.app N48 N62q
  have R71 := CHr.trans R57 (CHr.keep K62 sf0 R57.1)
  have sf72 : Safe Z consts_1 s.vm T48.heap b62_0 := Safe.new f63
  have sf73 : Safe Z consts_1 s.vm T48.heap b62_1 := Safe.new f67
  have f74 := (f52.keep K62 nin0)
  have f75 := (f51.keep K62 nin0)
  have f76 := (f54.keep K62 nin0)
  have f77 := (f50.keep K62)
  have o78 := Old.keep o61 K62 all0
  have f79 := f13.ext o78.2
  obtain ⟨cqq81, kqq81, qq81a, qq81b, qq81c⟩ := isOf hZ rfl f77
  obtain ⟨_, T80, Lc80, X80, hQ80, st80⟩ := own_fin (X62.virtualBack hx (y := mN21) (z := mN21) hown (mvT hZ (w 116 rfl)) (mvT hZ (w 117 rfl)) (notFace_of_selects (args := #[]) (mvT hZ (w 119 rfl))) (mvT hZ (w 119 rfl)) (mvT hZ (w 118 rfl)) (by decide) (own_strEq hZ hw (w 9 rfl) (bs := [((nar .char x6).toInt8.toInt32), ((nar .char x7).toInt8.toInt32)]) f77 f75 f74 (own_trunc (ws := [(.int ((nar .char x6).toInt8.toInt32)), (.int ((nar .char x7).toInt8.toInt32))]) (rest := [(.int ((nar .char x8).toInt8.toInt32)), (.int ((nar .char x9).toInt8.toInt32)), (.int ((nar .char x10).toInt8.toInt32))]) (own_lenK (n := 2) rfl (by decide)) f76) (own_ofLen (n := 2) (by decide) rfl) (Nat.le_of_ble_eq_true rfl) (ds := [((nar .char x6).toInt8.toInt32), ((nar .char x7).toInt8.toInt32)]) f64 f66 f65 f68 (own_ofLen (n := 2) (by decide) rfl) (Nat.le_of_ble_eq_true rfl) f79 hc14 (r := 1) (n0 := n0) (Or.inl ⟨rfl, rfl⟩) (by decide) (by decide : 0 + 28 ≤ _)) qq81a qq81c (g := (mkF m 189 #[lI x0, lI x1, lI x2, lI x3, lI x4, lI x5, lV vI5, lI x6, lI x7, lI x8, lI x9, lI x10, lR b20_0, lV vI2, lR b48_0, lR b62_0] [(.ref b62_0), (.ref b48_0)])) rfl (by rw [hml]; rfl) (Steps.refl _) (argsL := [(.ref b62_0)]) (rest := []) (lenOf pd__Ljava_lang_Object__Z rfl) rfl (own_W rfl) (hb hby at_189) (fun _ _ => ⟨rfl, rfl, (by decide : 8 + 0 ≤ _), (by decide : 34 + 0 ≤ _)⟩))
  obtain ⟨rfl, N80q, E80⟩ := hQ80
  have N80 := Fr.app N62 N80q
  refine ⟨some vI1, _, _, _, _, _, _, _, nofun, X80, by decide, by decide, hS1, (by rw [E80]; exact (Nat.zero_le _)), hZ, E80, R71, ?_, fun fs hr => ?_⟩
  · rw [E80]; exact ⟨rfl, N80⟩
  · show SG p e below s₁ (mkF m 0 #[lI x0, lI x1, lI x2, lI x3, lI x4, lI x5, lU, lU, lU, lU, lU, lU, lU, lU, lU, lU] []) _
    refine qiN X0 hx hby at_0 ?_
    refine X0.ldcInt hx hown (mvT hZ (w 0 rfl)) (g := (mkF m 1 #[lI x0, lI x1, lI x2, lI x3, lI x4, lI x5, lU, lU, lU, lU, lU, lU, lU, lU, lU, lU] [(.int x0)])) rfl (hb hby at_1) _ ?_
    show SG p e below s₁ (mkF m 3 #[lI x0, lI x1, lI x2, lI x3, lI x4, lI x5, lU, lU, lU, lU, lU, lU, lU, lU, lU, lU] [vI2147483647, (.int x0)]) _
    refine XS.iand X0.here hx rfl (hb hby at_3) rfl ?_
    refine qb X0 hx hby at_4 ?_
    refine iremM (g := (mkF m 6 #[lI x0, lI x1, lI x2, lI x3, lI x4, lI x5, lU, lU, lU, lU, lU, lU, lU, lU, lU, lU] [vI6, (.int (x0 &&& (2147483647 : Int32)))])) X0 hx rfl (hb hby at_6) rfl (by decide : ¬ ((6 : Int32) = (0 : Int32))) ?_
    show SG p e below s₁ (mkF m 7 #[lI x0, lI x1, lI x2, lI x3, lI x4, lI x5, lU, lU, lU, lU, lU, lU, lU, lU, lU, lU] [(.int ((x0 &&& (2147483647 : Int32)) % (6 : Int32)))]) _
    rw [hc2]
    show SG p e below s₁ (mkF m 7 #[lI x0, lI x1, lI x2, lI x3, lI x4, lI x5, lU, lU, lU, lU, lU, lU, lU, lU, lU, lU] [vI5]) _
    refine XS.istore X0.here hx rfl (hb hby at_7) rfl (l' := #[lI x0, lI x1, lI x2, lI x3, lI x4, lI x5, lV vI5, lU, lU, lU, lU, lU, lU, lU, lU, lU]) rfl ?_
    refine qiN X0 hx hby at_9 ?_
    refine st3 _ ?_
    show SG p e below T3 (mkF m 13 #[lI x0, lI x1, lI x2, lI x3, lI x4, lI x5, lV vI5, lU, lU, lU, lU, lU, lU, lU, lU, lU] [(.int (nar .char (if (x1 &&& (1 : Int32)) = (0 : Int32) then ((((x1.toUInt32 >>> ((1 : Int32) &&& 31).toUInt32).toInt32) &&& (255 : Int32)).toUInt32.toUInt16.toUInt32.toInt32) else (47 : Int32))))]) _
    rw [hq4]
    show SG p e below T3 (mkF m 13 #[lI x0, lI x1, lI x2, lI x3, lI x4, lI x5, lV vI5, lU, lU, lU, lU, lU, lU, lU, lU, lU] [(.int x6)]) _
    refine XS.istore X3.here hx rfl (hb hby at_13) rfl (l' := #[lI x0, lI x1, lI x2, lI x3, lI x4, lI x5, lV vI5, lI x6, lU, lU, lU, lU, lU, lU, lU, lU]) rfl ?_
    refine qiN X3 hx hby at_15 ?_
    refine st5 _ ?_
    show SG p e below T5 (mkF m 19 #[lI x0, lI x1, lI x2, lI x3, lI x4, lI x5, lV vI5, lI x6, lU, lU, lU, lU, lU, lU, lU, lU] [(.int (nar .char (if (x2 &&& (1 : Int32)) = (0 : Int32) then ((((x2.toUInt32 >>> ((1 : Int32) &&& 31).toUInt32).toInt32) &&& (255 : Int32)).toUInt32.toUInt16.toUInt32.toInt32) else (47 : Int32))))]) _
    rw [hq6]
    show SG p e below T5 (mkF m 19 #[lI x0, lI x1, lI x2, lI x3, lI x4, lI x5, lV vI5, lI x6, lU, lU, lU, lU, lU, lU, lU, lU] [(.int x7)]) _
    refine XS.istore X5.here hx rfl (hb hby at_19) rfl (l' := #[lI x0, lI x1, lI x2, lI x3, lI x4, lI x5, lV vI5, lI x6, lI x7, lU, lU, lU, lU, lU, lU, lU]) rfl ?_
    refine qiN X5 hx hby at_21 ?_
    refine st7 _ ?_
    show SG p e below T7 (mkF m 25 #[lI x0, lI x1, lI x2, lI x3, lI x4, lI x5, lV vI5, lI x6, lI x7, lU, lU, lU, lU, lU, lU, lU] [(.int (nar .char (if (x3 &&& (1 : Int32)) = (0 : Int32) then ((((x3.toUInt32 >>> ((1 : Int32) &&& 31).toUInt32).toInt32) &&& (255 : Int32)).toUInt32.toUInt16.toUInt32.toInt32) else (47 : Int32))))]) _
    rw [hq8]
    show SG p e below T7 (mkF m 25 #[lI x0, lI x1, lI x2, lI x3, lI x4, lI x5, lV vI5, lI x6, lI x7, lU, lU, lU, lU, lU, lU, lU] [(.int x8)]) _
    refine XS.istore X7.here hx rfl (hb hby at_25) rfl (l' := #[lI x0, lI x1, lI x2, lI x3, lI x4, lI x5, lV vI5, lI x6, lI x7, lI x8, lU, lU, lU, lU, lU, lU]) rfl ?_
    refine qi X7 hx hby at_27 ?_
    refine st9 _ ?_
    show SG p e below T9 (mkF m 32 #[lI x0, lI x1, lI x2, lI x3, lI x4, lI x5, lV vI5, lI x6, lI x7, lI x8, lU, lU, lU, lU, lU, lU] [(.int (nar .char (if (x4 &&& (1 : Int32)) = (0 : Int32) then ((((x4.toUInt32 >>> ((1 : Int32) &&& 31).toUInt32).toInt32) &&& (255 : Int32)).toUInt32.toUInt16.toUInt32.toInt32) else (47 : Int32))))]) _
    rw [hq10]
    show SG p e below T9 (mkF m 32 #[lI x0, lI x1, lI x2, lI x3, lI x4, lI x5, lV vI5, lI x6, lI x7, lI x8, lU, lU, lU, lU, lU, lU] [(.int x9)]) _
    refine XS.istore X9.here hx rfl (hb hby at_32) rfl (l' := #[lI x0, lI x1, lI x2, lI x3, lI x4, lI x5, lV vI5, lI x6, lI x7, lI x8, lI x9, lU, lU, lU, lU, lU]) rfl ?_
    refine qi X9 hx hby at_34 ?_
    refine st11 _ ?_
    show SG p e below T11 (mkF m 39 #[lI x0, lI x1, lI x2, lI x3, lI x4, lI x5, lV vI5, lI x6, lI x7, lI x8, lI x9, lU, lU, lU, lU, lU] [(.int (nar .char (if (x5 &&& (1 : Int32)) = (0 : Int32) then ((((x5.toUInt32 >>> ((1 : Int32) &&& 31).toUInt32).toInt32) &&& (255 : Int32)).toUInt32.toUInt16.toUInt32.toInt32) else (47 : Int32))))]) _
    rw [hq12]
    show SG p e below T11 (mkF m 39 #[lI x0, lI x1, lI x2, lI x3, lI x4, lI x5, lV vI5, lI x6, lI x7, lI x8, lI x9, lU, lU, lU, lU, lU] [(.int x10)]) _
    refine XS.istore X11.here hx rfl (hb hby at_39) rfl (l' := #[lI x0, lI x1, lI x2, lI x3, lI x4, lI x5, lV vI5, lI x6, lI x7, lI x8, lI x9, lI x10, lU, lU, lU, lU]) rfl ?_
    refine qi X11 hx hby at_41 ?_
    refine qi X11 hx hby at_43 ?_
    refine qi X11 hx hby at_45 ?_
    refine qi X11 hx hby at_47 ?_
    refine qi X11 hx hby at_49 ?_
    refine qi X11 hx hby at_51 ?_
    refine st20 _ ?_
    show SG p e below T20 (mkF m 56 #[lI x0, lI x1, lI x2, lI x3, lI x4, lI x5, lV vI5, lI x6, lI x7, lI x8, lI x9, lI x10, lU, lU, lU, lU] [(.ref b20_0)]) _
    refine XS.astore X20.here hx rfl (hb hby at_56) rfl rfl (l' := #[lI x0, lI x1, lI x2, lI x3, lI x4, lI x5, lV vI5, lI x6, lI x7, lI x8, lI x9, lI x10, lR b20_0, lU, lU, lU]) rfl ?_
    refine qc X20 hx hby at_58 ?_
    refine XS.istore X20.here hx rfl (hb hby at_59) rfl (l' := #[lI x0, lI x1, lI x2, lI x3, lI x4, lI x5, lV vI5, lI x6, lI x7, lI x8, lI x9, lI x10, lR b20_0, .val (.int (-1 : Int32)), lU, lU]) rfl ?_
    refine qi X20 hx hby at_61 ?_
    refine XS.ifNo X20.here hx rfl (hb hby at_63) rfl ((if0 _ _).trans (tlt (by decide : (0 : Int32) < (5 : Int32))).2.2.2) ?_
    refine qi X20 hx hby at_66 ?_
    refine qb X20 hx hby at_68 ?_
    show SG p e below T20 (mkF m 70 #[lI x0, lI x1, lI x2, lI x3, lI x4, lI x5, lV vI5, lI x6, lI x7, lI x8, lI x9, lI x10, lR b20_0, .val (.int (-1 : Int32)), lU, lU] [vI47, (.int x6)]) _
    refine dm32 _ ?_
    show SG p e below T20 (mkF m 76 #[lI x0, lI x1, lI x2, lI x3, lI x4, lI x5, lV vI5, lI x6, lI x7, lI x8, lI x9, lI x10, lR b20_0, .val (.int (if x6 = (47 : Int32) then (0 : Int32) else (-1 : Int32))), lU, lU] []) _
    rw [hq33]
    show SG p e below T20 (mkF m 76 #[lI x0, lI x1, lI x2, lI x3, lI x4, lI x5, lV vI5, lI x6, lI x7, lI x8, lI x9, lI x10, lR b20_0, lI x12, lU, lU] []) _
    refine qi X20 hx hby at_76 ?_
    refine qc X20 hx hby at_78 ?_
    refine XS.icmpNo X20.here hx rfl (hb hby at_79) rfl (tlt (by decide : (1 : Int32) < (5 : Int32))).2.2.2 ?_
    refine qi X20 hx hby at_82 ?_
    refine qb X20 hx hby at_84 ?_
    show SG p e below T20 (mkF m 86 #[lI x0, lI x1, lI x2, lI x3, lI x4, lI x5, lV vI5, lI x6, lI x7, lI x8, lI x9, lI x10, lR b20_0, lI x12, lU, lU] [vI47, (.int x7)]) _
    refine dm34 _ ?_
    show SG p e below T20 (mkF m 92 #[lI x0, lI x1, lI x2, lI x3, lI x4, lI x5, lV vI5, lI x6, lI x7, lI x8, lI x9, lI x10, lR b20_0, .val (.int (if x7 = (47 : Int32) then (1 : Int32) else x12)), lU, lU] []) _
    rw [hq35]
    show SG p e below T20 (mkF m 92 #[lI x0, lI x1, lI x2, lI x3, lI x4, lI x5, lV vI5, lI x6, lI x7, lI x8, lI x9, lI x10, lR b20_0, lI x13, lU, lU] []) _
    refine qi X20 hx hby at_92 ?_
    refine qc X20 hx hby at_94 ?_
    refine XS.icmpNo X20.here hx rfl (hb hby at_95) rfl (tlt (by decide : (2 : Int32) < (5 : Int32))).2.2.2 ?_
    refine qi X20 hx hby at_98 ?_
    refine qb X20 hx hby at_100 ?_
    show SG p e below T20 (mkF m 102 #[lI x0, lI x1, lI x2, lI x3, lI x4, lI x5, lV vI5, lI x6, lI x7, lI x8, lI x9, lI x10, lR b20_0, lI x13, lU, lU] [vI47, (.int x8)]) _
    refine dm36 _ ?_
    show SG p e below T20 (mkF m 108 #[lI x0, lI x1, lI x2, lI x3, lI x4, lI x5, lV vI5, lI x6, lI x7, lI x8, lI x9, lI x10, lR b20_0, .val (.int (if x8 = (47 : Int32) then (2 : Int32) else x13)), lU, lU] []) _
    rw [hq37]
    show SG p e below T20 (mkF m 108 #[lI x0, lI x1, lI x2, lI x3, lI x4, lI x5, lV vI5, lI x6, lI x7, lI x8, lI x9, lI x10, lR b20_0, lI x14, lU, lU] []) _
    refine qi X20 hx hby at_108 ?_
    refine qc X20 hx hby at_110 ?_
    refine XS.icmpNo X20.here hx rfl (hb hby at_111) rfl (tlt (by decide : (3 : Int32) < (5 : Int32))).2.2.2 ?_
    refine qi X20 hx hby at_114 ?_
    refine qb X20 hx hby at_116 ?_
    show SG p e below T20 (mkF m 118 #[lI x0, lI x1, lI x2, lI x3, lI x4, lI x5, lV vI5, lI x6, lI x7, lI x8, lI x9, lI x10, lR b20_0, lI x14, lU, lU] [vI47, (.int x9)]) _
    refine dm38 _ ?_
    show SG p e below T20 (mkF m 124 #[lI x0, lI x1, lI x2, lI x3, lI x4, lI x5, lV vI5, lI x6, lI x7, lI x8, lI x9, lI x10, lR b20_0, .val (.int (if x9 = (47 : Int32) then (3 : Int32) else x14)), lU, lU] []) _
    rw [hq39]
    show SG p e below T20 (mkF m 124 #[lI x0, lI x1, lI x2, lI x3, lI x4, lI x5, lV vI5, lI x6, lI x7, lI x8, lI x9, lI x10, lR b20_0, lI x15, lU, lU] []) _
    refine qi X20 hx hby at_124 ?_
    refine qc X20 hx hby at_126 ?_
    refine XS.icmpNo X20.here hx rfl (hb hby at_127) rfl (tlt (by decide : (4 : Int32) < (5 : Int32))).2.2.2 ?_
    refine qi X20 hx hby at_130 ?_
    refine qb X20 hx hby at_132 ?_
    show SG p e below T20 (mkF m 134 #[lI x0, lI x1, lI x2, lI x3, lI x4, lI x5, lV vI5, lI x6, lI x7, lI x8, lI x9, lI x10, lR b20_0, lI x15, lU, lU] [vI47, (.int x10)]) _
    refine dm40 _ ?_
    show SG p e below T20 (mkF m 140 #[lI x0, lI x1, lI x2, lI x3, lI x4, lI x5, lV vI5, lI x6, lI x7, lI x8, lI x9, lI x10, lR b20_0, .val (.int (if x10 = (47 : Int32) then (4 : Int32) else x15)), lU, lU] []) _
    rw [hq41]
    show SG p e below T20 (mkF m 140 #[lI x0, lI x1, lI x2, lI x3, lI x4, lI x5, lV vI5, lI x6, lI x7, lI x8, lI x9, lI x10, lR b20_0, lI x16, lU, lU] []) _
    refine qa X20 hx hby at_140 ?_
    refine st48 _ ?_
    show SG p e below T48 (mkF m 145 #[lI x0, lI x1, lI x2, lI x3, lI x4, lI x5, lV vI5, lI x6, lI x7, lI x8, lI x9, lI x10, lR b20_0, lI x16, lU, lU] [(.ref b48_0)]) _
    refine XS.astore X48.here hx rfl (hb hby at_145) rfl rfl (l' := #[lI x0, lI x1, lI x2, lI x3, lI x4, lI x5, lV vI5, lI x6, lI x7, lI x8, lI x9, lI x10, lR b20_0, lI x16, lR b48_0, lU]) rfl ?_
    refine qi X48 hx hby at_147 ?_
    show SG p e below T48 (mkF m 149 #[lI x0, lI x1, lI x2, lI x3, lI x4, lI x5, lV vI5, lI x6, lI x7, lI x8, lI x9, lI x10, lR b20_0, lI x16, lR b48_0, lU] [(.int x16)]) _
    rw [hc60]
    show SG p e below T48 (mkF m 149 #[lI x0, lI x1, lI x2, lI x3, lI x4, lI x5, lV vI5, lI x6, lI x7, lI x8, lI x9, lI x10, lR b20_0, lV vI2, lR b48_0, lU] [vI2]) _
    refine XS.ifYes X48.here hx rfl (pc0 := 149) (pc' := 163) rfl (hb hby at_149) rfl ((if0 _ _).trans (tlt (by decide : (0 : Int32) < (2 : Int32))).2.2.1) (by decide) (by decide) ?_
    show SG p e below T48 (mkF m 163 #[lI x0, lI x1, lI x2, lI x3, lI x4, lI x5, lV vI5, lI x6, lI x7, lI x8, lI x9, lI x10, lR b20_0, lV vI2, lR b48_0, lU] []) _
    refine qi X48 hx hby at_163 ?_
    refine qi X48 hx hby at_165 ?_
    refine qi X48 hx hby at_167 ?_
    refine qi X48 hx hby at_169 ?_
    refine qi X48 hx hby at_171 ?_
    refine qi X48 hx hby at_173 ?_
    refine st62 _ ?_
    show SG p e below T62 (mkF m 178 #[lI x0, lI x1, lI x2, lI x3, lI x4, lI x5, lV vI5, lI x6, lI x7, lI x8, lI x9, lI x10, lR b20_0, lV vI2, lR b48_0, lU] [(.ref b62_0)]) _
    refine XS.astore X62.here hx rfl (hb hby at_178) rfl rfl (l' := #[lI x0, lI x1, lI x2, lI x3, lI x4, lI x5, lV vI5, lI x6, lI x7, lI x8, lI x9, lI x10, lR b20_0, lV vI2, lR b48_0, lR b62_0]) rfl ?_
    refine qa X62 hx hby at_180 ?_
    refine XS.ifnullNo X62.here hx rfl (hb hby at_182) rfl ?_
    refine qa X62 hx hby at_185 ?_
    refine qa X62 hx hby at_187 ?_
    refine st80.trans ?_
    show SG p e below T80 (mkF m 192 #[lI x0, lI x1, lI x2, lI x3, lI x4, lI x5, lV vI5, lI x6, lI x7, lI x8, lI x9, lI x10, lR b20_0, lV vI2, lR b48_0, lR b62_0] [vI1]) _
    refine XS.ifNo X80.here hx rfl (hb hby at_192) rfl ((if0 _ _).trans (feq (by decide : ¬ ((1 : Int32) = (0 : Int32)))).1) ?_
    refine qc X80 hx hby at_195 ?_
    refine XS.goto X80.here hx rfl (pc0 := 196) (pc' := 200) rfl (hb hby at_196) (by decide) (by decide) ?_
    show SG p e below T80 (mkF m 200 #[lI x0, lI x1, lI x2, lI x3, lI x4, lI x5, lV vI5, lI x6, lI x7, lI x8, lI x9, lI x10, lR b20_0, lV vI2, lR b48_0, lR b62_0] [vI1]) _
    exact retN X80 hx (t := .boolean) hret (by simp) (hb hby at_200) hr
def Q0_15 (Z : State) (x0 x1 : Int32) (x2 x3 : Int32) (x4 x5 : Int32) (x6 x7 : Int32) (x8 x9 : Int32) (x10 x11 : Int32) (x12 x13 : Int32) (x14 x15 x16 : Int32) (u17 : Value) (h0 : Heap) (n0 : Nat) (v : Option Value) (h : Heap) (L : List Loc) : Prop := v = some vI1 ∧ Fr n0 L
theorem rm0_15 (l : Launch) (Z : State) (a0 : Array Value) (hw : own_HW a0 Z) (ws : List Jvm.Cond) (x0 x1 : Int32) (x2 x3 : Int32) (x4 x5 : Int32) (x6 x7 : Int32) (x8 x9 : Int32) (x10 x11 : Int32) (x12 x13 : Int32) (x14 x15 x16 : Int32) (u17 : Value) (h0 : Heap) (n0 : Nat) (O0 : Old Z n0 h0) (hc2 : ((x0 &&& (2147483647 : Int32)) % (6 : Int32)) = (5 : Int32)) (hq4 : (nar .char (if (x1 &&& (1 : Int32)) = (0 : Int32) then ((((x1.toUInt32 >>> ((1 : Int32) &&& 31).toUInt32).toInt32) &&& (255 : Int32)).toUInt32.toUInt16.toUInt32.toInt32) else (47 : Int32))) = x6) (hq6 : (nar .char (if (x2 &&& (1 : Int32)) = (0 : Int32) then ((((x2.toUInt32 >>> ((1 : Int32) &&& 31).toUInt32).toInt32) &&& (255 : Int32)).toUInt32.toUInt16.toUInt32.toInt32) else (47 : Int32))) = x7) (hq8 : (nar .char (if (x3 &&& (1 : Int32)) = (0 : Int32) then ((((x3.toUInt32 >>> ((1 : Int32) &&& 31).toUInt32).toInt32) &&& (255 : Int32)).toUInt32.toUInt16.toUInt32.toInt32) else (47 : Int32))) = x8) (hq10 : (nar .char (if (x4 &&& (1 : Int32)) = (0 : Int32) then ((((x4.toUInt32 >>> ((1 : Int32) &&& 31).toUInt32).toInt32) &&& (255 : Int32)).toUInt32.toUInt16.toUInt32.toInt32) else (47 : Int32))) = x9) (hq12 : (nar .char (if (x5 &&& (1 : Int32)) = (0 : Int32) then ((((x5.toUInt32 >>> ((1 : Int32) &&& 31).toUInt32).toInt32) &&& (255 : Int32)).toUInt32.toUInt16.toUInt32.toInt32) else (47 : Int32))) = x10) (f13 : Sta Z Z.heap "java/lang/String" "COMPACT_STRINGS" "Z" (.int x11)) (hc14 : ¬ (x11 = (0 : Int32))) (hc15 : ¬ ((255 : Int32) < (nar .char x6))) (hc16 : ¬ ((255 : Int32) < (nar .char x7))) (hc17 : ¬ ((255 : Int32) < (nar .char x8))) (hc18 : ¬ ((255 : Int32) < (nar .char x9))) (hc19 : ¬ ((255 : Int32) < (nar .char x10))) (hq33 : (if x6 = (47 : Int32) then (0 : Int32) else (-1 : Int32)) = x12) (hq35 : (if x7 = (47 : Int32) then (1 : Int32) else x12) = x13) (hq37 : (if x8 = (47 : Int32) then (2 : Int32) else x13) = x14) (hq39 : (if x9 = (47 : Int32) then (3 : Int32) else x14) = x15) (hq41 : (if x10 = (47 : Int32) then (4 : Int32) else x15) = x16) (hc42 : ¬ (((nar .char x10).toInt8.toInt32) = (47 : Int32))) (hc43 : ((nar .char x9).toInt8.toInt32) = (47 : Int32)) (f44 : Sta Z Z.heap cs4 "SIOOBE_FORMATTER" cs5 u17) (hc45 : u17.isRef = true) (hc59 : x16 = (3 : Int32)) :
    own_MH l x code maxLocals ret ws room_1 Z h0 #[(.int x0), (.int x1), (.int x2), (.int x3), (.int x4), (.int x5)] (Q0_15 Z x0 x1 x2 x3 x4 x5 x6 x7 x8 x9 x10 x11 x12 x13 x14 x15 x16 u17 h0 n0) := by
  have hEL : EW Z a0 consts_1 := own_EW hw
  refine own_openH hEL (plainFor_of_name pn_com_example_nearmiss_nearmiss_ElementParentPathPinLaw) (L0 := #[lI x0, lI x1, lI x2, lI x3, lI x4, lI x5, lU, lU, lU, lU, lU, lU, lU, lU, lU, lU]) (fun _ => by first | (simp [entryFrame, mkF, argsToLocals, Value.category, maxLocals]; done) | rfl) ?_
  intro p e s m below meth c s₁ hx hby hml hret hnn hZ hown X0 e0 R0
  have N0 := Fr.nil n0; have w := @ww Z a0 hw
  have hS1 := (State.WarmedH.refl s).since 0
  obtain ⟨_, T3, Lc3, X3, hQ3, st3⟩ := own_cS X0 hx hZ hown e0 (rm1_1 l Z a0 hw [] x1 h0 n0 O0) (w 1 rfl) (w 2 rfl) (w 3 rfl) (w 4 rfl) (by decide) (W := 0) (by decide) (by decide) (by decide) (by decide) (g := (mkF m 10 #[lI x0, lI x1, lI x2, lI x3, lI x4, lI x5, lV vI5, lU, lU, lU, lU, lU, lU, lU, lU, lU] [(.int x1)])) rfl (by rw [hml]; rfl) (argsL := [(.int x1)]) (rest := []) (lenOf pd__I_C rfl) rfl (own_W rfl) (hb hby at_10)
  obtain ⟨rfl, N3q, E3⟩ := hQ3
  have N3 := Fr.app N0 N3q
  obtain ⟨_, T5, Lc5, X5, hQ5, st5⟩ := own_cS X3 hx hZ hown E3 (rm1_1 l Z a0 hw [] x2 h0 n0 O0) (w 1 rfl) (w 2 rfl) (w 3 rfl) (w 4 rfl) (by decide) (W := 0) (by decide) (by decide) (by decide) (by decide) (g := (mkF m 16 #[lI x0, lI x1, lI x2, lI x3, lI x4, lI x5, lV vI5, lI x6, lU, lU, lU, lU, lU, lU, lU, lU] [(.int x2)])) rfl (by rw [hml]; rfl) (argsL := [(.int x2)]) (rest := []) (lenOf pd__I_C rfl) rfl (own_W rfl) (hb hby at_16)
  obtain ⟨rfl, N5q, E5⟩ := hQ5
  have N5 := Fr.app N3 N5q
  obtain ⟨_, T7, Lc7, X7, hQ7, st7⟩ := own_cS X5 hx hZ hown E5 (rm1_1 l Z a0 hw [] x3 h0 n0 O0) (w 1 rfl) (w 2 rfl) (w 3 rfl) (w 4 rfl) (by decide) (W := 0) (by decide) (by decide) (by decide) (by decide) (g := (mkF m 22 #[lI x0, lI x1, lI x2, lI x3, lI x4, lI x5, lV vI5, lI x6, lI x7, lU, lU, lU, lU, lU, lU, lU] [(.int x3)])) rfl (by rw [hml]; rfl) (argsL := [(.int x3)]) (rest := []) (lenOf pd__I_C rfl) rfl (own_W rfl) (hb hby at_22)
  obtain ⟨rfl, N7q, E7⟩ := hQ7
  have N7 := Fr.app N5 N7q
  obtain ⟨_, T9, Lc9, X9, hQ9, st9⟩ := own_cS X7 hx hZ hown E7 (rm1_1 l Z a0 hw [] x4 h0 n0 O0) (w 1 rfl) (w 2 rfl) (w 3 rfl) (w 4 rfl) (by decide) (W := 0) (by decide) (by decide) (by decide) (by decide) (g := (mkF m 29 #[lI x0, lI x1, lI x2, lI x3, lI x4, lI x5, lV vI5, lI x6, lI x7, lI x8, lU, lU, lU, lU, lU, lU] [(.int x4)])) rfl (by rw [hml]; rfl) (argsL := [(.int x4)]) (rest := []) (lenOf pd__I_C rfl) rfl (own_W rfl) (hb hby at_29)
  obtain ⟨rfl, N9q, E9⟩ := hQ9
  have N9 := Fr.app N7 N9q
  obtain ⟨_, T11, Lc11, X11, hQ11, st11⟩ := own_cS X9 hx hZ hown E9 (rm1_1 l Z a0 hw [] x5 h0 n0 O0) (w 1 rfl) (w 2 rfl) (w 3 rfl) (w 4 rfl) (by decide) (W := 0) (by decide) (by decide) (by decide) (by decide) (g := (mkF m 36 #[lI x0, lI x1, lI x2, lI x3, lI x4, lI x5, lV vI5, lI x6, lI x7, lI x8, lI x9, lU, lU, lU, lU, lU] [(.int x5)])) rfl (by rw [hml]; rfl) (argsL := [(.int x5)]) (rest := []) (lenOf pd__I_C rfl) rfl (own_W rfl) (hb hby at_36)
  obtain ⟨rfl, N11q, E11⟩ := hQ11
  have N11 := Fr.app N9 N11q
  obtain ⟨_, T20, Lc20, X20, hQ20, st20⟩ := own_cS X11 hx hZ hown E11 (rm2_6 l Z a0 hw [] x6 x7 x8 x9 x10 x11 h0 n0 O0 f13 hc14 hc15 hc16 hc17 hc18 hc19) (w 5 rfl) (w 6 rfl) (w 3 rfl) (w 7 rfl) (by decide) (W := 0) (by decide) (by decide) (by decide) (by decide) (g := (mkF m 53 #[lI x0, lI x1, lI x2, lI x3, lI x4, lI x5, lV vI5, lI x6, lI x7, lI x8, lI x9, lI x10, lU, lU, lU, lU] [(.int x10), (.int x9), (.int x8), (.int x7), (.int x6), vI5])) rfl (by rw [hml]; rfl) (argsL := [vI5, (.int x6), (.int x7), (.int x8), (.int x9), (.int x10)]) (rest := []) (lenOf pd__ICCCCC_Ljava_lang_String_ rfl) rfl (own_W rfl) (hb hby at_53)
  obtain ⟨b20_0, b20_1, k20_0, rfl, N20q, K20, f21, f22, f23, f24, f25, f26, f27, f28⟩ := hQ20
  have N20 := Fr.app N11 N20q
  have R29 := CHr.trans R0 (CHr.keep K20 sf0 R0.1)
  have sf30 : Safe Z consts_1 s.vm h0 b20_0 := Safe.new f21
  have sf31 : Safe Z consts_1 s.vm h0 b20_1 := Safe.new f25
  have dm32 : ∀ t, Steps p.tables e below (T20.setTop (mkF m 76 #[lI x0, lI x1, lI x2, lI x3, lI x4, lI x5, lV vI5, lI x6, lI x7, lI x8, lI x9, lI x10, lR b20_0, .val (.int (if x6 = (47 : Int32) then (0 : Int32) else (-1 : Int32))), lU, lU] [])) t → Steps p.tables e below (T20.setTop (mkF m 70 #[lI x0, lI x1, lI x2, lI x3, lI x4, lI x5, lV vI5, lI x6, lI x7, lI x8, lI x9, lI x10, lR b20_0, .val (.int (-1 : Int32)), lU, lU] [vI47, (.int x6)])) t := by
    intro t kk
    by_cases hd : x6 = (47 : Int32)
    · show SG p e below T20 (mkF m 70 #[lI x0, lI x1, lI x2, lI x3, lI x4, lI x5, lV vI5, lI x6, lI x7, lI x8, lI x9, lI x10, lR b20_0, .val (.int (-1 : Int32)), lU, lU] [vI47, (.int x6)]) _
      refine XS.icmpNo X20.here hx rfl (hb hby at_70) rfl (teq hd).2 ?_
      refine qc X20 hx hby at_73 ?_
      refine XS.istore X20.here hx rfl (hb hby at_74) rfl (l' := #[lI x0, lI x1, lI x2, lI x3, lI x4, lI x5, lV vI5, lI x6, lI x7, lI x8, lI x9, lI x10, lR b20_0, lV vI0, lU, lU]) rfl ?_
      simp only [if_pos hd] at kk
      exact kk
    · show SG p e below T20 (mkF m 70 #[lI x0, lI x1, lI x2, lI x3, lI x4, lI x5, lV vI5, lI x6, lI x7, lI x8, lI x9, lI x10, lR b20_0, .val (.int (-1 : Int32)), lU, lU] [vI47, (.int x6)]) _
      refine XS.icmpYes X20.here hx rfl (pc0 := 70) (pc' := 76) rfl (hb hby at_70) rfl (feq hd).2 (by decide) (by decide) ?_
      simp only [if_neg hd] at kk
      exact kk
  have dm34 : ∀ t, Steps p.tables e below (T20.setTop (mkF m 92 #[lI x0, lI x1, lI x2, lI x3, lI x4, lI x5, lV vI5, lI x6, lI x7, lI x8, lI x9, lI x10, lR b20_0, .val (.int (if x7 = (47 : Int32) then (1 : Int32) else x12)), lU, lU] [])) t → Steps p.tables e below (T20.setTop (mkF m 86 #[lI x0, lI x1, lI x2, lI x3, lI x4, lI x5, lV vI5, lI x6, lI x7, lI x8, lI x9, lI x10, lR b20_0, lI x12, lU, lU] [vI47, (.int x7)])) t := by
    intro t kk
    by_cases hd : x7 = (47 : Int32)
    · show SG p e below T20 (mkF m 86 #[lI x0, lI x1, lI x2, lI x3, lI x4, lI x5, lV vI5, lI x6, lI x7, lI x8, lI x9, lI x10, lR b20_0, lI x12, lU, lU] [vI47, (.int x7)]) _
      refine XS.icmpNo X20.here hx rfl (hb hby at_86) rfl (teq hd).2 ?_
      refine qc X20 hx hby at_89 ?_
      refine XS.istore X20.here hx rfl (hb hby at_90) rfl (l' := #[lI x0, lI x1, lI x2, lI x3, lI x4, lI x5, lV vI5, lI x6, lI x7, lI x8, lI x9, lI x10, lR b20_0, lV vI1, lU, lU]) rfl ?_
      simp only [if_pos hd] at kk
      exact kk
    · show SG p e below T20 (mkF m 86 #[lI x0, lI x1, lI x2, lI x3, lI x4, lI x5, lV vI5, lI x6, lI x7, lI x8, lI x9, lI x10, lR b20_0, lI x12, lU, lU] [vI47, (.int x7)]) _
      refine XS.icmpYes X20.here hx rfl (pc0 := 86) (pc' := 92) rfl (hb hby at_86) rfl (feq hd).2 (by decide) (by decide) ?_
      simp only [if_neg hd] at kk
      exact kk
  have dm36 : ∀ t, Steps p.tables e below (T20.setTop (mkF m 108 #[lI x0, lI x1, lI x2, lI x3, lI x4, lI x5, lV vI5, lI x6, lI x7, lI x8, lI x9, lI x10, lR b20_0, .val (.int (if x8 = (47 : Int32) then (2 : Int32) else x13)), lU, lU] [])) t → Steps p.tables e below (T20.setTop (mkF m 102 #[lI x0, lI x1, lI x2, lI x3, lI x4, lI x5, lV vI5, lI x6, lI x7, lI x8, lI x9, lI x10, lR b20_0, lI x13, lU, lU] [vI47, (.int x8)])) t := by
    intro t kk
    by_cases hd : x8 = (47 : Int32)
    · show SG p e below T20 (mkF m 102 #[lI x0, lI x1, lI x2, lI x3, lI x4, lI x5, lV vI5, lI x6, lI x7, lI x8, lI x9, lI x10, lR b20_0, lI x13, lU, lU] [vI47, (.int x8)]) _
      refine XS.icmpNo X20.here hx rfl (hb hby at_102) rfl (teq hd).2 ?_
      refine qc X20 hx hby at_105 ?_
      refine XS.istore X20.here hx rfl (hb hby at_106) rfl (l' := #[lI x0, lI x1, lI x2, lI x3, lI x4, lI x5, lV vI5, lI x6, lI x7, lI x8, lI x9, lI x10, lR b20_0, lV vI2, lU, lU]) rfl ?_
      simp only [if_pos hd] at kk
      exact kk
    · show SG p e below T20 (mkF m 102 #[lI x0, lI x1, lI x2, lI x3, lI x4, lI x5, lV vI5, lI x6, lI x7, lI x8, lI x9, lI x10, lR b20_0, lI x13, lU, lU] [vI47, (.int x8)]) _
      refine XS.icmpYes X20.here hx rfl (pc0 := 102) (pc' := 108) rfl (hb hby at_102) rfl (feq hd).2 (by decide) (by decide) ?_
      simp only [if_neg hd] at kk
      exact kk
  have dm38 : ∀ t, Steps p.tables e below (T20.setTop (mkF m 124 #[lI x0, lI x1, lI x2, lI x3, lI x4, lI x5, lV vI5, lI x6, lI x7, lI x8, lI x9, lI x10, lR b20_0, .val (.int (if x9 = (47 : Int32) then (3 : Int32) else x14)), lU, lU] [])) t → Steps p.tables e below (T20.setTop (mkF m 118 #[lI x0, lI x1, lI x2, lI x3, lI x4, lI x5, lV vI5, lI x6, lI x7, lI x8, lI x9, lI x10, lR b20_0, lI x14, lU, lU] [vI47, (.int x9)])) t := by
    intro t kk
    by_cases hd : x9 = (47 : Int32)
    · show SG p e below T20 (mkF m 118 #[lI x0, lI x1, lI x2, lI x3, lI x4, lI x5, lV vI5, lI x6, lI x7, lI x8, lI x9, lI x10, lR b20_0, lI x14, lU, lU] [vI47, (.int x9)]) _
      refine XS.icmpNo X20.here hx rfl (hb hby at_118) rfl (teq hd).2 ?_
      refine qc X20 hx hby at_121 ?_
      refine XS.istore X20.here hx rfl (hb hby at_122) rfl (l' := #[lI x0, lI x1, lI x2, lI x3, lI x4, lI x5, lV vI5, lI x6, lI x7, lI x8, lI x9, lI x10, lR b20_0, lV vI3, lU, lU]) rfl ?_
      simp only [if_pos hd] at kk
      exact kk
    · show SG p e below T20 (mkF m 118 #[lI x0, lI x1, lI x2, lI x3, lI x4, lI x5, lV vI5, lI x6, lI x7, lI x8, lI x9, lI x10, lR b20_0, lI x14, lU, lU] [vI47, (.int x9)]) _
      refine XS.icmpYes X20.here hx rfl (pc0 := 118) (pc' := 124) rfl (hb hby at_118) rfl (feq hd).2 (by decide) (by decide) ?_
      simp only [if_neg hd] at kk
      exact kk
  have dm40 : ∀ t, Steps p.tables e below (T20.setTop (mkF m 140 #[lI x0, lI x1, lI x2, lI x3, lI x4, lI x5, lV vI5, lI x6, lI x7, lI x8, lI x9, lI x10, lR b20_0, .val (.int (if x10 = (47 : Int32) then (4 : Int32) else x15)), lU, lU] [])) t → Steps p.tables e below (T20.setTop (mkF m 134 #[lI x0, lI x1, lI x2, lI x3, lI x4, lI x5, lV vI5, lI x6, lI x7, lI x8, lI x9, lI x10, lR b20_0, lI x15, lU, lU] [vI47, (.int x10)])) t := by
    intro t kk
    by_cases hd : x10 = (47 : Int32)
    · show SG p e below T20 (mkF m 134 #[lI x0, lI x1, lI x2, lI x3, lI x4, lI x5, lV vI5, lI x6, lI x7, lI x8, lI x9, lI x10, lR b20_0, lI x15, lU, lU] [vI47, (.int x10)]) _
      refine XS.icmpNo X20.here hx rfl (hb hby at_134) rfl (teq hd).2 ?_
      refine qc X20 hx hby at_137 ?_
      refine XS.istore X20.here hx rfl (hb hby at_138) rfl (l' := #[lI x0, lI x1, lI x2, lI x3, lI x4, lI x5, lV vI5, lI x6, lI x7, lI x8, lI x9, lI x10, lR b20_0, lV vI4, lU, lU]) rfl ?_
      simp only [if_pos hd] at kk
      exact kk
    · show SG p e below T20 (mkF m 134 #[lI x0, lI x1, lI x2, lI x3, lI x4, lI x5, lV vI5, lI x6, lI x7, lI x8, lI x9, lI x10, lR b20_0, lI x15, lU, lU] [vI47, (.int x10)]) _
      refine XS.icmpYes X20.here hx rfl (pc0 := 134) (pc' := 140) rfl (hb hby at_134) rfl (feq hd).2 (by decide) (by decide) ?_
      simp only [if_neg hd] at kk
      exact kk
  have o46 := Old.keep O0 K20 all0
  obtain ⟨_, T47, Lc47, X47, hQ47, st47⟩ := own_cS X20 hx hZ hown rfl (rm6_5 l Z a0 hw [] b20_0 b20_1 (5 : Int32) k20_0 ([(.int ((nar .char x6).toInt8.toInt32)), (.int ((nar .char x7).toInt8.toInt32)), (.int ((nar .char x8).toInt8.toInt32)), (.int ((nar .char x9).toInt8.toInt32)), (.int ((nar .char x10).toInt8.toInt32))]) x11 (0 : Int32) 1 (3 : Int32) ((nar .char x9).toInt8.toInt32) u17 T20.heap n0 o46 f22 f24 f26 f13 hc14 f23 (by decide) (by decide) (by decide) (fun j hj => match j, hj with | 0, _ => ⟨by decide, rfl, by decide, by decide, by decide, by decide, own_atN (n := 4) (by decide) rfl hc42⟩ | z + 1, hz => absurd hz (by omega)) (by decide) (own_gd (n := 3) rfl rfl) (by decide) hc43 (by decide) f44 hc45 (by decide) (by decide) (by decide) (by decide) (by decide) (by decide) (by decide) (by decide) (by decide)) (w 30 rfl) (w 31 rfl) (w 32 rfl) (w 33 rfl) (by decide) (W := 0) (by decide) (by decide) (by decide) (by decide) (g := (mkF m 142 #[lI x0, lI x1, lI x2, lI x3, lI x4, lI x5, lV vI5, lI x6, lI x7, lI x8, lI x9, lI x10, lR b20_0, lI x16, lU, lU] [(.ref b20_0)])) rfl (by rw [hml]; rfl) (argsL := [(.ref b20_0)]) (rest := []) (lenOf pd__Ljava_lang_String__Ljava_lang_String_ rfl) rfl (own_W rfl) (hb hby at_142)
  obtain ⟨b47_0, b47_1, k47_0, rfl, N47q, K47, f48, f49, f50, f51, f52, f53, f54, f55⟩ := hQ47
  have N47 := Fr.app N20 N47q
  have R56 := CHr.trans R29 (CHr.keep K47 sf0 R29.1)
  have sf57 : Safe Z consts_1 s.vm T20.heap b47_0 := Safe.new f48
  have sf58 : Safe Z consts_1 s.vm T20.heap b47_1 := Safe.new f52
  have o60 := Old.keep o46 K47 all0
  obtain ⟨_, T61, Lc61, X61, hQ61, st61⟩ := own_cS X47 hx hZ hown rfl (rm2_4 l Z a0 hw [] x6 x7 x8 x9 x10 x11 T47.heap n0 o60 f13 hc14 hc15 hc16 hc17) (w 5 rfl) (w 6 rfl) (w 3 rfl) (w 7 rfl) (by decide) (W := 0) (by decide) (by decide) (by decide) (by decide) (g := (mkF m 175 #[lI x0, lI x1, lI x2, lI x3, lI x4, lI x5, lV vI5, lI x6, lI x7, lI x8, lI x9, lI x10, lR b20_0, lV vI3, lR b47_0, lU] [(.int x10), (.int x9), (.int x8), (.int x7), (.int x6), vI3])) rfl (by rw [hml]; rfl) (argsL := [vI3, (.int x6), (.int x7), (.int x8), (.int x9), (.int x10)]) (rest := []) (lenOf pd__ICCCCC_Ljava_lang_String_ rfl) rfl (own_W rfl) (hb hby at_175)
  obtain ⟨b61_0, b61_1, k61_0, rfl, N61q, K61, f62, f63, f64, f65, f66, f67, f68, f69⟩ := hQ61
  have N61 := Fr.app N47 N61q
  have R70 := CHr.trans R56 (CHr.keep K61 sf0 R56.1)
  have sf71 : Safe Z consts_1 s.vm T47.heap b61_0 := Safe.new f62
  have sf72 : Safe Z consts_1 s.vm T47.heap b61_1 := Safe.new f66
  have f73 := (f51.keep K61 nin0)
  have f74 := (f50.keep K61 nin0)
  have f75 := (f53.keep K61 nin0)
  have f76 := (f49.keep K61)
  have o77 := Old.keep o60 K61 all0
  have f78 := f13.ext o77.2
  obtain ⟨cqq80, kqq80, qq80a, qq80b, qq80c⟩ := isOf hZ rfl f76
  obtain ⟨_, T79, Lc79, X79, hQ79, st79⟩ := own_fin (X61.virtualBack hx (y := mN21) (z := mN21) hown (mvT hZ (w 116 rfl)) (mvT hZ (w 117 rfl)) (notFace_of_selects (args := #[]) (mvT hZ (w 119 rfl))) (mvT hZ (w 119 rfl)) (mvT hZ (w 118 rfl)) (by decide) (own_strEq hZ hw (w 9 rfl) (bs := [((nar .char x6).toInt8.toInt32), ((nar .char x7).toInt8.toInt32), ((nar .char x8).toInt8.toInt32)]) f76 f74 f73 (own_trunc (ws := [(.int ((nar .char x6).toInt8.toInt32)), (.int ((nar .char x7).toInt8.toInt32)), (.int ((nar .char x8).toInt8.toInt32))]) (rest := [(.int ((nar .char x9).toInt8.toInt32)), (.int ((nar .char x10).toInt8.toInt32))]) (own_lenK (n := 3) rfl (by decide)) f75) (own_ofLen (n := 3) (by decide) rfl) (Nat.le_of_ble_eq_true rfl) (ds := [((nar .char x6).toInt8.toInt32), ((nar .char x7).toInt8.toInt32), ((nar .char x8).toInt8.toInt32)]) f63 f65 f64 f67 (own_ofLen (n := 3) (by decide) rfl) (Nat.le_of_ble_eq_true rfl) f78 hc14 (r := 1) (n0 := n0) (Or.inl ⟨rfl, rfl⟩) (by decide) (by decide : 0 + 28 ≤ _)) qq80a qq80c (g := (mkF m 189 #[lI x0, lI x1, lI x2, lI x3, lI x4, lI x5, lV vI5, lI x6, lI x7, lI x8, lI x9, lI x10, lR b20_0, lV vI3, lR b47_0, lR b61_0] [(.ref b61_0), (.ref b47_0)])) rfl (by rw [hml]; rfl) (Steps.refl _) (argsL := [(.ref b61_0)]) (rest := []) (lenOf pd__Ljava_lang_Object__Z rfl) rfl (own_W rfl) (hb hby at_189) (fun _ _ => ⟨rfl, rfl, (by decide : 8 + 0 ≤ _), (by decide : 36 + 0 ≤ _)⟩))
  obtain ⟨rfl, N79q, E79⟩ := hQ79
  have N79 := Fr.app N61 N79q
  refine ⟨some vI1, _, _, _, _, _, _, _, nofun, X79, by decide, by decide, hS1, (by rw [E79]; exact (Nat.zero_le _)), hZ, E79, R70, ?_, fun fs hr => ?_⟩
  · rw [E79]; exact ⟨rfl, N79⟩
  · show SG p e below s₁ (mkF m 0 #[lI x0, lI x1, lI x2, lI x3, lI x4, lI x5, lU, lU, lU, lU, lU, lU, lU, lU, lU, lU] []) _
    refine qiN X0 hx hby at_0 ?_
    refine X0.ldcInt hx hown (mvT hZ (w 0 rfl)) (g := (mkF m 1 #[lI x0, lI x1, lI x2, lI x3, lI x4, lI x5, lU, lU, lU, lU, lU, lU, lU, lU, lU, lU] [(.int x0)])) rfl (hb hby at_1) _ ?_
    show SG p e below s₁ (mkF m 3 #[lI x0, lI x1, lI x2, lI x3, lI x4, lI x5, lU, lU, lU, lU, lU, lU, lU, lU, lU, lU] [vI2147483647, (.int x0)]) _
    refine XS.iand X0.here hx rfl (hb hby at_3) rfl ?_
    refine qb X0 hx hby at_4 ?_
    refine iremM (g := (mkF m 6 #[lI x0, lI x1, lI x2, lI x3, lI x4, lI x5, lU, lU, lU, lU, lU, lU, lU, lU, lU, lU] [vI6, (.int (x0 &&& (2147483647 : Int32)))])) X0 hx rfl (hb hby at_6) rfl (by decide : ¬ ((6 : Int32) = (0 : Int32))) ?_
    show SG p e below s₁ (mkF m 7 #[lI x0, lI x1, lI x2, lI x3, lI x4, lI x5, lU, lU, lU, lU, lU, lU, lU, lU, lU, lU] [(.int ((x0 &&& (2147483647 : Int32)) % (6 : Int32)))]) _
    rw [hc2]
    show SG p e below s₁ (mkF m 7 #[lI x0, lI x1, lI x2, lI x3, lI x4, lI x5, lU, lU, lU, lU, lU, lU, lU, lU, lU, lU] [vI5]) _
    refine XS.istore X0.here hx rfl (hb hby at_7) rfl (l' := #[lI x0, lI x1, lI x2, lI x3, lI x4, lI x5, lV vI5, lU, lU, lU, lU, lU, lU, lU, lU, lU]) rfl ?_
    refine qiN X0 hx hby at_9 ?_
    refine st3 _ ?_
    show SG p e below T3 (mkF m 13 #[lI x0, lI x1, lI x2, lI x3, lI x4, lI x5, lV vI5, lU, lU, lU, lU, lU, lU, lU, lU, lU] [(.int (nar .char (if (x1 &&& (1 : Int32)) = (0 : Int32) then ((((x1.toUInt32 >>> ((1 : Int32) &&& 31).toUInt32).toInt32) &&& (255 : Int32)).toUInt32.toUInt16.toUInt32.toInt32) else (47 : Int32))))]) _
    rw [hq4]
    show SG p e below T3 (mkF m 13 #[lI x0, lI x1, lI x2, lI x3, lI x4, lI x5, lV vI5, lU, lU, lU, lU, lU, lU, lU, lU, lU] [(.int x6)]) _
    refine XS.istore X3.here hx rfl (hb hby at_13) rfl (l' := #[lI x0, lI x1, lI x2, lI x3, lI x4, lI x5, lV vI5, lI x6, lU, lU, lU, lU, lU, lU, lU, lU]) rfl ?_
    refine qiN X3 hx hby at_15 ?_
    refine st5 _ ?_
    show SG p e below T5 (mkF m 19 #[lI x0, lI x1, lI x2, lI x3, lI x4, lI x5, lV vI5, lI x6, lU, lU, lU, lU, lU, lU, lU, lU] [(.int (nar .char (if (x2 &&& (1 : Int32)) = (0 : Int32) then ((((x2.toUInt32 >>> ((1 : Int32) &&& 31).toUInt32).toInt32) &&& (255 : Int32)).toUInt32.toUInt16.toUInt32.toInt32) else (47 : Int32))))]) _
    rw [hq6]
    show SG p e below T5 (mkF m 19 #[lI x0, lI x1, lI x2, lI x3, lI x4, lI x5, lV vI5, lI x6, lU, lU, lU, lU, lU, lU, lU, lU] [(.int x7)]) _
    refine XS.istore X5.here hx rfl (hb hby at_19) rfl (l' := #[lI x0, lI x1, lI x2, lI x3, lI x4, lI x5, lV vI5, lI x6, lI x7, lU, lU, lU, lU, lU, lU, lU]) rfl ?_
    refine qiN X5 hx hby at_21 ?_
    refine st7 _ ?_
    show SG p e below T7 (mkF m 25 #[lI x0, lI x1, lI x2, lI x3, lI x4, lI x5, lV vI5, lI x6, lI x7, lU, lU, lU, lU, lU, lU, lU] [(.int (nar .char (if (x3 &&& (1 : Int32)) = (0 : Int32) then ((((x3.toUInt32 >>> ((1 : Int32) &&& 31).toUInt32).toInt32) &&& (255 : Int32)).toUInt32.toUInt16.toUInt32.toInt32) else (47 : Int32))))]) _
    rw [hq8]
    show SG p e below T7 (mkF m 25 #[lI x0, lI x1, lI x2, lI x3, lI x4, lI x5, lV vI5, lI x6, lI x7, lU, lU, lU, lU, lU, lU, lU] [(.int x8)]) _
    refine XS.istore X7.here hx rfl (hb hby at_25) rfl (l' := #[lI x0, lI x1, lI x2, lI x3, lI x4, lI x5, lV vI5, lI x6, lI x7, lI x8, lU, lU, lU, lU, lU, lU]) rfl ?_
    refine qi X7 hx hby at_27 ?_
    refine st9 _ ?_
    show SG p e below T9 (mkF m 32 #[lI x0, lI x1, lI x2, lI x3, lI x4, lI x5, lV vI5, lI x6, lI x7, lI x8, lU, lU, lU, lU, lU, lU] [(.int (nar .char (if (x4 &&& (1 : Int32)) = (0 : Int32) then ((((x4.toUInt32 >>> ((1 : Int32) &&& 31).toUInt32).toInt32) &&& (255 : Int32)).toUInt32.toUInt16.toUInt32.toInt32) else (47 : Int32))))]) _
    rw [hq10]
    show SG p e below T9 (mkF m 32 #[lI x0, lI x1, lI x2, lI x3, lI x4, lI x5, lV vI5, lI x6, lI x7, lI x8, lU, lU, lU, lU, lU, lU] [(.int x9)]) _
    refine XS.istore X9.here hx rfl (hb hby at_32) rfl (l' := #[lI x0, lI x1, lI x2, lI x3, lI x4, lI x5, lV vI5, lI x6, lI x7, lI x8, lI x9, lU, lU, lU, lU, lU]) rfl ?_
    refine qi X9 hx hby at_34 ?_
    refine st11 _ ?_
    show SG p e below T11 (mkF m 39 #[lI x0, lI x1, lI x2, lI x3, lI x4, lI x5, lV vI5, lI x6, lI x7, lI x8, lI x9, lU, lU, lU, lU, lU] [(.int (nar .char (if (x5 &&& (1 : Int32)) = (0 : Int32) then ((((x5.toUInt32 >>> ((1 : Int32) &&& 31).toUInt32).toInt32) &&& (255 : Int32)).toUInt32.toUInt16.toUInt32.toInt32) else (47 : Int32))))]) _
    rw [hq12]
    show SG p e below T11 (mkF m 39 #[lI x0, lI x1, lI x2, lI x3, lI x4, lI x5, lV vI5, lI x6, lI x7, lI x8, lI x9, lU, lU, lU, lU, lU] [(.int x10)]) _
    refine XS.istore X11.here hx rfl (hb hby at_39) rfl (l' := #[lI x0, lI x1, lI x2, lI x3, lI x4, lI x5, lV vI5, lI x6, lI x7, lI x8, lI x9, lI x10, lU, lU, lU, lU]) rfl ?_
    refine qi X11 hx hby at_41 ?_
    refine qi X11 hx hby at_43 ?_
    refine qi X11 hx hby at_45 ?_
    refine qi X11 hx hby at_47 ?_
    refine qi X11 hx hby at_49 ?_
    refine qi X11 hx hby at_51 ?_
    refine st20 _ ?_
    show SG p e below T20 (mkF m 56 #[lI x0, lI x1, lI x2, lI x3, lI x4, lI x5, lV vI5, lI x6, lI x7, lI x8, lI x9, lI x10, lU, lU, lU, lU] [(.ref b20_0)]) _
    refine XS.astore X20.here hx rfl (hb hby at_56) rfl rfl (l' := #[lI x0, lI x1, lI x2, lI x3, lI x4, lI x5, lV vI5, lI x6, lI x7, lI x8, lI x9, lI x10, lR b20_0, lU, lU, lU]) rfl ?_
    refine qc X20 hx hby at_58 ?_
    refine XS.istore X20.here hx rfl (hb hby at_59) rfl (l' := #[lI x0, lI x1, lI x2, lI x3, lI x4, lI x5, lV vI5, lI x6, lI x7, lI x8, lI x9, lI x10, lR b20_0, .val (.int (-1 : Int32)), lU, lU]) rfl ?_
    refine qi X20 hx hby at_61 ?_
    refine XS.ifNo X20.here hx rfl (hb hby at_63) rfl ((if0 _ _).trans (tlt (by decide : (0 : Int32) < (5 : Int32))).2.2.2) ?_
    refine qi X20 hx hby at_66 ?_
    refine qb X20 hx hby at_68 ?_
    show SG p e below T20 (mkF m 70 #[lI x0, lI x1, lI x2, lI x3, lI x4, lI x5, lV vI5, lI x6, lI x7, lI x8, lI x9, lI x10, lR b20_0, .val (.int (-1 : Int32)), lU, lU] [vI47, (.int x6)]) _
    refine dm32 _ ?_
    show SG p e below T20 (mkF m 76 #[lI x0, lI x1, lI x2, lI x3, lI x4, lI x5, lV vI5, lI x6, lI x7, lI x8, lI x9, lI x10, lR b20_0, .val (.int (if x6 = (47 : Int32) then (0 : Int32) else (-1 : Int32))), lU, lU] []) _
    rw [hq33]
    show SG p e below T20 (mkF m 76 #[lI x0, lI x1, lI x2, lI x3, lI x4, lI x5, lV vI5, lI x6, lI x7, lI x8, lI x9, lI x10, lR b20_0, lI x12, lU, lU] []) _
    refine qi X20 hx hby at_76 ?_
    refine qc X20 hx hby at_78 ?_
    refine XS.icmpNo X20.here hx rfl (hb hby at_79) rfl (tlt (by decide : (1 : Int32) < (5 : Int32))).2.2.2 ?_
    refine qi X20 hx hby at_82 ?_
    refine qb X20 hx hby at_84 ?_
    show SG p e below T20 (mkF m 86 #[lI x0, lI x1, lI x2, lI x3, lI x4, lI x5, lV vI5, lI x6, lI x7, lI x8, lI x9, lI x10, lR b20_0, lI x12, lU, lU] [vI47, (.int x7)]) _
    refine dm34 _ ?_
    show SG p e below T20 (mkF m 92 #[lI x0, lI x1, lI x2, lI x3, lI x4, lI x5, lV vI5, lI x6, lI x7, lI x8, lI x9, lI x10, lR b20_0, .val (.int (if x7 = (47 : Int32) then (1 : Int32) else x12)), lU, lU] []) _
    rw [hq35]
    show SG p e below T20 (mkF m 92 #[lI x0, lI x1, lI x2, lI x3, lI x4, lI x5, lV vI5, lI x6, lI x7, lI x8, lI x9, lI x10, lR b20_0, lI x13, lU, lU] []) _
    refine qi X20 hx hby at_92 ?_
    refine qc X20 hx hby at_94 ?_
    refine XS.icmpNo X20.here hx rfl (hb hby at_95) rfl (tlt (by decide : (2 : Int32) < (5 : Int32))).2.2.2 ?_
    refine qi X20 hx hby at_98 ?_
    refine qb X20 hx hby at_100 ?_
    show SG p e below T20 (mkF m 102 #[lI x0, lI x1, lI x2, lI x3, lI x4, lI x5, lV vI5, lI x6, lI x7, lI x8, lI x9, lI x10, lR b20_0, lI x13, lU, lU] [vI47, (.int x8)]) _
    refine dm36 _ ?_
    show SG p e below T20 (mkF m 108 #[lI x0, lI x1, lI x2, lI x3, lI x4, lI x5, lV vI5, lI x6, lI x7, lI x8, lI x9, lI x10, lR b20_0, .val (.int (if x8 = (47 : Int32) then (2 : Int32) else x13)), lU, lU] []) _
    rw [hq37]
    show SG p e below T20 (mkF m 108 #[lI x0, lI x1, lI x2, lI x3, lI x4, lI x5, lV vI5, lI x6, lI x7, lI x8, lI x9, lI x10, lR b20_0, lI x14, lU, lU] []) _
    refine qi X20 hx hby at_108 ?_
    refine qc X20 hx hby at_110 ?_
    refine XS.icmpNo X20.here hx rfl (hb hby at_111) rfl (tlt (by decide : (3 : Int32) < (5 : Int32))).2.2.2 ?_
    refine qi X20 hx hby at_114 ?_
    refine qb X20 hx hby at_116 ?_
    show SG p e below T20 (mkF m 118 #[lI x0, lI x1, lI x2, lI x3, lI x4, lI x5, lV vI5, lI x6, lI x7, lI x8, lI x9, lI x10, lR b20_0, lI x14, lU, lU] [vI47, (.int x9)]) _
    refine dm38 _ ?_
    show SG p e below T20 (mkF m 124 #[lI x0, lI x1, lI x2, lI x3, lI x4, lI x5, lV vI5, lI x6, lI x7, lI x8, lI x9, lI x10, lR b20_0, .val (.int (if x9 = (47 : Int32) then (3 : Int32) else x14)), lU, lU] []) _
    rw [hq39]
    show SG p e below T20 (mkF m 124 #[lI x0, lI x1, lI x2, lI x3, lI x4, lI x5, lV vI5, lI x6, lI x7, lI x8, lI x9, lI x10, lR b20_0, lI x15, lU, lU] []) _
    refine qi X20 hx hby at_124 ?_
    refine qc X20 hx hby at_126 ?_
    refine XS.icmpNo X20.here hx rfl (hb hby at_127) rfl (tlt (by decide : (4 : Int32) < (5 : Int32))).2.2.2 ?_
    refine qi X20 hx hby at_130 ?_
    refine qb X20 hx hby at_132 ?_
    show SG p e below T20 (mkF m 134 #[lI x0, lI x1, lI x2, lI x3, lI x4, lI x5, lV vI5, lI x6, lI x7, lI x8, lI x9, lI x10, lR b20_0, lI x15, lU, lU] [vI47, (.int x10)]) _
    refine dm40 _ ?_
    show SG p e below T20 (mkF m 140 #[lI x0, lI x1, lI x2, lI x3, lI x4, lI x5, lV vI5, lI x6, lI x7, lI x8, lI x9, lI x10, lR b20_0, .val (.int (if x10 = (47 : Int32) then (4 : Int32) else x15)), lU, lU] []) _
    rw [hq41]
    show SG p e below T20 (mkF m 140 #[lI x0, lI x1, lI x2, lI x3, lI x4, lI x5, lV vI5, lI x6, lI x7, lI x8, lI x9, lI x10, lR b20_0, lI x16, lU, lU] []) _
    refine qa X20 hx hby at_140 ?_
    refine st47 _ ?_
    show SG p e below T47 (mkF m 145 #[lI x0, lI x1, lI x2, lI x3, lI x4, lI x5, lV vI5, lI x6, lI x7, lI x8, lI x9, lI x10, lR b20_0, lI x16, lU, lU] [(.ref b47_0)]) _
    refine XS.astore X47.here hx rfl (hb hby at_145) rfl rfl (l' := #[lI x0, lI x1, lI x2, lI x3, lI x4, lI x5, lV vI5, lI x6, lI x7, lI x8, lI x9, lI x10, lR b20_0, lI x16, lR b47_0, lU]) rfl ?_
    refine qi X47 hx hby at_147 ?_
    show SG p e below T47 (mkF m 149 #[lI x0, lI x1, lI x2, lI x3, lI x4, lI x5, lV vI5, lI x6, lI x7, lI x8, lI x9, lI x10, lR b20_0, lI x16, lR b47_0, lU] [(.int x16)]) _
    rw [hc59]
    show SG p e below T47 (mkF m 149 #[lI x0, lI x1, lI x2, lI x3, lI x4, lI x5, lV vI5, lI x6, lI x7, lI x8, lI x9, lI x10, lR b20_0, lV vI3, lR b47_0, lU] [vI3]) _
    refine XS.ifYes X47.here hx rfl (pc0 := 149) (pc' := 163) rfl (hb hby at_149) rfl ((if0 _ _).trans (tlt (by decide : (0 : Int32) < (3 : Int32))).2.2.1) (by decide) (by decide) ?_
    show SG p e below T47 (mkF m 163 #[lI x0, lI x1, lI x2, lI x3, lI x4, lI x5, lV vI5, lI x6, lI x7, lI x8, lI x9, lI x10, lR b20_0, lV vI3, lR b47_0, lU] []) _
    refine qi X47 hx hby at_163 ?_
    refine qi X47 hx hby at_165 ?_
    refine qi X47 hx hby at_167 ?_
    refine qi X47 hx hby at_169 ?_
    refine qi X47 hx hby at_171 ?_
    refine qi X47 hx hby at_173 ?_
    refine st61 _ ?_
    show SG p e below T61 (mkF m 178 #[lI x0, lI x1, lI x2, lI x3, lI x4, lI x5, lV vI5, lI x6, lI x7, lI x8, lI x9, lI x10, lR b20_0, lV vI3, lR b47_0, lU] [(.ref b61_0)]) _
    refine XS.astore X61.here hx rfl (hb hby at_178) rfl rfl (l' := #[lI x0, lI x1, lI x2, lI x3, lI x4, lI x5, lV vI5, lI x6, lI x7, lI x8, lI x9, lI x10, lR b20_0, lV vI3, lR b47_0, lR b61_0]) rfl ?_
    refine qa X61 hx hby at_180 ?_
    refine XS.ifnullNo X61.here hx rfl (hb hby at_182) rfl ?_
    refine qa X61 hx hby at_185 ?_
    refine qa X61 hx hby at_187 ?_
    refine st79.trans ?_
    show SG p e below T79 (mkF m 192 #[lI x0, lI x1, lI x2, lI x3, lI x4, lI x5, lV vI5, lI x6, lI x7, lI x8, lI x9, lI x10, lR b20_0, lV vI3, lR b47_0, lR b61_0] [vI1]) _
    refine XS.ifNo X79.here hx rfl (hb hby at_192) rfl ((if0 _ _).trans (feq (by decide : ¬ ((1 : Int32) = (0 : Int32)))).1) ?_
    refine qc X79 hx hby at_195 ?_
    refine XS.goto X79.here hx rfl (pc0 := 196) (pc' := 200) rfl (hb hby at_196) (by decide) (by decide) ?_
    show SG p e below T79 (mkF m 200 #[lI x0, lI x1, lI x2, lI x3, lI x4, lI x5, lV vI5, lI x6, lI x7, lI x8, lI x9, lI x10, lR b20_0, lV vI3, lR b47_0, lR b61_0] [vI1]) _
    exact retN X79 hx (t := .boolean) hret (by simp) (hb hby at_200) hr
def Q0_16 (Z : State) (x0 x1 : Int32) (x2 x3 : Int32) (x4 x5 : Int32) (x6 x7 : Int32) (x8 x9 : Int32) (x10 x11 : Int32) (x12 x13 : Int32) (x14 x15 x16 : Int32) (u17 : Value) (h0 : Heap) (n0 : Nat) (v : Option Value) (h : Heap) (L : List Loc) : Prop := v = some vI1 ∧ Fr n0 L
theorem rm0_16 (l : Launch) (Z : State) (a0 : Array Value) (hw : own_HW a0 Z) (ws : List Jvm.Cond) (x0 x1 : Int32) (x2 x3 : Int32) (x4 x5 : Int32) (x6 x7 : Int32) (x8 x9 : Int32) (x10 x11 : Int32) (x12 x13 : Int32) (x14 x15 x16 : Int32) (u17 : Value) (h0 : Heap) (n0 : Nat) (O0 : Old Z n0 h0) (hc2 : ((x0 &&& (2147483647 : Int32)) % (6 : Int32)) = (5 : Int32)) (hq4 : (nar .char (if (x1 &&& (1 : Int32)) = (0 : Int32) then ((((x1.toUInt32 >>> ((1 : Int32) &&& 31).toUInt32).toInt32) &&& (255 : Int32)).toUInt32.toUInt16.toUInt32.toInt32) else (47 : Int32))) = x6) (hq6 : (nar .char (if (x2 &&& (1 : Int32)) = (0 : Int32) then ((((x2.toUInt32 >>> ((1 : Int32) &&& 31).toUInt32).toInt32) &&& (255 : Int32)).toUInt32.toUInt16.toUInt32.toInt32) else (47 : Int32))) = x7) (hq8 : (nar .char (if (x3 &&& (1 : Int32)) = (0 : Int32) then ((((x3.toUInt32 >>> ((1 : Int32) &&& 31).toUInt32).toInt32) &&& (255 : Int32)).toUInt32.toUInt16.toUInt32.toInt32) else (47 : Int32))) = x8) (hq10 : (nar .char (if (x4 &&& (1 : Int32)) = (0 : Int32) then ((((x4.toUInt32 >>> ((1 : Int32) &&& 31).toUInt32).toInt32) &&& (255 : Int32)).toUInt32.toUInt16.toUInt32.toInt32) else (47 : Int32))) = x9) (hq12 : (nar .char (if (x5 &&& (1 : Int32)) = (0 : Int32) then ((((x5.toUInt32 >>> ((1 : Int32) &&& 31).toUInt32).toInt32) &&& (255 : Int32)).toUInt32.toUInt16.toUInt32.toInt32) else (47 : Int32))) = x10) (f13 : Sta Z Z.heap "java/lang/String" "COMPACT_STRINGS" "Z" (.int x11)) (hc14 : ¬ (x11 = (0 : Int32))) (hc15 : ¬ ((255 : Int32) < (nar .char x6))) (hc16 : ¬ ((255 : Int32) < (nar .char x7))) (hc17 : ¬ ((255 : Int32) < (nar .char x8))) (hc18 : ¬ ((255 : Int32) < (nar .char x9))) (hc19 : ¬ ((255 : Int32) < (nar .char x10))) (hq33 : (if x6 = (47 : Int32) then (0 : Int32) else (-1 : Int32)) = x12) (hq35 : (if x7 = (47 : Int32) then (1 : Int32) else x12) = x13) (hq37 : (if x8 = (47 : Int32) then (2 : Int32) else x13) = x14) (hq39 : (if x9 = (47 : Int32) then (3 : Int32) else x14) = x15) (hq41 : (if x10 = (47 : Int32) then (4 : Int32) else x15) = x16) (hc42 : ((nar .char x10).toInt8.toInt32) = (47 : Int32)) (f43 : Sta Z Z.heap cs4 "SIOOBE_FORMATTER" cs5 u17) (hc44 : u17.isRef = true) (hc58 : x16 = (4 : Int32)) :
    own_MH l x code maxLocals ret ws room_1 Z h0 #[(.int x0), (.int x1), (.int x2), (.int x3), (.int x4), (.int x5)] (Q0_16 Z x0 x1 x2 x3 x4 x5 x6 x7 x8 x9 x10 x11 x12 x13 x14 x15 x16 u17 h0 n0) := by
  have hEL : EW Z a0 consts_1 := own_EW hw
  refine own_openH hEL (plainFor_of_name pn_com_example_nearmiss_nearmiss_ElementParentPathPinLaw) (L0 := #[lI x0, lI x1, lI x2, lI x3, lI x4, lI x5, lU, lU, lU, lU, lU, lU, lU, lU, lU, lU]) (fun _ => by first | (simp [entryFrame, mkF, argsToLocals, Value.category, maxLocals]; done) | rfl) ?_
  intro p e s m below meth c s₁ hx hby hml hret hnn hZ hown X0 e0 R0
  have N0 := Fr.nil n0; have w := @ww Z a0 hw
  have hS1 := (State.WarmedH.refl s).since 0
  obtain ⟨_, T3, Lc3, X3, hQ3, st3⟩ := own_cS X0 hx hZ hown e0 (rm1_1 l Z a0 hw [] x1 h0 n0 O0) (w 1 rfl) (w 2 rfl) (w 3 rfl) (w 4 rfl) (by decide) (W := 0) (by decide) (by decide) (by decide) (by decide) (g := (mkF m 10 #[lI x0, lI x1, lI x2, lI x3, lI x4, lI x5, lV vI5, lU, lU, lU, lU, lU, lU, lU, lU, lU] [(.int x1)])) rfl (by rw [hml]; rfl) (argsL := [(.int x1)]) (rest := []) (lenOf pd__I_C rfl) rfl (own_W rfl) (hb hby at_10)
  obtain ⟨rfl, N3q, E3⟩ := hQ3
  have N3 := Fr.app N0 N3q
  obtain ⟨_, T5, Lc5, X5, hQ5, st5⟩ := own_cS X3 hx hZ hown E3 (rm1_1 l Z a0 hw [] x2 h0 n0 O0) (w 1 rfl) (w 2 rfl) (w 3 rfl) (w 4 rfl) (by decide) (W := 0) (by decide) (by decide) (by decide) (by decide) (g := (mkF m 16 #[lI x0, lI x1, lI x2, lI x3, lI x4, lI x5, lV vI5, lI x6, lU, lU, lU, lU, lU, lU, lU, lU] [(.int x2)])) rfl (by rw [hml]; rfl) (argsL := [(.int x2)]) (rest := []) (lenOf pd__I_C rfl) rfl (own_W rfl) (hb hby at_16)
  obtain ⟨rfl, N5q, E5⟩ := hQ5
  have N5 := Fr.app N3 N5q
  obtain ⟨_, T7, Lc7, X7, hQ7, st7⟩ := own_cS X5 hx hZ hown E5 (rm1_1 l Z a0 hw [] x3 h0 n0 O0) (w 1 rfl) (w 2 rfl) (w 3 rfl) (w 4 rfl) (by decide) (W := 0) (by decide) (by decide) (by decide) (by decide) (g := (mkF m 22 #[lI x0, lI x1, lI x2, lI x3, lI x4, lI x5, lV vI5, lI x6, lI x7, lU, lU, lU, lU, lU, lU, lU] [(.int x3)])) rfl (by rw [hml]; rfl) (argsL := [(.int x3)]) (rest := []) (lenOf pd__I_C rfl) rfl (own_W rfl) (hb hby at_22)
  obtain ⟨rfl, N7q, E7⟩ := hQ7
  have N7 := Fr.app N5 N7q
  obtain ⟨_, T9, Lc9, X9, hQ9, st9⟩ := own_cS X7 hx hZ hown E7 (rm1_1 l Z a0 hw [] x4 h0 n0 O0) (w 1 rfl) (w 2 rfl) (w 3 rfl) (w 4 rfl) (by decide) (W := 0) (by decide) (by decide) (by decide) (by decide) (g := (mkF m 29 #[lI x0, lI x1, lI x2, lI x3, lI x4, lI x5, lV vI5, lI x6, lI x7, lI x8, lU, lU, lU, lU, lU, lU] [(.int x4)])) rfl (by rw [hml]; rfl) (argsL := [(.int x4)]) (rest := []) (lenOf pd__I_C rfl) rfl (own_W rfl) (hb hby at_29)
  obtain ⟨rfl, N9q, E9⟩ := hQ9
  have N9 := Fr.app N7 N9q
  obtain ⟨_, T11, Lc11, X11, hQ11, st11⟩ := own_cS X9 hx hZ hown E9 (rm1_1 l Z a0 hw [] x5 h0 n0 O0) (w 1 rfl) (w 2 rfl) (w 3 rfl) (w 4 rfl) (by decide) (W := 0) (by decide) (by decide) (by decide) (by decide) (g := (mkF m 36 #[lI x0, lI x1, lI x2, lI x3, lI x4, lI x5, lV vI5, lI x6, lI x7, lI x8, lI x9, lU, lU, lU, lU, lU] [(.int x5)])) rfl (by rw [hml]; rfl) (argsL := [(.int x5)]) (rest := []) (lenOf pd__I_C rfl) rfl (own_W rfl) (hb hby at_36)
  obtain ⟨rfl, N11q, E11⟩ := hQ11
  have N11 := Fr.app N9 N11q
  obtain ⟨_, T20, Lc20, X20, hQ20, st20⟩ := own_cS X11 hx hZ hown E11 (rm2_6 l Z a0 hw [] x6 x7 x8 x9 x10 x11 h0 n0 O0 f13 hc14 hc15 hc16 hc17 hc18 hc19) (w 5 rfl) (w 6 rfl) (w 3 rfl) (w 7 rfl) (by decide) (W := 0) (by decide) (by decide) (by decide) (by decide) (g := (mkF m 53 #[lI x0, lI x1, lI x2, lI x3, lI x4, lI x5, lV vI5, lI x6, lI x7, lI x8, lI x9, lI x10, lU, lU, lU, lU] [(.int x10), (.int x9), (.int x8), (.int x7), (.int x6), vI5])) rfl (by rw [hml]; rfl) (argsL := [vI5, (.int x6), (.int x7), (.int x8), (.int x9), (.int x10)]) (rest := []) (lenOf pd__ICCCCC_Ljava_lang_String_ rfl) rfl (own_W rfl) (hb hby at_53)
  obtain ⟨b20_0, b20_1, k20_0, rfl, N20q, K20, f21, f22, f23, f24, f25, f26, f27, f28⟩ := hQ20
  have N20 := Fr.app N11 N20q
  have R29 := CHr.trans R0 (CHr.keep K20 sf0 R0.1)
  have sf30 : Safe Z consts_1 s.vm h0 b20_0 := Safe.new f21
  have sf31 : Safe Z consts_1 s.vm h0 b20_1 := Safe.new f25
  have dm32 : ∀ t, Steps p.tables e below (T20.setTop (mkF m 76 #[lI x0, lI x1, lI x2, lI x3, lI x4, lI x5, lV vI5, lI x6, lI x7, lI x8, lI x9, lI x10, lR b20_0, .val (.int (if x6 = (47 : Int32) then (0 : Int32) else (-1 : Int32))), lU, lU] [])) t → Steps p.tables e below (T20.setTop (mkF m 70 #[lI x0, lI x1, lI x2, lI x3, lI x4, lI x5, lV vI5, lI x6, lI x7, lI x8, lI x9, lI x10, lR b20_0, .val (.int (-1 : Int32)), lU, lU] [vI47, (.int x6)])) t := by
    intro t kk
    by_cases hd : x6 = (47 : Int32)
    · show SG p e below T20 (mkF m 70 #[lI x0, lI x1, lI x2, lI x3, lI x4, lI x5, lV vI5, lI x6, lI x7, lI x8, lI x9, lI x10, lR b20_0, .val (.int (-1 : Int32)), lU, lU] [vI47, (.int x6)]) _
      refine XS.icmpNo X20.here hx rfl (hb hby at_70) rfl (teq hd).2 ?_
      refine qc X20 hx hby at_73 ?_
      refine XS.istore X20.here hx rfl (hb hby at_74) rfl (l' := #[lI x0, lI x1, lI x2, lI x3, lI x4, lI x5, lV vI5, lI x6, lI x7, lI x8, lI x9, lI x10, lR b20_0, lV vI0, lU, lU]) rfl ?_
      simp only [if_pos hd] at kk
      exact kk
    · show SG p e below T20 (mkF m 70 #[lI x0, lI x1, lI x2, lI x3, lI x4, lI x5, lV vI5, lI x6, lI x7, lI x8, lI x9, lI x10, lR b20_0, .val (.int (-1 : Int32)), lU, lU] [vI47, (.int x6)]) _
      refine XS.icmpYes X20.here hx rfl (pc0 := 70) (pc' := 76) rfl (hb hby at_70) rfl (feq hd).2 (by decide) (by decide) ?_
      simp only [if_neg hd] at kk
      exact kk
  have dm34 : ∀ t, Steps p.tables e below (T20.setTop (mkF m 92 #[lI x0, lI x1, lI x2, lI x3, lI x4, lI x5, lV vI5, lI x6, lI x7, lI x8, lI x9, lI x10, lR b20_0, .val (.int (if x7 = (47 : Int32) then (1 : Int32) else x12)), lU, lU] [])) t → Steps p.tables e below (T20.setTop (mkF m 86 #[lI x0, lI x1, lI x2, lI x3, lI x4, lI x5, lV vI5, lI x6, lI x7, lI x8, lI x9, lI x10, lR b20_0, lI x12, lU, lU] [vI47, (.int x7)])) t := by
    intro t kk
    by_cases hd : x7 = (47 : Int32)
    · show SG p e below T20 (mkF m 86 #[lI x0, lI x1, lI x2, lI x3, lI x4, lI x5, lV vI5, lI x6, lI x7, lI x8, lI x9, lI x10, lR b20_0, lI x12, lU, lU] [vI47, (.int x7)]) _
      refine XS.icmpNo X20.here hx rfl (hb hby at_86) rfl (teq hd).2 ?_
      refine qc X20 hx hby at_89 ?_
      refine XS.istore X20.here hx rfl (hb hby at_90) rfl (l' := #[lI x0, lI x1, lI x2, lI x3, lI x4, lI x5, lV vI5, lI x6, lI x7, lI x8, lI x9, lI x10, lR b20_0, lV vI1, lU, lU]) rfl ?_
      simp only [if_pos hd] at kk
      exact kk
    · show SG p e below T20 (mkF m 86 #[lI x0, lI x1, lI x2, lI x3, lI x4, lI x5, lV vI5, lI x6, lI x7, lI x8, lI x9, lI x10, lR b20_0, lI x12, lU, lU] [vI47, (.int x7)]) _
      refine XS.icmpYes X20.here hx rfl (pc0 := 86) (pc' := 92) rfl (hb hby at_86) rfl (feq hd).2 (by decide) (by decide) ?_
      simp only [if_neg hd] at kk
      exact kk
  have dm36 : ∀ t, Steps p.tables e below (T20.setTop (mkF m 108 #[lI x0, lI x1, lI x2, lI x3, lI x4, lI x5, lV vI5, lI x6, lI x7, lI x8, lI x9, lI x10, lR b20_0, .val (.int (if x8 = (47 : Int32) then (2 : Int32) else x13)), lU, lU] [])) t → Steps p.tables e below (T20.setTop (mkF m 102 #[lI x0, lI x1, lI x2, lI x3, lI x4, lI x5, lV vI5, lI x6, lI x7, lI x8, lI x9, lI x10, lR b20_0, lI x13, lU, lU] [vI47, (.int x8)])) t := by
    intro t kk
    by_cases hd : x8 = (47 : Int32)
    · show SG p e below T20 (mkF m 102 #[lI x0, lI x1, lI x2, lI x3, lI x4, lI x5, lV vI5, lI x6, lI x7, lI x8, lI x9, lI x10, lR b20_0, lI x13, lU, lU] [vI47, (.int x8)]) _
      refine XS.icmpNo X20.here hx rfl (hb hby at_102) rfl (teq hd).2 ?_
      refine qc X20 hx hby at_105 ?_
      refine XS.istore X20.here hx rfl (hb hby at_106) rfl (l' := #[lI x0, lI x1, lI x2, lI x3, lI x4, lI x5, lV vI5, lI x6, lI x7, lI x8, lI x9, lI x10, lR b20_0, lV vI2, lU, lU]) rfl ?_
      simp only [if_pos hd] at kk
      exact kk
    · show SG p e below T20 (mkF m 102 #[lI x0, lI x1, lI x2, lI x3, lI x4, lI x5, lV vI5, lI x6, lI x7, lI x8, lI x9, lI x10, lR b20_0, lI x13, lU, lU] [vI47, (.int x8)]) _
      refine XS.icmpYes X20.here hx rfl (pc0 := 102) (pc' := 108) rfl (hb hby at_102) rfl (feq hd).2 (by decide) (by decide) ?_
      simp only [if_neg hd] at kk
      exact kk
  have dm38 : ∀ t, Steps p.tables e below (T20.setTop (mkF m 124 #[lI x0, lI x1, lI x2, lI x3, lI x4, lI x5, lV vI5, lI x6, lI x7, lI x8, lI x9, lI x10, lR b20_0, .val (.int (if x9 = (47 : Int32) then (3 : Int32) else x14)), lU, lU] [])) t → Steps p.tables e below (T20.setTop (mkF m 118 #[lI x0, lI x1, lI x2, lI x3, lI x4, lI x5, lV vI5, lI x6, lI x7, lI x8, lI x9, lI x10, lR b20_0, lI x14, lU, lU] [vI47, (.int x9)])) t := by
    intro t kk
    by_cases hd : x9 = (47 : Int32)
    · show SG p e below T20 (mkF m 118 #[lI x0, lI x1, lI x2, lI x3, lI x4, lI x5, lV vI5, lI x6, lI x7, lI x8, lI x9, lI x10, lR b20_0, lI x14, lU, lU] [vI47, (.int x9)]) _
      refine XS.icmpNo X20.here hx rfl (hb hby at_118) rfl (teq hd).2 ?_
      refine qc X20 hx hby at_121 ?_
      refine XS.istore X20.here hx rfl (hb hby at_122) rfl (l' := #[lI x0, lI x1, lI x2, lI x3, lI x4, lI x5, lV vI5, lI x6, lI x7, lI x8, lI x9, lI x10, lR b20_0, lV vI3, lU, lU]) rfl ?_
      simp only [if_pos hd] at kk
      exact kk
    · show SG p e below T20 (mkF m 118 #[lI x0, lI x1, lI x2, lI x3, lI x4, lI x5, lV vI5, lI x6, lI x7, lI x8, lI x9, lI x10, lR b20_0, lI x14, lU, lU] [vI47, (.int x9)]) _
      refine XS.icmpYes X20.here hx rfl (pc0 := 118) (pc' := 124) rfl (hb hby at_118) rfl (feq hd).2 (by decide) (by decide) ?_
      simp only [if_neg hd] at kk
      exact kk
  have dm40 : ∀ t, Steps p.tables e below (T20.setTop (mkF m 140 #[lI x0, lI x1, lI x2, lI x3, lI x4, lI x5, lV vI5, lI x6, lI x7, lI x8, lI x9, lI x10, lR b20_0, .val (.int (if x10 = (47 : Int32) then (4 : Int32) else x15)), lU, lU] [])) t → Steps p.tables e below (T20.setTop (mkF m 134 #[lI x0, lI x1, lI x2, lI x3, lI x4, lI x5, lV vI5, lI x6, lI x7, lI x8, lI x9, lI x10, lR b20_0, lI x15, lU, lU] [vI47, (.int x10)])) t := by
    intro t kk
    by_cases hd : x10 = (47 : Int32)
    · show SG p e below T20 (mkF m 134 #[lI x0, lI x1, lI x2, lI x3, lI x4, lI x5, lV vI5, lI x6, lI x7, lI x8, lI x9, lI x10, lR b20_0, lI x15, lU, lU] [vI47, (.int x10)]) _
      refine XS.icmpNo X20.here hx rfl (hb hby at_134) rfl (teq hd).2 ?_
      refine qc X20 hx hby at_137 ?_
      refine XS.istore X20.here hx rfl (hb hby at_138) rfl (l' := #[lI x0, lI x1, lI x2, lI x3, lI x4, lI x5, lV vI5, lI x6, lI x7, lI x8, lI x9, lI x10, lR b20_0, lV vI4, lU, lU]) rfl ?_
      simp only [if_pos hd] at kk
      exact kk
    · show SG p e below T20 (mkF m 134 #[lI x0, lI x1, lI x2, lI x3, lI x4, lI x5, lV vI5, lI x6, lI x7, lI x8, lI x9, lI x10, lR b20_0, lI x15, lU, lU] [vI47, (.int x10)]) _
      refine XS.icmpYes X20.here hx rfl (pc0 := 134) (pc' := 140) rfl (hb hby at_134) rfl (feq hd).2 (by decide) (by decide) ?_
      simp only [if_neg hd] at kk
      exact kk
  have o45 := Old.keep O0 K20 all0
  obtain ⟨_, T46, Lc46, X46, hQ46, st46⟩ := own_cS X20 hx hZ hown rfl (rm6_5 l Z a0 hw [] b20_0 b20_1 (5 : Int32) k20_0 ([(.int ((nar .char x6).toInt8.toInt32)), (.int ((nar .char x7).toInt8.toInt32)), (.int ((nar .char x8).toInt8.toInt32)), (.int ((nar .char x9).toInt8.toInt32)), (.int ((nar .char x10).toInt8.toInt32))]) x11 (0 : Int32) 0 (4 : Int32) ((nar .char x10).toInt8.toInt32) u17 T20.heap n0 o45 f22 f24 f26 f13 hc14 f23 (by decide) (by decide) (by decide) (fun j hj => absurd hj (Nat.not_lt_zero j)) (by decide) (own_gd (n := 4) rfl rfl) (by decide) hc42 (by decide) f43 hc44 (by decide) (by decide) (by decide) (by decide) (by decide) (by decide) (by decide) (by decide) (by decide)) (w 30 rfl) (w 31 rfl) (w 32 rfl) (w 33 rfl) (by decide) (W := 0) (by decide) (by decide) (by decide) (by decide) (g := (mkF m 142 #[lI x0, lI x1, lI x2, lI x3, lI x4, lI x5, lV vI5, lI x6, lI x7, lI x8, lI x9, lI x10, lR b20_0, lI x16, lU, lU] [(.ref b20_0)])) rfl (by rw [hml]; rfl) (argsL := [(.ref b20_0)]) (rest := []) (lenOf pd__Ljava_lang_String__Ljava_lang_String_ rfl) rfl (own_W rfl) (hb hby at_142)
  obtain ⟨b46_0, b46_1, k46_0, rfl, N46q, K46, f47, f48, f49, f50, f51, f52, f53, f54⟩ := hQ46
  have N46 := Fr.app N20 N46q
  have R55 := CHr.trans R29 (CHr.keep K46 sf0 R29.1)
  have sf56 : Safe Z consts_1 s.vm T20.heap b46_0 := Safe.new f47
  have sf57 : Safe Z consts_1 s.vm T20.heap b46_1 := Safe.new f51
  have o59 := Old.keep o45 K46 all0
  obtain ⟨_, T60, Lc60, X60, hQ60, st60⟩ := own_cS X46 hx hZ hown rfl (rm2_5 l Z a0 hw [] x6 x7 x8 x9 x10 x11 T46.heap n0 o59 f13 hc14 hc15 hc16 hc17 hc18) (w 5 rfl) (w 6 rfl) (w 3 rfl) (w 7 rfl) (by decide) (W := 0) (by decide) (by decide) (by decide) (by decide) (g := (mkF m 175 #[lI x0, lI x1, lI x2, lI x3, lI x4, lI x5, lV vI5, lI x6, lI x7, lI x8, lI x9, lI x10, lR b20_0, lV vI4, lR b46_0, lU] [(.int x10), (.int x9), (.int x8), (.int x7), (.int x6), vI4])) rfl (by rw [hml]; rfl) (argsL := [vI4, (.int x6), (.int x7), (.int x8), (.int x9), (.int x10)]) (rest := []) (lenOf pd__ICCCCC_Ljava_lang_String_ rfl) rfl (own_W rfl) (hb hby at_175)
  obtain ⟨b60_0, b60_1, k60_0, rfl, N60q, K60, f61, f62, f63, f64, f65, f66, f67, f68⟩ := hQ60
  have N60 := Fr.app N46 N60q
  have R69 := CHr.trans R55 (CHr.keep K60 sf0 R55.1)
  have sf70 : Safe Z consts_1 s.vm T46.heap b60_0 := Safe.new f61
  have sf71 : Safe Z consts_1 s.vm T46.heap b60_1 := Safe.new f65
  have f72 := (f50.keep K60 nin0)
  have f73 := (f49.keep K60 nin0)
  have f74 := (f52.keep K60 nin0)
  have f75 := (f48.keep K60)
  have o76 := Old.keep o59 K60 all0
  have f77 := f13.ext o76.2
  obtain ⟨cqq79, kqq79, qq79a, qq79b, qq79c⟩ := isOf hZ rfl f75
  obtain ⟨_, T78, Lc78, X78, hQ78, st78⟩ := own_fin (X60.virtualBack hx (y := mN21) (z := mN21) hown (mvT hZ (w 116 rfl)) (mvT hZ (w 117 rfl)) (notFace_of_selects (args := #[]) (mvT hZ (w 119 rfl))) (mvT hZ (w 119 rfl)) (mvT hZ (w 118 rfl)) (by decide) (own_strEq hZ hw (w 9 rfl) (bs := [((nar .char x6).toInt8.toInt32), ((nar .char x7).toInt8.toInt32), ((nar .char x8).toInt8.toInt32), ((nar .char x9).toInt8.toInt32)]) f75 f73 f72 (own_trunc (ws := [(.int ((nar .char x6).toInt8.toInt32)), (.int ((nar .char x7).toInt8.toInt32)), (.int ((nar .char x8).toInt8.toInt32)), (.int ((nar .char x9).toInt8.toInt32))]) (rest := [(.int ((nar .char x10).toInt8.toInt32))]) (own_lenK (n := 4) rfl (by decide)) f74) (own_ofLen (n := 4) (by decide) rfl) (Nat.le_of_ble_eq_true rfl) (ds := [((nar .char x6).toInt8.toInt32), ((nar .char x7).toInt8.toInt32), ((nar .char x8).toInt8.toInt32), ((nar .char x9).toInt8.toInt32)]) f62 f64 f63 f66 (own_ofLen (n := 4) (by decide) rfl) (Nat.le_of_ble_eq_true rfl) f77 hc14 (r := 1) (n0 := n0) (Or.inl ⟨rfl, rfl⟩) (by decide) (by decide : 0 + 28 ≤ _)) qq79a qq79c (g := (mkF m 189 #[lI x0, lI x1, lI x2, lI x3, lI x4, lI x5, lV vI5, lI x6, lI x7, lI x8, lI x9, lI x10, lR b20_0, lV vI4, lR b46_0, lR b60_0] [(.ref b60_0), (.ref b46_0)])) rfl (by rw [hml]; rfl) (Steps.refl _) (argsL := [(.ref b60_0)]) (rest := []) (lenOf pd__Ljava_lang_Object__Z rfl) rfl (own_W rfl) (hb hby at_189) (fun _ _ => ⟨rfl, rfl, (by decide : 8 + 0 ≤ _), (by decide : 38 + 0 ≤ _)⟩))
  obtain ⟨rfl, N78q, E78⟩ := hQ78
  have N78 := Fr.app N60 N78q
  refine ⟨some vI1, _, _, _, _, _, _, _, nofun, X78, by decide, by decide, hS1, (by rw [E78]; exact (Nat.zero_le _)), hZ, E78, R69, ?_, fun fs hr => ?_⟩
  · rw [E78]; exact ⟨rfl, N78⟩
  · show SG p e below s₁ (mkF m 0 #[lI x0, lI x1, lI x2, lI x3, lI x4, lI x5, lU, lU, lU, lU, lU, lU, lU, lU, lU, lU] []) _
    refine qiN X0 hx hby at_0 ?_
    refine X0.ldcInt hx hown (mvT hZ (w 0 rfl)) (g := (mkF m 1 #[lI x0, lI x1, lI x2, lI x3, lI x4, lI x5, lU, lU, lU, lU, lU, lU, lU, lU, lU, lU] [(.int x0)])) rfl (hb hby at_1) _ ?_
    show SG p e below s₁ (mkF m 3 #[lI x0, lI x1, lI x2, lI x3, lI x4, lI x5, lU, lU, lU, lU, lU, lU, lU, lU, lU, lU] [vI2147483647, (.int x0)]) _
    refine XS.iand X0.here hx rfl (hb hby at_3) rfl ?_
    refine qb X0 hx hby at_4 ?_
    refine iremM (g := (mkF m 6 #[lI x0, lI x1, lI x2, lI x3, lI x4, lI x5, lU, lU, lU, lU, lU, lU, lU, lU, lU, lU] [vI6, (.int (x0 &&& (2147483647 : Int32)))])) X0 hx rfl (hb hby at_6) rfl (by decide : ¬ ((6 : Int32) = (0 : Int32))) ?_
    show SG p e below s₁ (mkF m 7 #[lI x0, lI x1, lI x2, lI x3, lI x4, lI x5, lU, lU, lU, lU, lU, lU, lU, lU, lU, lU] [(.int ((x0 &&& (2147483647 : Int32)) % (6 : Int32)))]) _
    rw [hc2]
    show SG p e below s₁ (mkF m 7 #[lI x0, lI x1, lI x2, lI x3, lI x4, lI x5, lU, lU, lU, lU, lU, lU, lU, lU, lU, lU] [vI5]) _
    refine XS.istore X0.here hx rfl (hb hby at_7) rfl (l' := #[lI x0, lI x1, lI x2, lI x3, lI x4, lI x5, lV vI5, lU, lU, lU, lU, lU, lU, lU, lU, lU]) rfl ?_
    refine qiN X0 hx hby at_9 ?_
    refine st3 _ ?_
    show SG p e below T3 (mkF m 13 #[lI x0, lI x1, lI x2, lI x3, lI x4, lI x5, lV vI5, lU, lU, lU, lU, lU, lU, lU, lU, lU] [(.int (nar .char (if (x1 &&& (1 : Int32)) = (0 : Int32) then ((((x1.toUInt32 >>> ((1 : Int32) &&& 31).toUInt32).toInt32) &&& (255 : Int32)).toUInt32.toUInt16.toUInt32.toInt32) else (47 : Int32))))]) _
    rw [hq4]
    show SG p e below T3 (mkF m 13 #[lI x0, lI x1, lI x2, lI x3, lI x4, lI x5, lV vI5, lU, lU, lU, lU, lU, lU, lU, lU, lU] [(.int x6)]) _
    refine XS.istore X3.here hx rfl (hb hby at_13) rfl (l' := #[lI x0, lI x1, lI x2, lI x3, lI x4, lI x5, lV vI5, lI x6, lU, lU, lU, lU, lU, lU, lU, lU]) rfl ?_
    refine qiN X3 hx hby at_15 ?_
    refine st5 _ ?_
    show SG p e below T5 (mkF m 19 #[lI x0, lI x1, lI x2, lI x3, lI x4, lI x5, lV vI5, lI x6, lU, lU, lU, lU, lU, lU, lU, lU] [(.int (nar .char (if (x2 &&& (1 : Int32)) = (0 : Int32) then ((((x2.toUInt32 >>> ((1 : Int32) &&& 31).toUInt32).toInt32) &&& (255 : Int32)).toUInt32.toUInt16.toUInt32.toInt32) else (47 : Int32))))]) _
    rw [hq6]
    show SG p e below T5 (mkF m 19 #[lI x0, lI x1, lI x2, lI x3, lI x4, lI x5, lV vI5, lI x6, lU, lU, lU, lU, lU, lU, lU, lU] [(.int x7)]) _
    refine XS.istore X5.here hx rfl (hb hby at_19) rfl (l' := #[lI x0, lI x1, lI x2, lI x3, lI x4, lI x5, lV vI5, lI x6, lI x7, lU, lU, lU, lU, lU, lU, lU]) rfl ?_
    refine qiN X5 hx hby at_21 ?_
    refine st7 _ ?_
    show SG p e below T7 (mkF m 25 #[lI x0, lI x1, lI x2, lI x3, lI x4, lI x5, lV vI5, lI x6, lI x7, lU, lU, lU, lU, lU, lU, lU] [(.int (nar .char (if (x3 &&& (1 : Int32)) = (0 : Int32) then ((((x3.toUInt32 >>> ((1 : Int32) &&& 31).toUInt32).toInt32) &&& (255 : Int32)).toUInt32.toUInt16.toUInt32.toInt32) else (47 : Int32))))]) _
    rw [hq8]
    show SG p e below T7 (mkF m 25 #[lI x0, lI x1, lI x2, lI x3, lI x4, lI x5, lV vI5, lI x6, lI x7, lU, lU, lU, lU, lU, lU, lU] [(.int x8)]) _
    refine XS.istore X7.here hx rfl (hb hby at_25) rfl (l' := #[lI x0, lI x1, lI x2, lI x3, lI x4, lI x5, lV vI5, lI x6, lI x7, lI x8, lU, lU, lU, lU, lU, lU]) rfl ?_
    refine qi X7 hx hby at_27 ?_
    refine st9 _ ?_
    show SG p e below T9 (mkF m 32 #[lI x0, lI x1, lI x2, lI x3, lI x4, lI x5, lV vI5, lI x6, lI x7, lI x8, lU, lU, lU, lU, lU, lU] [(.int (nar .char (if (x4 &&& (1 : Int32)) = (0 : Int32) then ((((x4.toUInt32 >>> ((1 : Int32) &&& 31).toUInt32).toInt32) &&& (255 : Int32)).toUInt32.toUInt16.toUInt32.toInt32) else (47 : Int32))))]) _
    rw [hq10]
    show SG p e below T9 (mkF m 32 #[lI x0, lI x1, lI x2, lI x3, lI x4, lI x5, lV vI5, lI x6, lI x7, lI x8, lU, lU, lU, lU, lU, lU] [(.int x9)]) _
    refine XS.istore X9.here hx rfl (hb hby at_32) rfl (l' := #[lI x0, lI x1, lI x2, lI x3, lI x4, lI x5, lV vI5, lI x6, lI x7, lI x8, lI x9, lU, lU, lU, lU, lU]) rfl ?_
    refine qi X9 hx hby at_34 ?_
    refine st11 _ ?_
    show SG p e below T11 (mkF m 39 #[lI x0, lI x1, lI x2, lI x3, lI x4, lI x5, lV vI5, lI x6, lI x7, lI x8, lI x9, lU, lU, lU, lU, lU] [(.int (nar .char (if (x5 &&& (1 : Int32)) = (0 : Int32) then ((((x5.toUInt32 >>> ((1 : Int32) &&& 31).toUInt32).toInt32) &&& (255 : Int32)).toUInt32.toUInt16.toUInt32.toInt32) else (47 : Int32))))]) _
    rw [hq12]
    show SG p e below T11 (mkF m 39 #[lI x0, lI x1, lI x2, lI x3, lI x4, lI x5, lV vI5, lI x6, lI x7, lI x8, lI x9, lU, lU, lU, lU, lU] [(.int x10)]) _
    refine XS.istore X11.here hx rfl (hb hby at_39) rfl (l' := #[lI x0, lI x1, lI x2, lI x3, lI x4, lI x5, lV vI5, lI x6, lI x7, lI x8, lI x9, lI x10, lU, lU, lU, lU]) rfl ?_
    refine qi X11 hx hby at_41 ?_
    refine qi X11 hx hby at_43 ?_
    refine qi X11 hx hby at_45 ?_
    refine qi X11 hx hby at_47 ?_
    refine qi X11 hx hby at_49 ?_
    refine qi X11 hx hby at_51 ?_
    refine st20 _ ?_
    show SG p e below T20 (mkF m 56 #[lI x0, lI x1, lI x2, lI x3, lI x4, lI x5, lV vI5, lI x6, lI x7, lI x8, lI x9, lI x10, lU, lU, lU, lU] [(.ref b20_0)]) _
    refine XS.astore X20.here hx rfl (hb hby at_56) rfl rfl (l' := #[lI x0, lI x1, lI x2, lI x3, lI x4, lI x5, lV vI5, lI x6, lI x7, lI x8, lI x9, lI x10, lR b20_0, lU, lU, lU]) rfl ?_
    refine qc X20 hx hby at_58 ?_
    refine XS.istore X20.here hx rfl (hb hby at_59) rfl (l' := #[lI x0, lI x1, lI x2, lI x3, lI x4, lI x5, lV vI5, lI x6, lI x7, lI x8, lI x9, lI x10, lR b20_0, .val (.int (-1 : Int32)), lU, lU]) rfl ?_
    refine qi X20 hx hby at_61 ?_
    refine XS.ifNo X20.here hx rfl (hb hby at_63) rfl ((if0 _ _).trans (tlt (by decide : (0 : Int32) < (5 : Int32))).2.2.2) ?_
    refine qi X20 hx hby at_66 ?_
    refine qb X20 hx hby at_68 ?_
    show SG p e below T20 (mkF m 70 #[lI x0, lI x1, lI x2, lI x3, lI x4, lI x5, lV vI5, lI x6, lI x7, lI x8, lI x9, lI x10, lR b20_0, .val (.int (-1 : Int32)), lU, lU] [vI47, (.int x6)]) _
    refine dm32 _ ?_
    show SG p e below T20 (mkF m 76 #[lI x0, lI x1, lI x2, lI x3, lI x4, lI x5, lV vI5, lI x6, lI x7, lI x8, lI x9, lI x10, lR b20_0, .val (.int (if x6 = (47 : Int32) then (0 : Int32) else (-1 : Int32))), lU, lU] []) _
    rw [hq33]
    show SG p e below T20 (mkF m 76 #[lI x0, lI x1, lI x2, lI x3, lI x4, lI x5, lV vI5, lI x6, lI x7, lI x8, lI x9, lI x10, lR b20_0, lI x12, lU, lU] []) _
    refine qi X20 hx hby at_76 ?_
    refine qc X20 hx hby at_78 ?_
    refine XS.icmpNo X20.here hx rfl (hb hby at_79) rfl (tlt (by decide : (1 : Int32) < (5 : Int32))).2.2.2 ?_
    refine qi X20 hx hby at_82 ?_
    refine qb X20 hx hby at_84 ?_
    show SG p e below T20 (mkF m 86 #[lI x0, lI x1, lI x2, lI x3, lI x4, lI x5, lV vI5, lI x6, lI x7, lI x8, lI x9, lI x10, lR b20_0, lI x12, lU, lU] [vI47, (.int x7)]) _
    refine dm34 _ ?_
    show SG p e below T20 (mkF m 92 #[lI x0, lI x1, lI x2, lI x3, lI x4, lI x5, lV vI5, lI x6, lI x7, lI x8, lI x9, lI x10, lR b20_0, .val (.int (if x7 = (47 : Int32) then (1 : Int32) else x12)), lU, lU] []) _
    rw [hq35]
    show SG p e below T20 (mkF m 92 #[lI x0, lI x1, lI x2, lI x3, lI x4, lI x5, lV vI5, lI x6, lI x7, lI x8, lI x9, lI x10, lR b20_0, lI x13, lU, lU] []) _
    refine qi X20 hx hby at_92 ?_
    refine qc X20 hx hby at_94 ?_
    refine XS.icmpNo X20.here hx rfl (hb hby at_95) rfl (tlt (by decide : (2 : Int32) < (5 : Int32))).2.2.2 ?_
    refine qi X20 hx hby at_98 ?_
    refine qb X20 hx hby at_100 ?_
    show SG p e below T20 (mkF m 102 #[lI x0, lI x1, lI x2, lI x3, lI x4, lI x5, lV vI5, lI x6, lI x7, lI x8, lI x9, lI x10, lR b20_0, lI x13, lU, lU] [vI47, (.int x8)]) _
    refine dm36 _ ?_
    show SG p e below T20 (mkF m 108 #[lI x0, lI x1, lI x2, lI x3, lI x4, lI x5, lV vI5, lI x6, lI x7, lI x8, lI x9, lI x10, lR b20_0, .val (.int (if x8 = (47 : Int32) then (2 : Int32) else x13)), lU, lU] []) _
    rw [hq37]
    show SG p e below T20 (mkF m 108 #[lI x0, lI x1, lI x2, lI x3, lI x4, lI x5, lV vI5, lI x6, lI x7, lI x8, lI x9, lI x10, lR b20_0, lI x14, lU, lU] []) _
    refine qi X20 hx hby at_108 ?_
    refine qc X20 hx hby at_110 ?_
    refine XS.icmpNo X20.here hx rfl (hb hby at_111) rfl (tlt (by decide : (3 : Int32) < (5 : Int32))).2.2.2 ?_
    refine qi X20 hx hby at_114 ?_
    refine qb X20 hx hby at_116 ?_
    show SG p e below T20 (mkF m 118 #[lI x0, lI x1, lI x2, lI x3, lI x4, lI x5, lV vI5, lI x6, lI x7, lI x8, lI x9, lI x10, lR b20_0, lI x14, lU, lU] [vI47, (.int x9)]) _
    refine dm38 _ ?_
    show SG p e below T20 (mkF m 124 #[lI x0, lI x1, lI x2, lI x3, lI x4, lI x5, lV vI5, lI x6, lI x7, lI x8, lI x9, lI x10, lR b20_0, .val (.int (if x9 = (47 : Int32) then (3 : Int32) else x14)), lU, lU] []) _
    rw [hq39]
    show SG p e below T20 (mkF m 124 #[lI x0, lI x1, lI x2, lI x3, lI x4, lI x5, lV vI5, lI x6, lI x7, lI x8, lI x9, lI x10, lR b20_0, lI x15, lU, lU] []) _
    refine qi X20 hx hby at_124 ?_
    refine qc X20 hx hby at_126 ?_
    refine XS.icmpNo X20.here hx rfl (hb hby at_127) rfl (tlt (by decide : (4 : Int32) < (5 : Int32))).2.2.2 ?_
    refine qi X20 hx hby at_130 ?_
    refine qb X20 hx hby at_132 ?_
    show SG p e below T20 (mkF m 134 #[lI x0, lI x1, lI x2, lI x3, lI x4, lI x5, lV vI5, lI x6, lI x7, lI x8, lI x9, lI x10, lR b20_0, lI x15, lU, lU] [vI47, (.int x10)]) _
    refine dm40 _ ?_
    show SG p e below T20 (mkF m 140 #[lI x0, lI x1, lI x2, lI x3, lI x4, lI x5, lV vI5, lI x6, lI x7, lI x8, lI x9, lI x10, lR b20_0, .val (.int (if x10 = (47 : Int32) then (4 : Int32) else x15)), lU, lU] []) _
    rw [hq41]
    show SG p e below T20 (mkF m 140 #[lI x0, lI x1, lI x2, lI x3, lI x4, lI x5, lV vI5, lI x6, lI x7, lI x8, lI x9, lI x10, lR b20_0, lI x16, lU, lU] []) _
    refine qa X20 hx hby at_140 ?_
    refine st46 _ ?_
    show SG p e below T46 (mkF m 145 #[lI x0, lI x1, lI x2, lI x3, lI x4, lI x5, lV vI5, lI x6, lI x7, lI x8, lI x9, lI x10, lR b20_0, lI x16, lU, lU] [(.ref b46_0)]) _
    refine XS.astore X46.here hx rfl (hb hby at_145) rfl rfl (l' := #[lI x0, lI x1, lI x2, lI x3, lI x4, lI x5, lV vI5, lI x6, lI x7, lI x8, lI x9, lI x10, lR b20_0, lI x16, lR b46_0, lU]) rfl ?_
    refine qi X46 hx hby at_147 ?_
    show SG p e below T46 (mkF m 149 #[lI x0, lI x1, lI x2, lI x3, lI x4, lI x5, lV vI5, lI x6, lI x7, lI x8, lI x9, lI x10, lR b20_0, lI x16, lR b46_0, lU] [(.int x16)]) _
    rw [hc58]
    show SG p e below T46 (mkF m 149 #[lI x0, lI x1, lI x2, lI x3, lI x4, lI x5, lV vI5, lI x6, lI x7, lI x8, lI x9, lI x10, lR b20_0, lV vI4, lR b46_0, lU] [vI4]) _
    refine XS.ifYes X46.here hx rfl (pc0 := 149) (pc' := 163) rfl (hb hby at_149) rfl ((if0 _ _).trans (tlt (by decide : (0 : Int32) < (4 : Int32))).2.2.1) (by decide) (by decide) ?_
    show SG p e below T46 (mkF m 163 #[lI x0, lI x1, lI x2, lI x3, lI x4, lI x5, lV vI5, lI x6, lI x7, lI x8, lI x9, lI x10, lR b20_0, lV vI4, lR b46_0, lU] []) _
    refine qi X46 hx hby at_163 ?_
    refine qi X46 hx hby at_165 ?_
    refine qi X46 hx hby at_167 ?_
    refine qi X46 hx hby at_169 ?_
    refine qi X46 hx hby at_171 ?_
    refine qi X46 hx hby at_173 ?_
    refine st60 _ ?_
    show SG p e below T60 (mkF m 178 #[lI x0, lI x1, lI x2, lI x3, lI x4, lI x5, lV vI5, lI x6, lI x7, lI x8, lI x9, lI x10, lR b20_0, lV vI4, lR b46_0, lU] [(.ref b60_0)]) _
    refine XS.astore X60.here hx rfl (hb hby at_178) rfl rfl (l' := #[lI x0, lI x1, lI x2, lI x3, lI x4, lI x5, lV vI5, lI x6, lI x7, lI x8, lI x9, lI x10, lR b20_0, lV vI4, lR b46_0, lR b60_0]) rfl ?_
    refine qa X60 hx hby at_180 ?_
    refine XS.ifnullNo X60.here hx rfl (hb hby at_182) rfl ?_
    refine qa X60 hx hby at_185 ?_
    refine qa X60 hx hby at_187 ?_
    refine st78.trans ?_
    show SG p e below T78 (mkF m 192 #[lI x0, lI x1, lI x2, lI x3, lI x4, lI x5, lV vI5, lI x6, lI x7, lI x8, lI x9, lI x10, lR b20_0, lV vI4, lR b46_0, lR b60_0] [vI1]) _
    refine XS.ifNo X78.here hx rfl (hb hby at_192) rfl ((if0 _ _).trans (feq (by decide : ¬ ((1 : Int32) = (0 : Int32)))).1) ?_
    refine qc X78 hx hby at_195 ?_
    refine XS.goto X78.here hx rfl (pc0 := 196) (pc' := 200) rfl (hb hby at_196) (by decide) (by decide) ?_
    show SG p e below T78 (mkF m 200 #[lI x0, lI x1, lI x2, lI x3, lI x4, lI x5, lV vI5, lI x6, lI x7, lI x8, lI x9, lI x10, lR b20_0, lV vI4, lR b46_0, lR b60_0] [vI1]) _
    exact retN X78 hx (t := .boolean) hret (by simp) (hb hby at_200) hr
theorem comes_1 {Post : Tables → Env → Array Value → State → Outcome → State → Prop} (hpost : ∀ tb e args s v u, (limb_1_1.after args s (.returned v) u = true ∧ limb_1_2.after args s (.returned v) u = true ∧ True) → ReturnedEndW s (.returned v) u (Jvm.fieldLocs frame_1_writes args s ++ Jvm.arrayLocs frame_1_arrays args s ++ Jvm.staticLocs frame_1_statics s) 32 1216 → Post tb e args s (.returned v) u) :
    ArmFor flags0 classFile x code maxLocals ret World_1 tables_1 room_1 Calls_1 rest_1 Pre_1 Post := by
  intro l hfl _ _ p e ha hc hk s m args below hf hA hF happ hP
  obtain ⟨hcalls, hrest, hpre⟩ := hP
  obtain ⟨-, -, -, hnamed, -, -, -, hat⟩ := (Spec.applies_iff hf).mp happ
  obtain ⟨hg, hn⟩ := and_e (Cond.before_iff.mp (show (Jvm.Cond.and given_1 narrow_1).before args s = true from hpre))
  obtain ⟨g0, hg⟩ := and_e hg
  obtain ⟨ga0, hg⟩ := and_e hg
  obtain ⟨ga1, hg⟩ := and_e hg
  obtain ⟨ga2, hg⟩ := and_e hg
  obtain ⟨ga3, hg⟩ := and_e hg
  obtain ⟨ga4, hg⟩ := and_e hg
  obtain ⟨w0, w1, w2, w3, w4, w5, rfl⟩ : ∃ w0 w1 w2 w3 w4 w5 : Value, args = #[w0, w1, w2, w3, w4, w5] := by
    have hs : args.size = 6 := by simpa [Cond.value, given_1] using g0
    obtain ⟨L⟩ := args
    match L, hs with
    | [w0, w1, w2, w3, w4, w5], _ => exact ⟨w0, w1, w2, w3, w4, w5, rfl⟩
  have hw := fun d (hd : d ∈ tables_1) => atoms_spec (ws := Jvm.Cond.code x code maxLocals ret :: tables_1) hat d (List.mem_cons_of_mem _ hd)
  have hfit : Fit s := fun {y c} hc i hi => by
    obtain ⟨ha, rfl⟩ := Array.getElem?_eq_some_iff.mp hc
    have q := List.all_eq_true.mp ((Array.all_eq_true_iff_forall_mem.mp hF) _ (Array.getElem_mem ha)) i (List.mem_range.mpr hi)
    simpa [Array.getElem?_eq_getElem hi] using q
  obtain ⟨hsets, hown0⟩ := atoms_of _ (rest_1_c_eq ▸ (show rest_1_c.before _ s = true from hrest))
  have hr0 := Cond.before_iff.mp hown0
  obtain ⟨i0, ei0⟩ := is_v ga0
  obtain rfl : w0 = (.int i0) := Option.some.inj ei0
  obtain ⟨i1, ei1⟩ := is_v ga1
  obtain rfl : w1 = (.int i1) := Option.some.inj ei1
  obtain ⟨i2, ei2⟩ := is_v ga2
  obtain rfl : w2 = (.int i2) := Option.some.inj ei2
  obtain ⟨i3, ei3⟩ := is_v ga3
  obtain rfl : w3 = (.int i3) := Option.some.inj ei3
  obtain ⟨i4, ei4⟩ := is_v ga4
  obtain rfl : w4 = (.int i4) := Option.some.inj ei4
  obtain ⟨i5, ei5⟩ := is_v hg
  obtain rfl : w5 = (.int i5) := Option.some.inj ei5
  have hs := fun (n : Nat) (d : Jvm.Cond) (q : jdkStatics_1[n]? = some d) => Cond.before_iff.mp (hsets d (List.mem_of_getElem? q))
  obtain ⟨iCS, eCS⟩ := is_v (hs 1 _ rfl)
  have SCS := Sta.start eCS (Or.inl (hsets _ (List.mem_of_getElem? (i := 0) rfl)))
  have nCS : ¬ (iCS = (0 : Int32)) := gotF (Cond.eq_ints eCS (Term.int_eval (0))) (not_v (hs 2 _ rfl))
  obtain ⟨vFM, eFM, hFM⟩ := isR_v (hs 8 _ rfl)
  have SFM := Sta.start eFM (Or.inl (hsets _ (List.mem_of_getElem? (i := 7) rfl)))
  have hcw : Jvm.Lit.compactW.before _ s = true := (hsets _ (List.mem_of_getElem? (i := 2) rfl))
  suffices hM : MetFree l x (head1 (Jvm.Cond.code x code maxLocals ret :: tables_1) room_1) (fun a U => a = #[(.int i0), (.int i1), (.int i2), (.int i3), (.int i4), (.int i5)] ∧ s.Warmed39 U.vm ∧ U.heap = s.heap ∧ CHv s consts_1 U.vm s.heap) (fun _ _ _ _ _ => True) (fun _ U o U' => ∃ v L, o = .returned v ∧ (v = some vI1 ∧ Fr s.heap.size L) ∧ CHr s consts_1 U.vm U.heap U'.vm U'.heap ∧ ReturnedEndW U o U' L room_1.cells room_1.slots) by
    obtain ⟨n, o, h1, h2, h3, _, L, rfl, ⟨rfl, N⟩, -, hq⟩ := hM p e ha hc hk s m _ below hf ((Spec.applies_iff_loose hf).mp happ).1 ⟨rfl, State.Warmed39.refl s, rfl, CHv.start (own_EW hw) (fun p hp => hcalls.1 p hp) hcw (ww hw 23 rfl) (ww hw 9 rfl)⟩ trivial
    refine ⟨n, _, h1, h2, h3, hpost _ _ _ _ _ _ ⟨Cond.after_iff.mpr rfl, Cond.after_iff.mpr (eq_i res_at (Term.int_eval (1)) rfl), trivial⟩ ⟨hq.1, hq.2.1, hq.2.2.1, (hq.2.2.2.sift fun y hy => Or.inr (N y hy)).mono (by decide) (by decide)⟩⟩
  obtain ⟨cA, hA, aA, bA, eA⟩ := own_chx i1
  obtain ⟨cB, hB, aB, bB, eB⟩ := own_chx i2
  obtain ⟨cC, hC, aC, bC, eC⟩ := own_chx i3
  obtain ⟨cD, hD, aD, bD, eD⟩ := own_chx i4
  obtain ⟨cE, hE, aE, bE, eE⟩ := own_chx i5
  rcases own_mod6 i0 with ck | ck | ck | ck | ck | ck
  · skip
    exact rm0_1 l s _ hw tables_1 i0 i1 i2 i3 i4 i5 cA cB cC cD cE iCS _ _ (Old.start s) ck hA hB hC hD hE SCS nCS
  · skip
    exact rm0_2 l s _ hw tables_1 i0 i1 i2 i3 i4 i5 cA cB cC cD cE iCS (((if cA = (47 : Int32) then (0 : Int32) else (-1 : Int32)))) _ _ (Old.start s) ck hA hB hC hD hE SCS nCS aA rfl (by split <;> decide)
  · skip
    by_cases pB : cB = (47 : Int32)
    · exact rm0_4 l s _ hw tables_1 i0 i1 i2 i3 i4 i5 cA cB cC cD cE iCS (((if cA = (47 : Int32) then (0 : Int32) else (-1 : Int32)))) (((if cB = (47 : Int32) then (1 : Int32) else ((if cA = (47 : Int32) then (0 : Int32) else (-1 : Int32)))))) vFM _ _ (Old.start s) ck hA hB hC hD hE SCS nCS aA aB rfl rfl (eB.mpr pB) SFM hFM (by rw [if_pos pB])
    exact rm0_3 l s _ hw tables_1 i0 i1 i2 i3 i4 i5 cA cB cC cD cE iCS (((if cA = (47 : Int32) then (0 : Int32) else (-1 : Int32)))) (((if cB = (47 : Int32) then (1 : Int32) else ((if cA = (47 : Int32) then (0 : Int32) else (-1 : Int32)))))) _ _ (Old.start s) ck hA hB hC hD hE SCS nCS aA aB rfl rfl (fun q => pB (eB.mp q)) (by rw [if_neg pB]; split <;> decide)
  · skip
    by_cases pC : cC = (47 : Int32)
    · exact rm0_7 l s _ hw tables_1 i0 i1 i2 i3 i4 i5 cA cB cC cD cE iCS (((if cA = (47 : Int32) then (0 : Int32) else (-1 : Int32)))) (((if cB = (47 : Int32) then (1 : Int32) else ((if cA = (47 : Int32) then (0 : Int32) else (-1 : Int32)))))) (((if cC = (47 : Int32) then (2 : Int32) else ((if cB = (47 : Int32) then (1 : Int32) else ((if cA = (47 : Int32) then (0 : Int32) else (-1 : Int32)))))))) vFM _ _ (Old.start s) ck hA hB hC hD hE SCS nCS aA aB aC rfl rfl rfl (eC.mpr pC) SFM hFM (by rw [if_pos pC])
    by_cases pB : cB = (47 : Int32)
    · exact rm0_6 l s _ hw tables_1 i0 i1 i2 i3 i4 i5 cA cB cC cD cE iCS (((if cA = (47 : Int32) then (0 : Int32) else (-1 : Int32)))) (((if cB = (47 : Int32) then (1 : Int32) else ((if cA = (47 : Int32) then (0 : Int32) else (-1 : Int32)))))) (((if cC = (47 : Int32) then (2 : Int32) else ((if cB = (47 : Int32) then (1 : Int32) else ((if cA = (47 : Int32) then (0 : Int32) else (-1 : Int32)))))))) vFM _ _ (Old.start s) ck hA hB hC hD hE SCS nCS aA aB aC rfl rfl rfl (fun q => pC (eC.mp q)) (eB.mpr pB) SFM hFM (by rw [if_neg pC, if_pos pB])
    exact rm0_5 l s _ hw tables_1 i0 i1 i2 i3 i4 i5 cA cB cC cD cE iCS (((if cA = (47 : Int32) then (0 : Int32) else (-1 : Int32)))) (((if cB = (47 : Int32) then (1 : Int32) else ((if cA = (47 : Int32) then (0 : Int32) else (-1 : Int32)))))) (((if cC = (47 : Int32) then (2 : Int32) else ((if cB = (47 : Int32) then (1 : Int32) else ((if cA = (47 : Int32) then (0 : Int32) else (-1 : Int32)))))))) _ _ (Old.start s) ck hA hB hC hD hE SCS nCS aA aB aC rfl rfl rfl (fun q => pB (eB.mp q)) (fun q => pC (eC.mp q)) (by rw [if_neg pC, if_neg pB]; split <;> decide)
  · skip
    by_cases pD : cD = (47 : Int32)
    · exact rm0_11 l s _ hw tables_1 i0 i1 i2 i3 i4 i5 cA cB cC cD cE iCS (((if cA = (47 : Int32) then (0 : Int32) else (-1 : Int32)))) (((if cB = (47 : Int32) then (1 : Int32) else ((if cA = (47 : Int32) then (0 : Int32) else (-1 : Int32)))))) (((if cC = (47 : Int32) then (2 : Int32) else ((if cB = (47 : Int32) then (1 : Int32) else ((if cA = (47 : Int32) then (0 : Int32) else (-1 : Int32)))))))) (((if cD = (47 : Int32) then (3 : Int32) else ((if cC = (47 : Int32) then (2 : Int32) else ((if cB = (47 : Int32) then (1 : Int32) else ((if cA = (47 : Int32) then (0 : Int32) else (-1 : Int32)))))))))) vFM _ _ (Old.start s) ck hA hB hC hD hE SCS nCS aA aB aC aD rfl rfl rfl rfl (eD.mpr pD) SFM hFM (by rw [if_pos pD])
    by_cases pC : cC = (47 : Int32)
    · exact rm0_10 l s _ hw tables_1 i0 i1 i2 i3 i4 i5 cA cB cC cD cE iCS (((if cA = (47 : Int32) then (0 : Int32) else (-1 : Int32)))) (((if cB = (47 : Int32) then (1 : Int32) else ((if cA = (47 : Int32) then (0 : Int32) else (-1 : Int32)))))) (((if cC = (47 : Int32) then (2 : Int32) else ((if cB = (47 : Int32) then (1 : Int32) else ((if cA = (47 : Int32) then (0 : Int32) else (-1 : Int32)))))))) (((if cD = (47 : Int32) then (3 : Int32) else ((if cC = (47 : Int32) then (2 : Int32) else ((if cB = (47 : Int32) then (1 : Int32) else ((if cA = (47 : Int32) then (0 : Int32) else (-1 : Int32)))))))))) vFM _ _ (Old.start s) ck hA hB hC hD hE SCS nCS aA aB aC aD rfl rfl rfl rfl (fun q => pD (eD.mp q)) (eC.mpr pC) SFM hFM (by rw [if_neg pD, if_pos pC])
    by_cases pB : cB = (47 : Int32)
    · exact rm0_9 l s _ hw tables_1 i0 i1 i2 i3 i4 i5 cA cB cC cD cE iCS (((if cA = (47 : Int32) then (0 : Int32) else (-1 : Int32)))) (((if cB = (47 : Int32) then (1 : Int32) else ((if cA = (47 : Int32) then (0 : Int32) else (-1 : Int32)))))) (((if cC = (47 : Int32) then (2 : Int32) else ((if cB = (47 : Int32) then (1 : Int32) else ((if cA = (47 : Int32) then (0 : Int32) else (-1 : Int32)))))))) (((if cD = (47 : Int32) then (3 : Int32) else ((if cC = (47 : Int32) then (2 : Int32) else ((if cB = (47 : Int32) then (1 : Int32) else ((if cA = (47 : Int32) then (0 : Int32) else (-1 : Int32)))))))))) vFM _ _ (Old.start s) ck hA hB hC hD hE SCS nCS aA aB aC aD rfl rfl rfl rfl (fun q => pC (eC.mp q)) (fun q => pD (eD.mp q)) (eB.mpr pB) SFM hFM (by rw [if_neg pD, if_neg pC, if_pos pB])
    exact rm0_8 l s _ hw tables_1 i0 i1 i2 i3 i4 i5 cA cB cC cD cE iCS (((if cA = (47 : Int32) then (0 : Int32) else (-1 : Int32)))) (((if cB = (47 : Int32) then (1 : Int32) else ((if cA = (47 : Int32) then (0 : Int32) else (-1 : Int32)))))) (((if cC = (47 : Int32) then (2 : Int32) else ((if cB = (47 : Int32) then (1 : Int32) else ((if cA = (47 : Int32) then (0 : Int32) else (-1 : Int32)))))))) (((if cD = (47 : Int32) then (3 : Int32) else ((if cC = (47 : Int32) then (2 : Int32) else ((if cB = (47 : Int32) then (1 : Int32) else ((if cA = (47 : Int32) then (0 : Int32) else (-1 : Int32)))))))))) _ _ (Old.start s) ck hA hB hC hD hE SCS nCS aA aB aC aD rfl rfl rfl rfl (fun q => pB (eB.mp q)) (fun q => pC (eC.mp q)) (fun q => pD (eD.mp q)) (by rw [if_neg pD, if_neg pC, if_neg pB]; split <;> decide)
  · skip
    by_cases pE : cE = (47 : Int32)
    · exact rm0_16 l s _ hw tables_1 i0 i1 i2 i3 i4 i5 cA cB cC cD cE iCS (((if cA = (47 : Int32) then (0 : Int32) else (-1 : Int32)))) (((if cB = (47 : Int32) then (1 : Int32) else ((if cA = (47 : Int32) then (0 : Int32) else (-1 : Int32)))))) (((if cC = (47 : Int32) then (2 : Int32) else ((if cB = (47 : Int32) then (1 : Int32) else ((if cA = (47 : Int32) then (0 : Int32) else (-1 : Int32)))))))) (((if cD = (47 : Int32) then (3 : Int32) else ((if cC = (47 : Int32) then (2 : Int32) else ((if cB = (47 : Int32) then (1 : Int32) else ((if cA = (47 : Int32) then (0 : Int32) else (-1 : Int32)))))))))) (((if cE = (47 : Int32) then (4 : Int32) else ((if cD = (47 : Int32) then (3 : Int32) else ((if cC = (47 : Int32) then (2 : Int32) else ((if cB = (47 : Int32) then (1 : Int32) else ((if cA = (47 : Int32) then (0 : Int32) else (-1 : Int32)))))))))))) vFM _ _ (Old.start s) ck hA hB hC hD hE SCS nCS aA aB aC aD aE rfl rfl rfl rfl rfl (eE.mpr pE) SFM hFM (by rw [if_pos pE])
    by_cases pD : cD = (47 : Int32)
    · exact rm0_15 l s _ hw tables_1 i0 i1 i2 i3 i4 i5 cA cB cC cD cE iCS (((if cA = (47 : Int32) then (0 : Int32) else (-1 : Int32)))) (((if cB = (47 : Int32) then (1 : Int32) else ((if cA = (47 : Int32) then (0 : Int32) else (-1 : Int32)))))) (((if cC = (47 : Int32) then (2 : Int32) else ((if cB = (47 : Int32) then (1 : Int32) else ((if cA = (47 : Int32) then (0 : Int32) else (-1 : Int32)))))))) (((if cD = (47 : Int32) then (3 : Int32) else ((if cC = (47 : Int32) then (2 : Int32) else ((if cB = (47 : Int32) then (1 : Int32) else ((if cA = (47 : Int32) then (0 : Int32) else (-1 : Int32)))))))))) (((if cE = (47 : Int32) then (4 : Int32) else ((if cD = (47 : Int32) then (3 : Int32) else ((if cC = (47 : Int32) then (2 : Int32) else ((if cB = (47 : Int32) then (1 : Int32) else ((if cA = (47 : Int32) then (0 : Int32) else (-1 : Int32)))))))))))) vFM _ _ (Old.start s) ck hA hB hC hD hE SCS nCS aA aB aC aD aE rfl rfl rfl rfl rfl (fun q => pE (eE.mp q)) (eD.mpr pD) SFM hFM (by rw [if_neg pE, if_pos pD])
    by_cases pC : cC = (47 : Int32)
    · exact rm0_14 l s _ hw tables_1 i0 i1 i2 i3 i4 i5 cA cB cC cD cE iCS (((if cA = (47 : Int32) then (0 : Int32) else (-1 : Int32)))) (((if cB = (47 : Int32) then (1 : Int32) else ((if cA = (47 : Int32) then (0 : Int32) else (-1 : Int32)))))) (((if cC = (47 : Int32) then (2 : Int32) else ((if cB = (47 : Int32) then (1 : Int32) else ((if cA = (47 : Int32) then (0 : Int32) else (-1 : Int32)))))))) (((if cD = (47 : Int32) then (3 : Int32) else ((if cC = (47 : Int32) then (2 : Int32) else ((if cB = (47 : Int32) then (1 : Int32) else ((if cA = (47 : Int32) then (0 : Int32) else (-1 : Int32)))))))))) (((if cE = (47 : Int32) then (4 : Int32) else ((if cD = (47 : Int32) then (3 : Int32) else ((if cC = (47 : Int32) then (2 : Int32) else ((if cB = (47 : Int32) then (1 : Int32) else ((if cA = (47 : Int32) then (0 : Int32) else (-1 : Int32)))))))))))) vFM _ _ (Old.start s) ck hA hB hC hD hE SCS nCS aA aB aC aD aE rfl rfl rfl rfl rfl (fun q => pD (eD.mp q)) (fun q => pE (eE.mp q)) (eC.mpr pC) SFM hFM (by rw [if_neg pE, if_neg pD, if_pos pC])
    by_cases pB : cB = (47 : Int32)
    · exact rm0_13 l s _ hw tables_1 i0 i1 i2 i3 i4 i5 cA cB cC cD cE iCS (((if cA = (47 : Int32) then (0 : Int32) else (-1 : Int32)))) (((if cB = (47 : Int32) then (1 : Int32) else ((if cA = (47 : Int32) then (0 : Int32) else (-1 : Int32)))))) (((if cC = (47 : Int32) then (2 : Int32) else ((if cB = (47 : Int32) then (1 : Int32) else ((if cA = (47 : Int32) then (0 : Int32) else (-1 : Int32)))))))) (((if cD = (47 : Int32) then (3 : Int32) else ((if cC = (47 : Int32) then (2 : Int32) else ((if cB = (47 : Int32) then (1 : Int32) else ((if cA = (47 : Int32) then (0 : Int32) else (-1 : Int32)))))))))) (((if cE = (47 : Int32) then (4 : Int32) else ((if cD = (47 : Int32) then (3 : Int32) else ((if cC = (47 : Int32) then (2 : Int32) else ((if cB = (47 : Int32) then (1 : Int32) else ((if cA = (47 : Int32) then (0 : Int32) else (-1 : Int32)))))))))))) vFM _ _ (Old.start s) ck hA hB hC hD hE SCS nCS aA aB aC aD aE rfl rfl rfl rfl rfl (fun q => pC (eC.mp q)) (fun q => pD (eD.mp q)) (fun q => pE (eE.mp q)) (eB.mpr pB) SFM hFM (by rw [if_neg pE, if_neg pD, if_neg pC, if_pos pB])
    exact rm0_12 l s _ hw tables_1 i0 i1 i2 i3 i4 i5 cA cB cC cD cE iCS (((if cA = (47 : Int32) then (0 : Int32) else (-1 : Int32)))) (((if cB = (47 : Int32) then (1 : Int32) else ((if cA = (47 : Int32) then (0 : Int32) else (-1 : Int32)))))) (((if cC = (47 : Int32) then (2 : Int32) else ((if cB = (47 : Int32) then (1 : Int32) else ((if cA = (47 : Int32) then (0 : Int32) else (-1 : Int32)))))))) (((if cD = (47 : Int32) then (3 : Int32) else ((if cC = (47 : Int32) then (2 : Int32) else ((if cB = (47 : Int32) then (1 : Int32) else ((if cA = (47 : Int32) then (0 : Int32) else (-1 : Int32)))))))))) (((if cE = (47 : Int32) then (4 : Int32) else ((if cD = (47 : Int32) then (3 : Int32) else ((if cC = (47 : Int32) then (2 : Int32) else ((if cB = (47 : Int32) then (1 : Int32) else ((if cA = (47 : Int32) then (0 : Int32) else (-1 : Int32)))))))))))) _ _ (Old.start s) ck hA hB hC hD hE SCS nCS aA aB aC aD aE rfl rfl rfl rfl rfl (fun q => pB (eB.mp q)) (fun q => pC (eC.mp q)) (fun q => pD (eD.mp q)) (fun q => pE (eE.mp q)) (by rw [if_neg pE, if_neg pD, if_neg pC, if_neg pB]; split <;> decide)
theorem main_1_1 : Claimed_1_1 := comes_1 fun _ _ _ _ _ _ h hF => ⟨h.1, hF⟩
theorem main_1_2 : Claimed_1_2 := comes_1 fun _ _ _ _ _ _ h hF => ⟨h.2.1, hF⟩
end Jvm.Pilot.@@N@@
namespace Jvm.Pilot.@@N@@
open Jvm Jvm.ClassFile Sem Op Lib Jvm.Free Jvm.Stand Jvm.Pilot.@@N@@.Jvm.D
set_option maxRecDepth 65536
/-! MADE BY PROGRAM (witnessworld.py) out of the Statement's table words and the real class files: 25 classes; the members and pool entries that the words name. The judged class is class 1, her method 3. -/
namespace start1
open Jvm.ClassFile
def u (s : String) : CpInfo := .utf8 (stringToUtf16 s)
/-- a pool by its gaps: so many unusable entries, then the entry; so many at the end -/
def gap : Nat → List CpInfo → List CpInfo
  | 0, r => r
  | n + 1, r => .unusable :: gap n r
def poolList (es : List (Nat × CpInfo)) (last : Nat) : List CpInfo := es.foldr (fun e r => gap e.1 (e.2 :: r)) (gap last [])
def pool (es : List (Nat × CpInfo)) (last : Nat) : Array CpInfo := ⟨poolList es last⟩
def fileOf (pool : Array CpInfo) (this : Nat) (attrs : Array Attribute := #[]) (ms : Array MethodInfo := #[]) (fl : Nat := 33) (sup : Nat := 0) (ifs : Array Nat := #[]) (fds : Array FieldInfo := #[]) : ClassFile where
  minorVersion := 0
  majorVersion := 65
  constantPool := pool
  accessFlags := fl
  thisClass := this
  superClass := sup
  interfaces := ifs
  fields := fds
  methods := ms
  attributes := attrs
def plain (name : String) (sup : Option ClassId) : Class where
  name := name
  kind := .ordinary
  loader := none
  accessFlags := 33
  super := sup
  interfaces := #[]
  cf := none
  fields := #[]
  methods := #[]
  instanceTypes := #[]
  staticTypes := #[]
  resolved := #[]
  callSites := []
  init := .initialized
  statics := none
  mirror := none

def pool0 : Array CpInfo := pool [(5, u "<init>"), (0, u "()V"), (1, .class_ 10), (1, u "java/lang/Object")] 113

def k0c0 : Code := ⟨0, 1, object_method_1_code, #[], #[]⟩
def k0m0 : Method := ⟨"<init>", "()V", ⟨[], none⟩, 1, some k0c0⟩
/-- java/lang/Object -/
def k0 : Class := { plain "java/lang/Object" none with
  cf := some (fileOf pool0 8 #[] #[⟨1, 5, 6, #[]⟩] 33 0 #[] #[])
  methods := #[k0m0]
  resolved := Array.replicate 124 none }

def pool1 : Array CpInfo := pool [(2, .class_ 4), (1, u "java/lang/Object"), (0, u "<init>"), (0, u "()V"), (0, .class_ 8), (0, u "java/lang/String"), (0, .methodref 7 10), (0, .nameAndType 5 11), (0, u "([C)V"), (0, .integer 2147483647), (0, .methodref 14 15), (0, .class_ 16), (0, .nameAndType 17 18), (0, u "com/example/nearmiss/nearmiss/ElementParentPathPinLaw"), (0, u "ch"), (0, u "(I)C"), (0, .methodref 14 20), (0, .nameAndType 21 22), (0, u "mk"), (0, u "(ICCCCC)Ljava/lang/String;"), (0, .methodref 24 25), (0, .class_ 26), (0, .nameAndType 27 28), (0, u "com/example/nearmiss/nearmiss/Element"), (0, u "parentPath"), (0, u "(Ljava/lang/String;)Ljava/lang/String;"), (0, .methodref 7 30), (0, .nameAndType 31 32), (0, u "equals"), (0, u "(Ljava/lang/Object;)Z"), (3, u "law"), (0, u "(IIIIII)Z")] 2

def k1m0 : Method := ⟨"<init>", "()V", ⟨[], none⟩, 1, none⟩
def k1c1 : Code := ⟨2, 1, method_2_code, #[], #[]⟩
def k1m1 : Method := ⟨"ch", "(I)C", ⟨[.int], some .char⟩, 10, some k1c1⟩
def k1c2 : Code := ⟨6, 6, method_3_code, #[], #[]⟩
def k1m2 : Method := ⟨"mk", "(ICCCCC)Ljava/lang/String;", ⟨[.int, .char, .char, .char, .char, .char], some (.object "java/lang/String")⟩, 10, some k1c2⟩
def k1c3 : Code := ⟨6, 16, code, #[], #[]⟩
def k1m3 : Method := ⟨"law", "(IIIIII)Z", ⟨[.int, .int, .int, .int, .int, .int], some .boolean⟩, 9, some k1c3⟩
/-- com/example/nearmiss/nearmiss/ElementParentPathPinLaw -/
def k1 : Class := { plain "com/example/nearmiss/nearmiss/ElementParentPathPinLaw" (some 0) with
  accessFlags := 49
  cf := some (fileOf pool1 14 #[] #[⟨1, 5, 6, #[]⟩, ⟨10, 17, 18, #[]⟩, ⟨10, 21, 22, #[]⟩, ⟨9, 36, 37, #[]⟩] 49 2 #[] #[])
  methods := #[k1m0, k1m1, k1m2, k1m3]
  resolved := Array.replicate 40 none }

def pool2 : Array CpInfo := pool [(1, .class_ 2), (0, u "java/io/Serializable"), (0, .class_ 4), (0, u "java/lang/Object")] 2

/-- java/io/Serializable -/
def k2 : Class := { plain "java/io/Serializable" (some 0) with
  accessFlags := 1537
  cf := some (fileOf pool2 1 #[] #[] 1537 3 #[] #[])
  resolved := Array.replicate 7 none }

def pool3 : Array CpInfo := pool [(1, .class_ 2), (0, u "java/lang/Comparable"), (0, .class_ 4), (0, u "java/lang/Object")] 7

/-- java/lang/Comparable -/
def k3 : Class := { plain "java/lang/Comparable" (some 0) with
  accessFlags := 1537
  cf := some (fileOf pool3 1 #[] #[] 1537 3 #[] #[])
  resolved := Array.replicate 12 none }

def pool4 : Array CpInfo := pool [(2, .class_ 4), (1, u "java/lang/CharSequence"), (42, .class_ 48), (0, u "java/lang/CharSequence$1CodePointIterator"), (10, .class_ 60), (0, u "java/lang/CharSequence$1CharIterator"), (5, .class_ 67), (0, u "java/lang/Object")] 63

/-- java/lang/CharSequence -/
def k4 : Class := { plain "java/lang/CharSequence" (some 0) with
  accessFlags := 1537
  cf := some (fileOf pool4 2 #[.nestMembers #[47, 59]] #[] 1537 66 #[] #[])
  resolved := Array.replicate 131 none }

def pool5 : Array CpInfo := pool [(1, .class_ 2), (0, u "java/lang/constant/Constable"), (0, .class_ 4), (0, u "java/lang/Object")] 6

/-- java/lang/constant/Constable -/
def k5 : Class := { plain "java/lang/constant/Constable" (some 0) with
  accessFlags := 1537
  cf := some (fileOf pool5 1 #[] #[] 1537 3 #[] #[])
  resolved := Array.replicate 11 none }

def pool6 : Array CpInfo := pool [(1, .class_ 2), (0, u "java/lang/constant/ConstantDesc"), (0, .class_ 4), (0, u "java/lang/Object")] 32

/-- java/lang/constant/ConstantDesc -/
def k6 : Class := { plain "java/lang/constant/ConstantDesc" (some 0) with
  accessFlags := 1537
  cf := some (fileOf pool6 1 #[] #[] 1537 3 #[] #[])
  resolved := Array.replicate 37 none }

def pool7 : Array CpInfo := pool [(1, .methodref 2 3), (0, .class_ 4), (0, .nameAndType 5 6), (0, u "java/lang/Object"), (0, u "<init>"), (0, u "()V"), (0, .string 8), (0, u ""), (0, .fieldref 10 11), (0, .class_ 12), (0, .nameAndType 13 14), (0, u "java/lang/String"), (0, u "value"), (0, u "[B"), (0, .fieldref 10 16), (0, .nameAndType 17 18), (0, u "coder"), (0, u "B"), (2, u "hash"), (0, u "I"), (2, u "hashIsZero"), (0, u "Z"), (0, .methodref 10 28), (0, .nameAndType 5 29), (0, u "([CIILjava/lang/Void;)V"), (8, .fieldref 10 39), (0, .nameAndType 40 26), (0, u "COMPACT_STRINGS"), (1, .class_ 44), (1, u "java/lang/StringUTF16"), (0, u "compress"), (1, .methodref 42 48), (0, .nameAndType 49 50), (0, u "coderFromArrayLen"), (0, u "([BI)B"), (46, u "([BII)I"), (9, .class_ 109), (1, u "java/lang/StringLatin1"), (32, u "()Z"), (34, .methodref 42 178), (0, .nameAndType 45 179), (0, u "([CII)[B"), (31, u "([BB)V"), (122, u "()I"), (0, .methodref 10 336), (0, .nameAndType 17 337), (0, u "()B"), (154, .methodref 10 493), (0, .nameAndType 494 142), (0, u "isLatin1"), (10, .methodref 10 506), (0, .nameAndType 507 334), (0, u "length"), (5, u "checkFromToIndex"), (7, .methodref 10 522), (0, .nameAndType 523 524), (0, u "checkBoundsBeginEnd"), (0, u "(III)V"), (16, .methodref 107 542), (0, .nameAndType 543 544), (0, u "equals"), (0, u "([B[B)Z"), (28, u "(Ljava/lang/Object;)Z"), (1, .class_ 576), (0, u "java/lang/CharSequence"), (22, u "CASE_INSENSITIVE_ORDER"), (0, u "Ljava/util/Comparator;"), (35, u "(II)I"), (4, .methodref 10 642), (0, .nameAndType 643 636), (0, u "lastIndexOf"), (0, .methodref 107 645), (0, .nameAndType 643 97), (37, u "substring"), (0, u "(II)Ljava/lang/String;"), (0, .methodref 107 686), (0, .nameAndType 687 688), (0, u "newString"), (0, u "([BII)Ljava/lang/String;"), (76, u "(I)I"), (244, u "([C)V"), (42, .fieldref 1054 1055), (0, .class_ 1056), (0, .nameAndType 1057 1058), (0, u "jdk/internal/util/Preconditions"), (0, u "SIOOBE_FORMATTER"), (0, u "Ljava/util/function/BiFunction;"), (3, .methodref 1054 1063), (0, .nameAndType 513 1064), (0, u "(IIILjava/util/function/BiFunction;)I"), (36, u "serialPersistentFields"), (0, u "[Ljava/io/ObjectStreamField;"), (0, .class_ 1104), (0, u "java/lang/String$CaseInsensitiveComparator"), (1, .class_ 1107), (0, u "java/io/Serializable"), (0, .class_ 1109), (0, u "java/lang/Comparable"), (0, .class_ 1111), (0, u "java/lang/constant/Constable"), (0, .class_ 1113), (0, u "java/lang/constant/ConstantDesc"), (2, u "serialVersionUID"), (0, u "J"), (3, u "REPL"), (0, u "C"), (2, u "LATIN1"), (1, u "UTF16")] 323

def k7m0 : Method := ⟨"<init>", "()V", ⟨[], none⟩, 1, none⟩
def k7c1 : Code := ⟨5, 2, jdk_42_method_3_code, #[], #[]⟩
def k7m1 : Method := ⟨"<init>", "([C)V", ⟨[(.array .char)], none⟩, 1, some k7c1⟩
def k7c2 : Code := ⟨2, 1, jdk_42_method_54_code, #[], #[]⟩
def k7m2 : Method := ⟨"length", "()I", ⟨[], some .int⟩, 1, some k7c2⟩
def k7c3 : Code := ⟨2, 3, jdk_42_method_66_code, #[], #[]⟩
def k7m3 : Method := ⟨"equals", "(Ljava/lang/Object;)Z", ⟨[(.object "java/lang/Object")], some .boolean⟩, 1, some k7c3⟩
def k7c4 : Code := ⟨4, 2, jdk_42_method_82_code, #[], #[]⟩
def k7m4 : Method := ⟨"lastIndexOf", "(I)I", ⟨[.int], some .int⟩, 1, some k7c4⟩
def k7c5 : Code := ⟨3, 3, jdk_42_method_83_code, #[], #[]⟩
def k7m5 : Method := ⟨"lastIndexOf", "(II)I", ⟨[.int, .int], some .int⟩, 1, some k7c5⟩
def k7c6 : Code := ⟨3, 5, jdk_42_method_92_code, #[], #[]⟩
def k7m6 : Method := ⟨"substring", "(II)Ljava/lang/String;", ⟨[.int, .int], some (.object "java/lang/String")⟩, 1, some k7c6⟩
def k7c7 : Code := ⟨4, 6, jdk_42_method_149_code, #[], #[]⟩
def k7m7 : Method := ⟨"<init>", "([CIILjava/lang/Void;)V", ⟨[(.array .char), .int, .int, (.object "java/lang/Void")], none⟩, 2, some k7c7⟩
def k7c8 : Code := ⟨2, 3, jdk_42_method_151_code, #[], #[]⟩
def k7m8 : Method := ⟨"<init>", "([BB)V", ⟨[(.array .byte), .byte], none⟩, 0, some k7c8⟩
def k7c9 : Code := ⟨1, 1, jdk_42_method_152_code, #[], #[]⟩
def k7m9 : Method := ⟨"coder", "()B", ⟨[], some .byte⟩, 0, some k7c9⟩
def k7c10 : Code := ⟨1, 1, jdk_42_method_154_code, #[], #[]⟩
def k7m10 : Method := ⟨"isLatin1", "()Z", ⟨[], some .boolean⟩, 0, some k7c10⟩
def k7c11 : Code := ⟨4, 3, jdk_42_method_158_code, #[], #[]⟩
def k7m11 : Method := ⟨"checkBoundsBeginEnd", "(III)V", ⟨[.int, .int, .int], none⟩, 8, some k7c11⟩
/-- java/lang/String -/
def k7 : Class := { plain "java/lang/String" (some 0) with
  accessFlags := 49
  interfaces := #[2, 3, 4, 5, 6]
  cf := some (fileOf pool7 10 #[.nestMembers #[1103]] #[⟨1, 5, 6, #[]⟩, ⟨1, 5, 1010, #[]⟩, ⟨1, 507, 334, #[]⟩, ⟨1, 543, 573, #[]⟩, ⟨1, 643, 765, #[]⟩, ⟨1, 643, 636, #[]⟩, ⟨1, 683, 684, #[]⟩, ⟨2, 5, 29, #[]⟩, ⟨0, 5, 211, #[]⟩, ⟨0, 17, 337, #[]⟩, ⟨0, 494, 142, #[]⟩, ⟨8, 523, 524, #[]⟩] 49 2 #[1106, 1108, 575, 1110, 1112] #[⟨18, 13, 14, #[]⟩, ⟨18, 17, 18, #[]⟩, ⟨2, 21, 22, #[]⟩, ⟨2, 25, 26, #[]⟩, ⟨26, 1116, 1117, #[]⟩, ⟨24, 40, 26, #[]⟩, ⟨26, 1101, 1102, #[]⟩, ⟨26, 1121, 1122, #[]⟩, ⟨25, 599, 600, #[]⟩, ⟨24, 1125, 18, #[]⟩, ⟨24, 1127, 18, #[]⟩])
  fields := #[⟨"value", (.array .byte), 18, 0, 0⟩, ⟨"coder", .byte, 18, 1, 0⟩, ⟨"hash", .int, 2, 2, 0⟩, ⟨"hashIsZero", .boolean, 2, 3, 0⟩, ⟨"serialVersionUID", .long, 26, 0, 0⟩, ⟨"COMPACT_STRINGS", .boolean, 24, 1, 0⟩, ⟨"serialPersistentFields", (.array (.object "java/io/ObjectStreamField")), 26, 2, 0⟩, ⟨"REPL", .char, 26, 3, 0⟩, ⟨"CASE_INSENSITIVE_ORDER", (.object "java/util/Comparator"), 25, 4, 0⟩, ⟨"LATIN1", .byte, 24, 5, 0⟩, ⟨"UTF16", .byte, 24, 6, 0⟩]
  methods := #[k7m0, k7m1, k7m2, k7m3, k7m4, k7m5, k7m6, k7m7, k7m8, k7m9, k7m10, k7m11]
  instanceTypes := #[(.array .byte), .byte, .int, .boolean]
  staticTypes := #[.long, .boolean, (.array (.object "java/io/ObjectStreamField")), .char, (.object "java/util/Comparator"), .byte, .byte]
  resolved := Array.replicate 1451 none
  statics := some 0 }

def pool8 : Array CpInfo := pool [(2, .class_ 4), (1, u "java/lang/Object"), (0, u "<init>"), (0, u "()V"), (0, .class_ 8), (0, u "java/lang/Record")] 13

def k8m0 : Method := ⟨"<init>", "()V", ⟨[], none⟩, 4, none⟩
/-- java/lang/Record -/
def k8 : Class := { plain "java/lang/Record" (some 0) with
  accessFlags := 1057
  cf := some (fileOf pool8 7 #[] #[⟨4, 5, 6, #[]⟩] 1057 2 #[] #[])
  methods := #[k8m0]
  resolved := Array.replicate 22 none }

def pool9 : Array CpInfo := pool [(2, .class_ 4), (1, u "com/example/nearmiss/nearmiss/Answer"), (14, .class_ 20), (0, u "java/lang/Object")] 16

/-- com/example/nearmiss/nearmiss/Answer -/
def k9 : Class := { plain "com/example/nearmiss/nearmiss/Answer" (some 0) with
  accessFlags := 1536
  cf := some (fileOf pool9 2 #[] #[] 1536 19 #[] #[])
  resolved := Array.replicate 37 none }

def pool10 : Array CpInfo := pool [(2, .class_ 4), (1, u "java/lang/Record"), (3, .class_ 10), (1, u "com/example/nearmiss/nearmiss/Element"), (0, u "path"), (0, u "Ljava/lang/String;"), (2, u "start"), (0, u "I"), (2, u "end"), (1, .class_ 23), (1, u "java/lang/String"), (2, .methodref 21 27), (0, .nameAndType 28 29), (0, u "lastIndexOf"), (0, u "(I)I"), (0, .methodref 21 31), (0, .nameAndType 32 33), (0, u "substring"), (0, u "(II)Ljava/lang/String;"), (2, u "parentPath"), (0, u "(Ljava/lang/String;)Ljava/lang/String;"), (18, .class_ 57), (0, u "com/example/nearmiss/nearmiss/Answer")] 35

def k10c0 : Code := ⟨3, 2, prog_6_method_4_code, #[], #[]⟩
def k10m0 : Method := ⟨"parentPath", "(Ljava/lang/String;)Ljava/lang/String;", ⟨[(.object "java/lang/String")], some (.object "java/lang/String")⟩, 8, some k10c0⟩
/-- com/example/nearmiss/nearmiss/Element -/
def k10 : Class := { plain "com/example/nearmiss/nearmiss/Element" (some 8) with
  accessFlags := 48
  interfaces := #[9]
  cf := some (fileOf pool10 8 #[] #[⟨8, 36, 37, #[]⟩] 48 2 #[56] #[⟨18, 11, 12, #[]⟩, ⟨18, 15, 16, #[]⟩, ⟨18, 19, 16, #[]⟩])
  fields := #[⟨"path", (.object "java/lang/String"), 18, 0, 0⟩, ⟨"start", .int, 18, 1, 0⟩, ⟨"end", .int, 18, 2, 0⟩]
  methods := #[k10m0]
  instanceTypes := #[(.object "java/lang/String"), .int, .int]
  resolved := Array.replicate 93 none }

def pool11 : Array CpInfo := pool [(1, .class_ 2), (0, u "java/lang/String"), (1, .class_ 6), (1, u "java/lang/Object"), (0, u "<init>"), (0, u "()V"), (5, .class_ 16), (1, u "java/lang/StringLatin1"), (21, .methodref 39 40), (0, .class_ 41), (0, .nameAndType 42 43), (0, u "java/lang/Math"), (0, u "min"), (0, u "(II)I"), (44, .methodref 14 89), (0, .nameAndType 90 91), (0, u "canEncode"), (0, u "(I)Z"), (20, .methodref 1 113), (0, .nameAndType 7 114), (0, u "([BB)V"), (6, u "$assertionsDisabled"), (0, u "Z"), (8, .class_ 133), (1, u "java/util/Arrays"), (62, u "newString"), (0, u "([BII)Ljava/lang/String;"), (23, .class_ 223), (1, u "java/lang/StringLatin1$LinesSpliterator"), (8, .methodref 131 233), (0, .nameAndType 234 235), (0, u "copyOfRange"), (0, u "([BII)[B"), (25, u "([BII)I"), (19, u "equals"), (0, u "([B[B)Z"), (26, u "lastIndexOf"), (80, .class_ 391), (0, u "java/lang/StringLatin1$CharsSpliterator")] 3

def k11m0 : Method := ⟨"<init>", "()V", ⟨[], none⟩, 0, none⟩
def k11c1 : Code := ⟨2, 1, jdk_43_method_4_code, #[], #[]⟩
def k11m1 : Method := ⟨"canEncode", "(I)Z", ⟨[.int], some .boolean⟩, 9, some k11c1⟩
def k11c2 : Code := ⟨3, 3, jdk_43_method_13_code, #[], #[]⟩
def k11m2 : Method := ⟨"equals", "([B[B)Z", ⟨[(.array .byte), (.array .byte)], some .boolean⟩, 9, some k11c2⟩
def k11c3 : Code := ⟨3, 4, jdk_43_method_27_code, #[], #[]⟩
def k11m3 : Method := ⟨"lastIndexOf", "([BII)I", ⟨[(.array .byte), .int, .int], some .int⟩, 9, some k11c3⟩
def k11c4 : Code := ⟨6, 3, jdk_43_method_47_code, #[], #[]⟩
def k11m4 : Method := ⟨"newString", "([BII)Ljava/lang/String;", ⟨[(.array .byte), .int, .int], some (.object "java/lang/String")⟩, 9, some k11c4⟩
/-- java/lang/StringLatin1 -/
def k11 : Class := { plain "java/lang/StringLatin1" (some 0) with
  accessFlags := 48
  cf := some (fileOf pool11 14 #[.nestMembers #[390, 221]] #[⟨0, 7, 8, #[]⟩, ⟨9, 90, 91, #[]⟩, ⟨9, 281, 282, #[]⟩, ⟨9, 309, 261, #[]⟩, ⟨9, 196, 197, #[]⟩] 48 4 #[] #[⟨4120, 121, 122, #[]⟩])
  fields := #[⟨"$assertionsDisabled", .boolean, 4120, 0, 0⟩]
  methods := #[k11m0, k11m1, k11m2, k11m3, k11m4]
  staticTypes := #[.boolean]
  resolved := Array.replicate 395 none }

def pool12 : Array CpInfo := pool [(1, .class_ 2), (0, u "java/lang/Math"), (1, .class_ 6), (1, u "java/lang/Object"), (0, u "<init>"), (0, u "()V"), (89, .class_ 100), (1, u "java/lang/Math$RandomNumberGeneratorHolder"), (71, u "negativeZeroFloatBits"), (0, u "J"), (2, u "negativeZeroDoubleBits"), (24, u "min"), (43, u "$assertionsDisabled"), (0, u "Z"), (88, u "(II)I"), (2, u "twoToTheDoubleScaleDown"), (0, u "D"), (4, u "twoToTheDoubleScaleUp"), (9, u "E"), (3, u "PI"), (2, u "TAU"), (2, u "DEGREES_TO_RADIANS"), (0, u "RADIANS_TO_DEGREES")] 94

def k12m0 : Method := ⟨"<init>", "()V", ⟨[], none⟩, 2, none⟩
def k12c1 : Code := ⟨2, 2, jdk_29_method_69_code, #[], #[]⟩
def k12m1 : Method := ⟨"min", "(II)I", ⟨[.int, .int], some .int⟩, 9, some k12c1⟩
/-- java/lang/Math -/
def k12 : Class := { plain "java/lang/Math" (some 0) with
  accessFlags := 49
  cf := some (fileOf pool12 1 #[.nestMembers #[98]] #[⟨2, 7, 8, #[]⟩, ⟨9, 201, 335, #[]⟩] 49 4 #[] #[⟨25, 354, 339, #[]⟩, ⟨25, 358, 339, #[]⟩, ⟨25, 361, 339, #[]⟩, ⟨26, 364, 339, #[]⟩, ⟨26, 365, 339, #[]⟩, ⟨26, 172, 173, #[]⟩, ⟨26, 176, 173, #[]⟩, ⟨8, 344, 339, #[]⟩, ⟨8, 338, 339, #[]⟩, ⟨4120, 245, 246, #[]⟩])
  fields := #[⟨"E", .double, 25, 0, 0⟩, ⟨"PI", .double, 25, 1, 0⟩, ⟨"TAU", .double, 25, 2, 0⟩, ⟨"DEGREES_TO_RADIANS", .double, 26, 3, 0⟩, ⟨"RADIANS_TO_DEGREES", .double, 26, 4, 0⟩, ⟨"negativeZeroFloatBits", .long, 26, 5, 0⟩, ⟨"negativeZeroDoubleBits", .long, 26, 6, 0⟩, ⟨"twoToTheDoubleScaleUp", .double, 8, 7, 0⟩, ⟨"twoToTheDoubleScaleDown", .double, 8, 8, 0⟩, ⟨"$assertionsDisabled", .boolean, 4120, 9, 0⟩]
  methods := #[k12m0, k12m1]
  staticTypes := #[.double, .double, .double, .double, .double, .long, .long, .double, .double, .boolean]
  resolved := Array.replicate 460 none }

def pool13 : Array CpInfo := pool [(6, .class_ 8), (1, u "java/lang/Object"), (0, u "<init>"), (0, u "()V"), (1, .class_ 14), (1, u "java/lang/StringUTF16"), (31, u "$assertionsDisabled"), (0, u "Z"), (13, u "HI_BYTE_SHIFT"), (0, u "I"), (2, u "LO_BYTE_SHIFT"), (49, .methodref 12 116), (0, .nameAndType 117 118), (0, u "compress"), (0, u "([CI[BII)I"), (3, u "([CII)[B"), (138, u "coderFromArrayLen"), (0, u "([BI)B"), (106, .class_ 371), (1, u "java/lang/StringUTF16$LinesSpliterator"), (58, u "MAX_LENGTH"), (196, .class_ 628), (0, u "java/lang/StringUTF16$CodePointsSpliterator"), (0, .class_ 630), (0, u "java/lang/StringUTF16$CharsSpliterator")] 4

def k13m0 : Method := ⟨"<init>", "()V", ⟨[], none⟩, 0, none⟩
def k13c1 : Code := ⟨2, 2, jdk_52_method_15_code, #[], #[]⟩
def k13m1 : Method := ⟨"coderFromArrayLen", "([BI)B", ⟨[(.array .byte), .int], some .byte⟩, 8, some k13c1⟩
def k13c2 : Code := ⟨5, 6, jdk_52_method_16_code, #[], #[]⟩
def k13m2 : Method := ⟨"compress", "([CII)[B", ⟨[(.array .char), .int, .int], some (.array .byte)⟩, 9, some k13c2⟩
def k13c3 : Code := ⟨3, 7, jdk_52_method_21_code, #[], #[]⟩
def k13m3 : Method := ⟨"compress", "([CI[BII)I", ⟨[(.array .char), .int, (.array .byte), .int, .int], some .int⟩, 9, some k13c3⟩
/-- java/lang/StringUTF16 -/
def k13 : Class := { plain "java/lang/StringUTF16" (some 0) with
  accessFlags := 48
  cf := some (fileOf pool13 12 #[.nestMembers #[627, 629, 369]] #[⟨0, 9, 10, #[]⟩, ⟨8, 261, 262, #[]⟩, ⟨9, 117, 122, #[]⟩, ⟨9, 117, 118, #[]⟩] 48 6 #[] #[⟨26, 61, 62, #[]⟩, ⟨26, 65, 62, #[]⟩, ⟨24, 430, 62, #[]⟩, ⟨4120, 46, 47, #[]⟩])
  fields := #[⟨"HI_BYTE_SHIFT", .int, 26, 0, 0⟩, ⟨"LO_BYTE_SHIFT", .int, 26, 1, 0⟩, ⟨"MAX_LENGTH", .int, 24, 2, 0⟩, ⟨"$assertionsDisabled", .boolean, 4120, 3, 0⟩]
  methods := #[k13m0, k13m1, k13m2, k13m3]
  staticTypes := #[.int, .int, .int, .boolean]
  resolved := Array.replicate 635 none }

def pool14 : Array CpInfo := pool [(2, .class_ 4), (1, u "java/lang/Object"), (0, u "<init>"), (0, u "()V"), (17, .class_ 26), (1, u "jdk/internal/util/Preconditions"), (20, u "checkFromToIndex"), (7, .class_ 56), (0, u "jdk/internal/util/Preconditions$4"), (57, .class_ 115), (0, u "jdk/internal/util/Preconditions$1"), (7, u "SIOOBE_FORMATTER"), (0, u "Ljava/util/function/BiFunction;"), (0, .class_ 126), (0, u "jdk/internal/util/Preconditions$2"), (3, u "AIOOBE_FORMATTER"), (0, .class_ 132), (0, u "jdk/internal/util/Preconditions$3"), (3, u "IOOBE_FORMATTER"), (46, u "(IIILjava/util/function/BiFunction;)I")] 10

def k14m0 : Method := ⟨"<init>", "()V", ⟨[], none⟩, 1, none⟩
def k14c1 : Code := ⟨4, 4, jdk_41_method_12_code, #[], #[]⟩
def k14m1 : Method := ⟨"checkFromToIndex", "(IIILjava/util/function/BiFunction;)I", ⟨[.int, .int, .int, (.object "java/util/function/BiFunction")], some .int⟩, 9, some k14c1⟩
/-- jdk/internal/util/Preconditions -/
def k14 : Class := { plain "jdk/internal/util/Preconditions" (some 0) with
  cf := some (fileOf pool14 24 #[.nestMembers #[55, 131, 125, 114]] #[⟨1, 5, 6, #[]⟩, ⟨9, 47, 183, #[]⟩] 33 2 #[] #[⟨25, 123, 124, #[]⟩, ⟨25, 130, 124, #[]⟩, ⟨25, 136, 124, #[]⟩])
  fields := #[⟨"SIOOBE_FORMATTER", (.object "java/util/function/BiFunction"), 25, 0, 0⟩, ⟨"AIOOBE_FORMATTER", (.object "java/util/function/BiFunction"), 25, 1, 0⟩, ⟨"IOOBE_FORMATTER", (.object "java/util/function/BiFunction"), 25, 2, 0⟩]
  methods := #[k14m0, k14m1]
  staticTypes := #[(.object "java/util/function/BiFunction"), (.object "java/util/function/BiFunction"), (.object "java/util/function/BiFunction")]
  resolved := Array.replicate 194 none
  statics := some 1 }

def pool15 : Array CpInfo := pool [(2, .class_ 4), (1, u "java/lang/Object"), (0, u "<init>"), (0, u "()V"), (7, .class_ 16), (1, u "java/util/Arrays"), (57, .class_ 76), (1, u "java/util/Arrays$NaturalOrder"), (36, .class_ 115), (1, u "java/util/Arrays$LegacyMergeSort"), (1, u "Z"), (21, u "copyOfRange"), (10, .methodref 151 152), (0, .class_ 153), (0, .nameAndType 154 155), (0, u "java/lang/System"), (0, u "arraycopy"), (0, u "(Ljava/lang/Object;ILjava/lang/Object;II)V"), (148, .methodref 305 306), (0, .class_ 307), (0, .nameAndType 308 309), (0, u "java/lang/Math"), (0, u "min"), (0, u "(II)I"), (29, .methodref 14 340), (0, .nameAndType 341 342), (0, u "copyOfRangeByte"), (0, u "([BII)[B"), (0, .methodref 14 344), (0, .nameAndType 345 346), (0, u "checkLength"), (0, u "(II)V"), (28, .class_ 376), (0, u "java/util/Arrays$ArrayList"), (68, u "$assertionsDisabled"), (269, u "MIN_ARRAY_SORT_GRAN"), (0, u "I"), (2, u "INSERTIONSORT_THRESHOLD"), (255, .class_ 976), (0, u "java/util/Arrays$ArrayItr")] 52

def k15m0 : Method := ⟨"<init>", "()V", ⟨[], none⟩, 2, none⟩
def k15c1 : Code := ⟨4, 2, jdk_65_method_131_code, #[], #[]⟩
def k15m1 : Method := ⟨"checkLength", "(II)V", ⟨[.int, .int], none⟩, 10, some k15c1⟩
def k15c2 : Code := ⟨3, 3, jdk_65_method_132_code, #[], #[]⟩
def k15m2 : Method := ⟨"copyOfRange", "([BII)[B", ⟨[(.array .byte), .int, .int], some (.array .byte)⟩, 9, some k15c2⟩
def k15c3 : Code := ⟨6, 5, jdk_65_method_133_code, #[], #[]⟩
def k15m3 : Method := ⟨"copyOfRangeByte", "([BII)[B", ⟨[(.array .byte), .int, .int], some (.array .byte)⟩, 10, some k15c3⟩
/-- java/util/Arrays -/
def k15 : Class := { plain "java/util/Arrays" (some 0) with
  accessFlags := 49
  cf := some (fileOf pool15 14 #[.nestMembers #[975, 375, 113, 74]] #[⟨2, 5, 6, #[]⟩, ⟨10, 345, 346, #[]⟩, ⟨9, 139, 342, #[]⟩, ⟨10, 341, 342, #[]⟩] 49 2 #[] #[⟨26, 715, 716, #[]⟩, ⟨26, 719, 716, #[]⟩, ⟨4120, 445, 117, #[]⟩])
  fields := #[⟨"MIN_ARRAY_SORT_GRAN", .int, 26, 0, 0⟩, ⟨"INSERTIONSORT_THRESHOLD", .int, 26, 1, 0⟩, ⟨"$assertionsDisabled", .boolean, 4120, 2, 0⟩]
  methods := #[k15m0, k15m1, k15m2, k15m3]
  staticTypes := #[.int, .int, .boolean]
  resolved := Array.replicate 1029 none }

def pool16 : Array CpInfo := pool [(2, .class_ 4), (1, u "java/lang/Object"), (0, u "<init>"), (0, u "()V"), (1, .class_ 10), (1, u "java/lang/System"), (0, u "allowSecurityManager"), (0, u "I"), (16, u "cons"), (0, u "Ljava/io/Console;"), (77, .class_ 110), (1, u "java/lang/System$CallersHolder"), (43, u "initialErrStream"), (0, u "Ljava/io/PrintStream;"), (19, u "security"), (0, u "Ljava/lang/SecurityManager;"), (31, .class_ 209), (0, u "java/lang/System$1"), (7, u "props"), (0, u "Ljava/util/Properties;"), (2, u "lineSeparator"), (0, u "Ljava/lang/String;"), (96, .class_ 321), (1, u "java/lang/System$LoggerFinder"), (5, .class_ 328), (0, u "java/lang/System$Logger"), (67, u "err"), (2, u "out"), (91, u "notSupportedJnuEncoding"), (15, u "in"), (17, u "initialIn"), (0, u "Ljava/io/InputStream;"), (35, u "bootLayer"), (0, u "Ljava/lang/ModuleLayer;"), (99, .class_ 664), (0, u "java/lang/System$2"), (9, u "NEVER"), (2, u "MAYBE"), (49, u "arraycopy"), (0, u "(Ljava/lang/Object;ILjava/lang/Object;II)V"), (72, .class_ 802), (0, u "java/lang/System$Logger$Level")] 31

def k16m0 : Method := ⟨"<init>", "()V", ⟨[], none⟩, 2, none⟩
def k16m1 : Method := ⟨"arraycopy", "(Ljava/lang/Object;ILjava/lang/Object;II)V", ⟨[(.object "java/lang/Object"), .int, (.object "java/lang/Object"), .int, .int], none⟩, 265, none⟩
/-- java/lang/System -/
def k16 : Class := { plain "java/lang/System" (some 0) with
  accessFlags := 49
  cf := some (fileOf pool16 8 #[.nestMembers #[319, 327, 801, 108, 663, 208]] #[⟨2, 5, 6, #[]⟩, ⟨265, 727, 728, #[]⟩] 49 2 #[] #[⟨25, 507, 526, #[]⟩, ⟨25, 399, 155, #[]⟩, ⟨25, 396, 155, #[]⟩, ⟨10, 525, 526, #[]⟩, ⟨26, 674, 12, #[]⟩, ⟨26, 677, 12, #[]⟩, ⟨10, 11, 12, #[]⟩, ⟨74, 175, 176, #[]⟩, ⟨10, 491, 222, #[]⟩, ⟨74, 29, 30, #[]⟩, ⟨74, 154, 155, #[]⟩, ⟨10, 217, 218, #[]⟩, ⟨10, 221, 222, #[]⟩, ⟨8, 562, 563, #[]⟩])
  fields := #[⟨"in", (.object "java/io/InputStream"), 25, 0, 0⟩, ⟨"out", (.object "java/io/PrintStream"), 25, 1, 0⟩, ⟨"err", (.object "java/io/PrintStream"), 25, 2, 0⟩, ⟨"initialIn", (.object "java/io/InputStream"), 10, 3, 0⟩, ⟨"NEVER", .int, 26, 4, 0⟩, ⟨"MAYBE", .int, 26, 5, 0⟩, ⟨"allowSecurityManager", .int, 10, 6, 0⟩, ⟨"security", (.object "java/lang/SecurityManager"), 74, 7, 0⟩, ⟨"notSupportedJnuEncoding", (.object "java/lang/String"), 10, 8, 0⟩, ⟨"cons", (.object "java/io/Console"), 74, 9, 0⟩, ⟨"initialErrStream", (.object "java/io/PrintStream"), 74, 10, 0⟩, ⟨"props", (.object "java/util/Properties"), 10, 11, 0⟩, ⟨"lineSeparator", (.object "java/lang/String"), 10, 12, 0⟩, ⟨"bootLayer", (.object "java/lang/ModuleLayer"), 8, 13, 0⟩]
  methods := #[k16m0, k16m1]
  staticTypes := #[(.object "java/io/InputStream"), (.object "java/io/PrintStream"), (.object "java/io/PrintStream"), (.object "java/io/InputStream"), .int, .int, .int, (.object "java/lang/SecurityManager"), (.object "java/lang/String"), (.object "java/io/Console"), (.object "java/io/PrintStream"), (.object "java/util/Properties"), (.object "java/lang/String"), (.object "java/lang/ModuleLayer")]
  resolved := Array.replicate 834 none }

def pool17 : Array CpInfo := pool [(9, u "<init>"), (6, .class_ 18), (1, u "java/lang/Object"), (0, u "()V"), (1, .class_ 23), (1, u "jdk/internal/util/ArraysSupport"), (0, u "LOG2_ARRAY_LONG_INDEX_SCALE"), (0, u "I"), (2, u "U"), (0, u "Ljdk/internal/misc/Unsafe;"), (8, u "BIG_ENDIAN"), (0, u "Z"), (8, u "LOG2_BYTE_BIT_SIZE"), (4, u "LOG2_ARRAY_INT_INDEX_SCALE"), (54, u "JLA"), (0, u "Ljdk/internal/access/JavaLangAccess;"), (11, u "LOG2_ARRAY_BOOLEAN_INDEX_SCALE"), (9, u "LOG2_ARRAY_BYTE_INDEX_SCALE"), (5, u "LOG2_ARRAY_CHAR_INDEX_SCALE"), (5, u "LOG2_ARRAY_SHORT_INDEX_SCALE"), (18, u "LOG2_ARRAY_FLOAT_INDEX_SCALE"), (24, u "LOG2_ARRAY_DOUBLE_INDEX_SCALE"), (89, u "T_BOOLEAN"), (2, u "T_CHAR"), (1, u "T_FLOAT"), (1, u "T_DOUBLE"), (1, u "T_BYTE"), (1, u "T_SHORT"), (1, u "T_INT"), (1, u "T_LONG"), (1, u "SOFT_MAX_ARRAY_LENGTH")] 83

def k17m0 : Method := ⟨"<init>", "()V", ⟨[], none⟩, 2, none⟩
/-- jdk/internal/util/ArraysSupport -/
def k17 : Class := { plain "jdk/internal/util/ArraysSupport" (some 0) with
  cf := some (fileOf pool17 21 #[] #[⟨2, 9, 19, #[]⟩] 33 16 #[] #[⟨24, 28, 29, #[]⟩, ⟨26, 38, 39, #[]⟩, ⟨25, 121, 25, #[]⟩, ⟨25, 131, 25, #[]⟩, ⟨25, 137, 25, #[]⟩, ⟨25, 143, 25, #[]⟩, ⟨25, 53, 25, #[]⟩, ⟨25, 24, 25, #[]⟩, ⟨25, 162, 25, #[]⟩, ⟨25, 187, 25, #[]⟩, ⟨26, 48, 25, #[]⟩, ⟨25, 277, 25, #[]⟩, ⟨25, 280, 25, #[]⟩, ⟨25, 282, 25, #[]⟩, ⟨25, 284, 25, #[]⟩, ⟨25, 286, 25, #[]⟩, ⟨25, 288, 25, #[]⟩, ⟨25, 290, 25, #[]⟩, ⟨25, 292, 25, #[]⟩, ⟨26, 108, 109, #[]⟩, ⟨25, 294, 25, #[]⟩])
  fields := #[⟨"U", (.object "jdk/internal/misc/Unsafe"), 24, 0, 0⟩, ⟨"BIG_ENDIAN", .boolean, 26, 1, 0⟩, ⟨"LOG2_ARRAY_BOOLEAN_INDEX_SCALE", .int, 25, 2, 0⟩, ⟨"LOG2_ARRAY_BYTE_INDEX_SCALE", .int, 25, 3, 0⟩, ⟨"LOG2_ARRAY_CHAR_INDEX_SCALE", .int, 25, 4, 0⟩, ⟨"LOG2_ARRAY_SHORT_INDEX_SCALE", .int, 25, 5, 0⟩, ⟨"LOG2_ARRAY_INT_INDEX_SCALE", .int, 25, 6, 0⟩, ⟨"LOG2_ARRAY_LONG_INDEX_SCALE", .int, 25, 7, 0⟩, ⟨"LOG2_ARRAY_FLOAT_INDEX_SCALE", .int, 25, 8, 0⟩, ⟨"LOG2_ARRAY_DOUBLE_INDEX_SCALE", .int, 25, 9, 0⟩, ⟨"LOG2_BYTE_BIT_SIZE", .int, 26, 10, 0⟩, ⟨"T_BOOLEAN", .int, 25, 11, 0⟩, ⟨"T_CHAR", .int, 25, 12, 0⟩, ⟨"T_FLOAT", .int, 25, 13, 0⟩, ⟨"T_DOUBLE", .int, 25, 14, 0⟩, ⟨"T_BYTE", .int, 25, 15, 0⟩, ⟨"T_SHORT", .int, 25, 16, 0⟩, ⟨"T_INT", .int, 25, 17, 0⟩, ⟨"T_LONG", .int, 25, 18, 0⟩, ⟨"JLA", (.object "jdk/internal/access/JavaLangAccess"), 26, 19, 0⟩, ⟨"SOFT_MAX_ARRAY_LENGTH", .int, 25, 20, 0⟩]
  methods := #[k17m0]
  staticTypes := #[(.object "jdk/internal/misc/Unsafe"), .boolean, .int, .int, .int, .int, .int, .int, .int, .int, .int, .int, .int, .int, .int, .int, .int, .int, .int, (.object "jdk/internal/access/JavaLangAccess"), .int]
  resolved := Array.replicate 378 none }

def pool18 : Array CpInfo := pool [(1, u "java/lang/Cloneable"), (0, .class_ 1), (0, u "java/lang/Object"), (0, .class_ 3)] 3

/-- java/lang/Cloneable -/
def k18 : Class := { plain "java/lang/Cloneable" (some 0) with
  accessFlags := 1537
  cf := some (fileOf pool18 2 #[] #[] 1537 4 #[] #[])
  resolved := Array.replicate 8 none }

/-- the primitive byte -/
def k19 : Class := { plain "byte" none with kind := .primitive 'B', accessFlags := 0x411 }
/-- [B -/
def k20 : Class := { plain "[B" (some 0) with kind := .array 19 .byte, interfaces := #[18, 2], accessFlags := 1041 }

/-- the primitive char -/
def k21 : Class := { plain "char" none with kind := .primitive 'C', accessFlags := 0x411 }
/-- [C -/
def k22 : Class := { plain "[C" (some 0) with kind := .array 21 .char, interfaces := #[18, 2], accessFlags := 1041 }

/-- the primitive int -/
def k23 : Class := { plain "int" none with kind := .primitive 'I', accessFlags := 0x411 }
/-- [I -/
def k24 : Class := { plain "[I" (some 0) with kind := .array 23 .int, interfaces := #[18, 2], accessFlags := 1041 }

def heap : Heap := #[{ cls := 7, slots := #[.long 0, .int 1, .null, .int 0, .null, .int 0, .int 0], vm := .statics 7 },
  { cls := 14, slots := #[.null, .null, .null], vm := .statics 14 }]
def classes : Array Class := #[k0, k1, k2, k3, k4, k5, k6, k7, k8, k9, k10, k11, k12, k13, k14, k15, k16, k17, k18, k19, k20, k21, k22, k23, k24]
def interned : List (Array UInt16 × Addr) := []
def slotsUsed : Nat := 10
def theMethod : MethodId := ⟨1, 3⟩
def args0 : Array Value := #[.int 5, .int 3, .int 4, .int 1, .int 130, .int 7]
def aboutOver (below : List Frame) : State where
  vm := { classes := classes, interned := interned.toArray }
  heap := heap
  slotsUsed := slotsUsed
  threads := #[{ frames := .invoking theMethod args0 :: below }]
def below0 : List Frame := [.native { method := ⟨0, 0⟩, args := #[] }]
def about1 : State := aboutOver below0
def p0 : Program := .bare "" "" ""
def e0 : Env := launch0.env 0 0 0
theorem w_frames : about1.frames = Frame.invoking theMethod args0 :: below0 := rfl
theorem w_args : argsFit about1.vm theMethod args0 = true := by decide +kernel
theorem w_heap : heapFits about1 = true := by decide +kernel
theorem w_runnable : about1.curStatus? = some .runnable := by decide +kernel
theorem w_alone : about1.alone = true := by decide +kernel
theorem w_named : about1.methodNamed? x = some theMethod := by decide +kernel
theorem w_hears : about1.hears theMethod below0 = true := by decide +kernel
theorem w_ripe : about1.ripe theMethod args0 below0 = true := by decide +kernel
theorem w_running : about1.status = .running := rfl
theorem w_room : about1.hasRoom e0.platform room_1 = true :=
  launch0.hasRoom_least _ room_1 (by decide +kernel) (by decide +kernel) (by decide +kernel) (by decide +kernel) (by decide +kernel) (by decide +kernel)
theorem allAtoms_all (ts : List Jvm.Cond) (a : Array Jvm.Value) (st : Jvm.State) : (allAtoms ts).before a st = ts.all (fun c => c.before a st) := by
  induction ts with
  | nil => rfl
  | cons c t ih =>
    show (Jvm.Cond.and c (allAtoms t)).before a st = _
    rw [Jvm.Cond.before_and, ih, List.all_cons]
def words1 : List Jvm.Cond := Jvm.Cond.code x code maxLocals ret :: tables_1
/-- a 'code' word, met by the world's own term for the bytes: nothing is compared byte by byte -/
theorem code_word {y : MethodName} {bytes : ByteArray} {mx : Nat} {rt : Option FieldType} {a : Array Value} {s : State} {m : MethodId} {meth : Method} {c : Code} (h1 : s.methodNamed? y = some m) (h2 : s.vm.method? m = some meth) (h3 : meth.code = some c) (h4 : c.code = bytes)
    (h5 : (c.maxLocals == mx && c.exceptionTable.isEmpty && decide (c.maxStack ≤ mostOperands) && decide (meth.sig.returnType = rt) && !meth.locks && decide (parseMethodDescriptor y.desc = some meth.sig)) = true) : (Jvm.Cond.code y bytes mx rt).before a s = true := by
  simp only [Bool.and_eq_true, beq_iff_eq, Bool.not_eq_true', decide_eq_true_eq] at h5
  obtain ⟨⟨⟨⟨⟨g1, g2⟩, g3⟩, g4⟩, g5⟩, g6⟩ := h5
  simp [Cond.before, Cond.holds, Cond.value, h1, h2, h3, h4, g1, g2, g3, g4, g5, g6]
def isCode : Jvm.Cond → Bool
  | .code _ _ _ _ => true
  | _ => false
theorem all_split {L : List Jvm.Cond} {P : Jvm.Cond → Bool} (h1 : L.all (fun c => isCode c || P c) = true) (h2 : ∀ c ∈ L.filter isCode, P c = true) : L.all P = true := by
  refine List.all_eq_true.mpr fun c hc => ?_
  have h := List.all_eq_true.mp h1 c hc
  rcases Bool.eq_false_or_eq_true (isCode c) with hi | hi
  · exact h2 c (List.mem_filter.mpr ⟨hc, hi⟩)
  · simpa [hi] using h
theorem w_c0 : (Jvm.Cond.code x code maxLocals ret).before args0 about1 = true := code_word (m := ⟨1, 3⟩) (meth := k1m3) (c := k1c3) (by decide +kernel) rfl rfl rfl (by decide +kernel)
theorem w_c1 : (Jvm.Cond.code (⟨"com/example/nearmiss/nearmiss/ElementParentPathPinLaw", "ch", "(I)C"⟩ : Jvm.MethodName) method_2_code (1 : Nat) (Option.some Jvm.ClassFile.FieldType.char)).before args0 about1 = true := code_word (m := ⟨1, 1⟩) (meth := k1m1) (c := k1c1) (by decide +kernel) rfl rfl rfl (by decide +kernel)
theorem w_c2 : (Jvm.Cond.code (⟨"com/example/nearmiss/nearmiss/ElementParentPathPinLaw", "mk", "(ICCCCC)Ljava/lang/String;"⟩ : Jvm.MethodName) method_3_code (6 : Nat) (Option.some (Jvm.ClassFile.FieldType.object "java/lang/String"))).before args0 about1 = true := code_word (m := ⟨1, 2⟩) (meth := k1m2) (c := k1c2) (by decide +kernel) rfl rfl rfl (by decide +kernel)
theorem w_c3 : (Jvm.Cond.code (⟨"java/lang/String", "<init>", "([C)V"⟩ : Jvm.MethodName) jdk_42_method_3_code (2 : Nat) (Option.none : Option Jvm.ClassFile.FieldType)).before args0 about1 = true := code_word (m := ⟨7, 1⟩) (meth := k7m1) (c := k7c1) (by decide +kernel) rfl rfl rfl (by decide +kernel)
theorem w_c4 : (Jvm.Cond.code (⟨"java/lang/String", "<init>", "([CIILjava/lang/Void;)V"⟩ : Jvm.MethodName) jdk_42_method_149_code (6 : Nat) (Option.none : Option Jvm.ClassFile.FieldType)).before args0 about1 = true := code_word (m := ⟨7, 7⟩) (meth := k7m7) (c := k7c7) (by decide +kernel) rfl rfl rfl (by decide +kernel)
theorem w_c5 : (Jvm.Cond.code (⟨"java/lang/Object", "<init>", "()V"⟩ : Jvm.MethodName) object_method_1_code (1 : Nat) (Option.none : Option Jvm.ClassFile.FieldType)).before args0 about1 = true := code_word (m := ⟨0, 0⟩) (meth := k0m0) (c := k0c0) (by decide +kernel) rfl rfl rfl (by decide +kernel)
theorem w_c6 : (Jvm.Cond.code (⟨"com/example/nearmiss/nearmiss/Element", "parentPath", "(Ljava/lang/String;)Ljava/lang/String;"⟩ : Jvm.MethodName) prog_6_method_4_code (2 : Nat) (Option.some (Jvm.ClassFile.FieldType.object "java/lang/String"))).before args0 about1 = true := code_word (m := ⟨10, 0⟩) (meth := k10m0) (c := k10c0) (by decide +kernel) rfl rfl rfl (by decide +kernel)
theorem w_c7 : (Jvm.Cond.code (⟨"java/lang/String", "lastIndexOf", "(I)I"⟩ : Jvm.MethodName) jdk_42_method_82_code (2 : Nat) (Option.some Jvm.ClassFile.FieldType.int)).before args0 about1 = true := code_word (m := ⟨7, 4⟩) (meth := k7m4) (c := k7c4) (by decide +kernel) rfl rfl rfl (by decide +kernel)
theorem w_c8 : (Jvm.Cond.code (⟨"java/lang/String", "length", "()I"⟩ : Jvm.MethodName) jdk_42_method_54_code (1 : Nat) (Option.some Jvm.ClassFile.FieldType.int)).before args0 about1 = true := code_word (m := ⟨7, 2⟩) (meth := k7m2) (c := k7c2) (by decide +kernel) rfl rfl rfl (by decide +kernel)
theorem w_c9 : (Jvm.Cond.code (⟨"java/lang/String", "coder", "()B"⟩ : Jvm.MethodName) jdk_42_method_152_code (1 : Nat) (Option.some Jvm.ClassFile.FieldType.byte)).before args0 about1 = true := code_word (m := ⟨7, 9⟩) (meth := k7m9) (c := k7c9) (by decide +kernel) rfl rfl rfl (by decide +kernel)
theorem w_c10 : (Jvm.Cond.code (⟨"java/lang/String", "lastIndexOf", "(II)I"⟩ : Jvm.MethodName) jdk_42_method_83_code (3 : Nat) (Option.some Jvm.ClassFile.FieldType.int)).before args0 about1 = true := code_word (m := ⟨7, 5⟩) (meth := k7m5) (c := k7c5) (by decide +kernel) rfl rfl rfl (by decide +kernel)
theorem w_c11 : (Jvm.Cond.code (⟨"java/lang/String", "isLatin1", "()Z"⟩ : Jvm.MethodName) jdk_42_method_154_code (1 : Nat) (Option.some Jvm.ClassFile.FieldType.boolean)).before args0 about1 = true := code_word (m := ⟨7, 10⟩) (meth := k7m10) (c := k7c10) (by decide +kernel) rfl rfl rfl (by decide +kernel)
theorem w_c12 : (Jvm.Cond.code (⟨"java/lang/StringLatin1", "lastIndexOf", "([BII)I"⟩ : Jvm.MethodName) jdk_43_method_27_code (4 : Nat) (Option.some Jvm.ClassFile.FieldType.int)).before args0 about1 = true := code_word (m := ⟨11, 3⟩) (meth := k11m3) (c := k11c3) (by decide +kernel) rfl rfl rfl (by decide +kernel)
theorem w_c13 : (Jvm.Cond.code (⟨"java/lang/StringLatin1", "canEncode", "(I)Z"⟩ : Jvm.MethodName) jdk_43_method_4_code (1 : Nat) (Option.some Jvm.ClassFile.FieldType.boolean)).before args0 about1 = true := code_word (m := ⟨11, 1⟩) (meth := k11m1) (c := k11c1) (by decide +kernel) rfl rfl rfl (by decide +kernel)
theorem w_c14 : (Jvm.Cond.code (⟨"java/lang/Math", "min", "(II)I"⟩ : Jvm.MethodName) jdk_29_method_69_code (2 : Nat) (Option.some Jvm.ClassFile.FieldType.int)).before args0 about1 = true := code_word (m := ⟨12, 1⟩) (meth := k12m1) (c := k12c1) (by decide +kernel) rfl rfl rfl (by decide +kernel)
theorem w_c15 : (Jvm.Cond.code (⟨"java/lang/StringUTF16", "compress", "([CII)[B"⟩ : Jvm.MethodName) jdk_52_method_16_code (6 : Nat) (Option.some (Jvm.ClassFile.FieldType.array Jvm.ClassFile.FieldType.byte))).before args0 about1 = true := code_word (m := ⟨13, 2⟩) (meth := k13m2) (c := k13c2) (by decide +kernel) rfl rfl rfl (by decide +kernel)
theorem w_c16 : (Jvm.Cond.code (⟨"java/lang/StringUTF16", "compress", "([CI[BII)I"⟩ : Jvm.MethodName) jdk_52_method_21_code (7 : Nat) (Option.some Jvm.ClassFile.FieldType.int)).before args0 about1 = true := code_word (m := ⟨13, 3⟩) (meth := k13m3) (c := k13c3) (by decide +kernel) rfl rfl rfl (by decide +kernel)
theorem w_c17 : (Jvm.Cond.code (⟨"java/lang/StringUTF16", "coderFromArrayLen", "([BI)B"⟩ : Jvm.MethodName) jdk_52_method_15_code (2 : Nat) (Option.some Jvm.ClassFile.FieldType.byte)).before args0 about1 = true := code_word (m := ⟨13, 1⟩) (meth := k13m1) (c := k13c1) (by decide +kernel) rfl rfl rfl (by decide +kernel)
theorem w_c18 : (Jvm.Cond.code (⟨"java/lang/String", "substring", "(II)Ljava/lang/String;"⟩ : Jvm.MethodName) jdk_42_method_92_code (5 : Nat) (Option.some (Jvm.ClassFile.FieldType.object "java/lang/String"))).before args0 about1 = true := code_word (m := ⟨7, 6⟩) (meth := k7m6) (c := k7c6) (by decide +kernel) rfl rfl rfl (by decide +kernel)
theorem w_c19 : (Jvm.Cond.code (⟨"java/lang/String", "checkBoundsBeginEnd", "(III)V"⟩ : Jvm.MethodName) jdk_42_method_158_code (3 : Nat) (Option.none : Option Jvm.ClassFile.FieldType)).before args0 about1 = true := code_word (m := ⟨7, 11⟩) (meth := k7m11) (c := k7c11) (by decide +kernel) rfl rfl rfl (by decide +kernel)
theorem w_c20 : (Jvm.Cond.code (⟨"jdk/internal/util/Preconditions", "checkFromToIndex", "(IIILjava/util/function/BiFunction;)I"⟩ : Jvm.MethodName) jdk_41_method_12_code (4 : Nat) (Option.some Jvm.ClassFile.FieldType.int)).before args0 about1 = true := code_word (m := ⟨14, 1⟩) (meth := k14m1) (c := k14c1) (by decide +kernel) rfl rfl rfl (by decide +kernel)
theorem w_c21 : (Jvm.Cond.code (⟨"java/lang/StringLatin1", "newString", "([BII)Ljava/lang/String;"⟩ : Jvm.MethodName) jdk_43_method_47_code (3 : Nat) (Option.some (Jvm.ClassFile.FieldType.object "java/lang/String"))).before args0 about1 = true := code_word (m := ⟨11, 4⟩) (meth := k11m4) (c := k11c4) (by decide +kernel) rfl rfl rfl (by decide +kernel)
theorem w_c22 : (Jvm.Cond.code (⟨"java/util/Arrays", "copyOfRange", "([BII)[B"⟩ : Jvm.MethodName) jdk_65_method_132_code (3 : Nat) (Option.some (Jvm.ClassFile.FieldType.array Jvm.ClassFile.FieldType.byte))).before args0 about1 = true := code_word (m := ⟨15, 2⟩) (meth := k15m2) (c := k15c2) (by decide +kernel) rfl rfl rfl (by decide +kernel)
theorem w_c23 : (Jvm.Cond.code (⟨"java/util/Arrays", "copyOfRangeByte", "([BII)[B"⟩ : Jvm.MethodName) jdk_65_method_133_code (5 : Nat) (Option.some (Jvm.ClassFile.FieldType.array Jvm.ClassFile.FieldType.byte))).before args0 about1 = true := code_word (m := ⟨15, 3⟩) (meth := k15m3) (c := k15c3) (by decide +kernel) rfl rfl rfl (by decide +kernel)
theorem w_c24 : (Jvm.Cond.code (⟨"java/util/Arrays", "checkLength", "(II)V"⟩ : Jvm.MethodName) jdk_65_method_131_code (2 : Nat) (Option.none : Option Jvm.ClassFile.FieldType)).before args0 about1 = true := code_word (m := ⟨15, 1⟩) (meth := k15m1) (c := k15c1) (by decide +kernel) rfl rfl rfl (by decide +kernel)
theorem w_c25 : (Jvm.Cond.code (⟨"java/lang/String", "<init>", "([BB)V"⟩ : Jvm.MethodName) jdk_42_method_151_code (3 : Nat) (Option.none : Option Jvm.ClassFile.FieldType)).before args0 about1 = true := code_word (m := ⟨7, 8⟩) (meth := k7m8) (c := k7c8) (by decide +kernel) rfl rfl rfl (by decide +kernel)
theorem w_c26 : (Jvm.Cond.code (⟨"java/lang/String", "equals", "(Ljava/lang/Object;)Z"⟩ : Jvm.MethodName) jdk_42_method_66_code (3 : Nat) (Option.some Jvm.ClassFile.FieldType.boolean)).before args0 about1 = true := code_word (m := ⟨7, 3⟩) (meth := k7m3) (c := k7c3) (by decide +kernel) rfl rfl rfl (by decide +kernel)
theorem w_c27 : (Jvm.Cond.code (⟨"java/lang/StringLatin1", "equals", "([B[B)Z"⟩ : Jvm.MethodName) jdk_43_method_13_code (3 : Nat) (Option.some Jvm.ClassFile.FieldType.boolean)).before args0 about1 = true := code_word (m := ⟨11, 2⟩) (meth := k11m2) (c := k11c2) (by decide +kernel) rfl rfl rfl (by decide +kernel)
def codes1 : List Jvm.Cond := [Jvm.Cond.code x code maxLocals ret, Jvm.Cond.code (⟨"com/example/nearmiss/nearmiss/ElementParentPathPinLaw", "ch", "(I)C"⟩ : Jvm.MethodName) method_2_code (1 : Nat) (Option.some Jvm.ClassFile.FieldType.char), Jvm.Cond.code (⟨"com/example/nearmiss/nearmiss/ElementParentPathPinLaw", "mk", "(ICCCCC)Ljava/lang/String;"⟩ : Jvm.MethodName) method_3_code (6 : Nat) (Option.some (Jvm.ClassFile.FieldType.object "java/lang/String")), Jvm.Cond.code (⟨"java/lang/String", "<init>", "([C)V"⟩ : Jvm.MethodName) jdk_42_method_3_code (2 : Nat) (Option.none : Option Jvm.ClassFile.FieldType), Jvm.Cond.code (⟨"java/lang/String", "<init>", "([CIILjava/lang/Void;)V"⟩ : Jvm.MethodName) jdk_42_method_149_code (6 : Nat) (Option.none : Option Jvm.ClassFile.FieldType), Jvm.Cond.code (⟨"java/lang/Object", "<init>", "()V"⟩ : Jvm.MethodName) object_method_1_code (1 : Nat) (Option.none : Option Jvm.ClassFile.FieldType), Jvm.Cond.code (⟨"com/example/nearmiss/nearmiss/Element", "parentPath", "(Ljava/lang/String;)Ljava/lang/String;"⟩ : Jvm.MethodName) prog_6_method_4_code (2 : Nat) (Option.some (Jvm.ClassFile.FieldType.object "java/lang/String")), Jvm.Cond.code (⟨"java/lang/String", "lastIndexOf", "(I)I"⟩ : Jvm.MethodName) jdk_42_method_82_code (2 : Nat) (Option.some Jvm.ClassFile.FieldType.int), Jvm.Cond.code (⟨"java/lang/String", "length", "()I"⟩ : Jvm.MethodName) jdk_42_method_54_code (1 : Nat) (Option.some Jvm.ClassFile.FieldType.int), Jvm.Cond.code (⟨"java/lang/String", "coder", "()B"⟩ : Jvm.MethodName) jdk_42_method_152_code (1 : Nat) (Option.some Jvm.ClassFile.FieldType.byte), Jvm.Cond.code (⟨"java/lang/String", "lastIndexOf", "(II)I"⟩ : Jvm.MethodName) jdk_42_method_83_code (3 : Nat) (Option.some Jvm.ClassFile.FieldType.int), Jvm.Cond.code (⟨"java/lang/String", "isLatin1", "()Z"⟩ : Jvm.MethodName) jdk_42_method_154_code (1 : Nat) (Option.some Jvm.ClassFile.FieldType.boolean), Jvm.Cond.code (⟨"java/lang/StringLatin1", "lastIndexOf", "([BII)I"⟩ : Jvm.MethodName) jdk_43_method_27_code (4 : Nat) (Option.some Jvm.ClassFile.FieldType.int), Jvm.Cond.code (⟨"java/lang/StringLatin1", "canEncode", "(I)Z"⟩ : Jvm.MethodName) jdk_43_method_4_code (1 : Nat) (Option.some Jvm.ClassFile.FieldType.boolean), Jvm.Cond.code (⟨"java/lang/Math", "min", "(II)I"⟩ : Jvm.MethodName) jdk_29_method_69_code (2 : Nat) (Option.some Jvm.ClassFile.FieldType.int), Jvm.Cond.code (⟨"java/lang/StringUTF16", "compress", "([CII)[B"⟩ : Jvm.MethodName) jdk_52_method_16_code (6 : Nat) (Option.some (Jvm.ClassFile.FieldType.array Jvm.ClassFile.FieldType.byte)), Jvm.Cond.code (⟨"java/lang/StringUTF16", "compress", "([CI[BII)I"⟩ : Jvm.MethodName) jdk_52_method_21_code (7 : Nat) (Option.some Jvm.ClassFile.FieldType.int), Jvm.Cond.code (⟨"java/lang/StringUTF16", "coderFromArrayLen", "([BI)B"⟩ : Jvm.MethodName) jdk_52_method_15_code (2 : Nat) (Option.some Jvm.ClassFile.FieldType.byte), Jvm.Cond.code (⟨"java/lang/String", "substring", "(II)Ljava/lang/String;"⟩ : Jvm.MethodName) jdk_42_method_92_code (5 : Nat) (Option.some (Jvm.ClassFile.FieldType.object "java/lang/String")), Jvm.Cond.code (⟨"java/lang/String", "checkBoundsBeginEnd", "(III)V"⟩ : Jvm.MethodName) jdk_42_method_158_code (3 : Nat) (Option.none : Option Jvm.ClassFile.FieldType), Jvm.Cond.code (⟨"jdk/internal/util/Preconditions", "checkFromToIndex", "(IIILjava/util/function/BiFunction;)I"⟩ : Jvm.MethodName) jdk_41_method_12_code (4 : Nat) (Option.some Jvm.ClassFile.FieldType.int), Jvm.Cond.code (⟨"java/lang/StringLatin1", "newString", "([BII)Ljava/lang/String;"⟩ : Jvm.MethodName) jdk_43_method_47_code (3 : Nat) (Option.some (Jvm.ClassFile.FieldType.object "java/lang/String")), Jvm.Cond.code (⟨"java/util/Arrays", "copyOfRange", "([BII)[B"⟩ : Jvm.MethodName) jdk_65_method_132_code (3 : Nat) (Option.some (Jvm.ClassFile.FieldType.array Jvm.ClassFile.FieldType.byte)), Jvm.Cond.code (⟨"java/util/Arrays", "copyOfRangeByte", "([BII)[B"⟩ : Jvm.MethodName) jdk_65_method_133_code (5 : Nat) (Option.some (Jvm.ClassFile.FieldType.array Jvm.ClassFile.FieldType.byte)), Jvm.Cond.code (⟨"java/util/Arrays", "checkLength", "(II)V"⟩ : Jvm.MethodName) jdk_65_method_131_code (2 : Nat) (Option.none : Option Jvm.ClassFile.FieldType), Jvm.Cond.code (⟨"java/lang/String", "<init>", "([BB)V"⟩ : Jvm.MethodName) jdk_42_method_151_code (3 : Nat) (Option.none : Option Jvm.ClassFile.FieldType), Jvm.Cond.code (⟨"java/lang/String", "equals", "(Ljava/lang/Object;)Z"⟩ : Jvm.MethodName) jdk_42_method_66_code (3 : Nat) (Option.some Jvm.ClassFile.FieldType.boolean), Jvm.Cond.code (⟨"java/lang/StringLatin1", "equals", "([B[B)Z"⟩ : Jvm.MethodName) jdk_43_method_13_code (3 : Nat) (Option.some Jvm.ClassFile.FieldType.boolean)]
theorem codes_eq : words1.filter isCode = codes1 := rfl
theorem w_codes : ∀ c ∈ words1.filter isCode, c.before args0 about1 = true := by
  rw [codes_eq]
  intro c hc
  simp only [codes1, List.mem_cons, List.not_mem_nil, or_false] at hc
  rcases hc with rfl | rfl | rfl | rfl | rfl | rfl | rfl | rfl | rfl | rfl | rfl | rfl | rfl | rfl | rfl | rfl | rfl | rfl | rfl | rfl | rfl | rfl | rfl | rfl | rfl | rfl | rfl | rfl
  · exact w_c0
  · exact w_c1
  · exact w_c2
  · exact w_c3
  · exact w_c4
  · exact w_c5
  · exact w_c6
  · exact w_c7
  · exact w_c8
  · exact w_c9
  · exact w_c10
  · exact w_c11
  · exact w_c12
  · exact w_c13
  · exact w_c14
  · exact w_c15
  · exact w_c16
  · exact w_c17
  · exact w_c18
  · exact w_c19
  · exact w_c20
  · exact w_c21
  · exact w_c22
  · exact w_c23
  · exact w_c24
  · exact w_c25
  · exact w_c26
  · exact w_c27
theorem w_t1 : (words1.take 24).all (fun c => isCode c || c.before args0 about1) = true := by decide +kernel
theorem w_t2 : ((words1.drop 24).take 24).all (fun c => isCode c || c.before args0 about1) = true := by decide +kernel
theorem w_t3 : (((words1.drop 24).drop 24).take 24).all (fun c => isCode c || c.before args0 about1) = true := by decide +kernel
theorem w_t4 : ((((words1.drop 24).drop 24).drop 24).take 24).all (fun c => isCode c || c.before args0 about1) = true := by decide +kernel
theorem w_t5 : (((((words1.drop 24).drop 24).drop 24).drop 24).take 24).all (fun c => isCode c || c.before args0 about1) = true := by decide +kernel
theorem w_t6 : (((((words1.drop 24).drop 24).drop 24).drop 24).drop 24).all (fun c => isCode c || c.before args0 about1) = true := by decide +kernel
theorem w_tables : (allAtoms (Jvm.Cond.code x code maxLocals ret :: tables_1)).before args0 about1 = true := by
  rw [allAtoms_all]
  show words1.all (fun c => c.before args0 about1) = true
  refine all_split ?_ w_codes
  rw [← List.take_append_drop 24 words1, List.all_append, w_t1, ← List.take_append_drop 24 (words1.drop 24), List.all_append, w_t2, ← List.take_append_drop 24 ((words1.drop 24).drop 24), List.all_append, w_t3, ← List.take_append_drop 24 (((words1.drop 24).drop 24).drop 24), List.all_append, w_t4, ← List.take_append_drop 24 ((((words1.drop 24).drop 24).drop 24).drop 24), List.all_append, w_t5, w_t6]
  rfl
theorem w_rest : rest_1_c.before args0 about1 = true := by decide +kernel
theorem w_case : (Jvm.Cond.and given_1 narrow_1).before args0 about1 = true := by decide +kernel
theorem w_consts : constsHeld consts_1 about1 := Jvm.Lit.constsHeldB_iff.mp (by decide +kernel)
theorem w_applies : (headSpec (Jvm.Cond.code x code maxLocals ret :: tables_1) room_1).applies x e0.platform about1 = true :=
  (Spec.applies_iff w_frames).mpr ⟨w_running, w_runnable, w_alone, w_named, w_hears, w_ripe, w_room, w_tables⟩
theorem atStart : AtStart classFile x code maxLocals ret World_1 tables_1 room_1 Calls_1 rest_1 Pre_1 launch0 p0 e0 about1 theMethod args0 below0 :=
  ⟨lists_1, trivial, launch0.admits_env _ _ _, launch0.least_env, fairChoices_fair.cas, fairChoices_fair.clock, w_frames, w_args, w_heap, w_applies, ⟨w_consts, trivial⟩, w_rest, w_case⟩
end start1
theorem witness_1 : WitnessClaimed_1 := ⟨start1.p0, start1.e0, start1.about1, start1.theMethod, start1.args0, start1.below0, start1.atStart⟩
end Jvm.Pilot.@@N@@
